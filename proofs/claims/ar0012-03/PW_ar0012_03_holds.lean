import PyProof.Rows.All
import Wide.All
import OpenK.AllK
import Wide.FinOn
import Lean
import PySem.Challenge.RW_ar0012_03
set_option Elab.async false
set_option linter.all false
set_option genSizeOf false
set_option compiler.extract_closed false
set_option maxRecDepth 100000
set_option maxHeartbeats 8000000
set_option genInjectivity false
open PySem PySem.W PySem.Calls PyProof.Rows
namespace Fb
section
theorem e0b {A B:Prop} {Z:Prop} (h:A∧B) (k:A→B→Z):Z:=h.elim fun ah bh=>k ah bh
theorem e0c {A B C:Prop} {Z:Prop} (h:A∧B∧C) (k:A→B→C→Z):Z:=h.elim fun ah h=>h.elim fun bh ch=>k ah bh ch
theorem e0d {A B C D:Prop} {Z:Prop} (h:A∧B∧C∧D) (k:A→B→C→D→Z):Z:=h.elim fun ah h=>h.elim fun bh h=>h.elim fun ch dh=>k ah bh ch dh
theorem e0e {A B C D E:Prop} {Z:Prop} (h:A∧B∧C∧D∧E) (k:A→B→C→D→E→Z):Z:=h.elim fun ah h=>h.elim fun bh h=>h.elim fun ch h=>h.elim fun dh eh=>k ah bh ch dh eh
theorem e0g {A B C D E F G:Prop} {Z:Prop} (h:A∧B∧C∧D∧E∧F∧G) (k:A→B→C→D→E→F→G→Z):Z:=h.elim fun ah h=>h.elim fun bh h=>h.elim fun ch h=>h.elim fun dh h=>h.elim fun eh h=>h.elim fun fh gh=>k ah bh ch dh eh fh gh
theorem e1a {α:Sort _} {A:α→Prop} {Z:Prop} (h:∃x,A x) (k:∀x,A x→Z):Z:=h.elim fun x h=>k x h
theorem e1b {α:Sort _} {A B:α→Prop} {Z:Prop} (h:∃x,A x∧B x) (k:∀x,A x→B x→Z):Z:=h.elim fun x h=>h.elim fun ah bh=>k x ah bh
theorem e1c {α:Sort _} {A B C:α→Prop} {Z:Prop} (h:∃x,A x∧B x∧C x) (k:∀x,A x→B x→C x→Z):Z:=h.elim fun x h=>h.elim fun ah h=>h.elim fun bh ch=>k x ah bh ch
theorem e1d {α:Sort _} {A B C D:α→Prop} {Z:Prop} (h:∃x,A x∧B x∧C x∧D x) (k:∀x,A x→B x→C x→D x→Z):Z:=h.elim fun x h=>h.elim fun ah h=>h.elim fun bh h=>h.elim fun ch dh=>k x ah bh ch dh
theorem e1e {α:Sort _} {A B C D E:α→Prop} {Z:Prop} (h:∃x,A x∧B x∧C x∧D x∧E x) (k:∀x,A x→B x→C x→D x→E x→Z):Z:=h.elim fun x h=>h.elim fun ah h=>h.elim fun bh h=>h.elim fun ch h=>h.elim fun dh eh=>k x ah bh ch dh eh
theorem e1f {α:Sort _} {A B C D E F:α→Prop} {Z:Prop} (h:∃x,A x∧B x∧C x∧D x∧E x∧F x) (k:∀x,A x→B x→C x→D x→E x→F x→Z):Z:=h.elim fun x h=>h.elim fun ah h=>h.elim fun bh h=>h.elim fun ch h=>h.elim fun dh h=>h.elim fun eh fh=>k x ah bh ch dh eh fh
theorem e1g {α:Sort _} {A B C D E F G:α→Prop} {Z:Prop} (h:∃x,A x∧B x∧C x∧D x∧E x∧F x∧G x) (k:∀x,A x→B x→C x→D x→E x→F x→G x→Z):Z:=h.elim fun x h=>h.elim fun ah h=>h.elim fun bh h=>h.elim fun ch h=>h.elim fun dh h=>h.elim fun eh h=>h.elim fun fh gh=>k x ah bh ch dh eh fh gh
theorem e1l {α:Sort _} {A B C D E F G H I J K L:α→Prop} {Z:Prop} (h:∃x,A x∧B x∧C x∧D x∧E x∧F x∧G x∧H x∧I x∧J x∧K x∧L x) (k:∀x,A x→B x→C x→D x→E x→F x→G x→H x→I x→J x→K x→L x→Z):Z:=h.elim fun x h=>h.elim fun ah h=>h.elim fun bh h=>h.elim fun ch h=>h.elim fun dh h=>h.elim fun eh h=>h.elim fun fh h=>h.elim fun gh h=>h.elim fun hh h=>h.elim fun ih h=>h.elim fun jh h=>h.elim fun kh lh=>k x ah bh ch dh eh fh gh hh ih jh kh lh
theorem e2a {α:Sort _} {β:Sort _} {A:α→β→Prop} {Z:Prop} (h:∃x y,A x y) (k:∀x y,A x y→Z):Z:=h.elim fun x h=>h.elim fun y h=>k x y h
theorem e2b {α:Sort _} {β:Sort _} {A B:α→β→Prop} {Z:Prop} (h:∃x y,A x y∧B x y) (k:∀x y,A x y→B x y→Z):Z:=h.elim fun x h=>h.elim fun y h=>h.elim fun ah bh=>k x y ah bh
theorem e2c {α:Sort _} {β:Sort _} {A B C:α→β→Prop} {Z:Prop} (h:∃x y,A x y∧B x y∧C x y) (k:∀x y,A x y→B x y→C x y→Z):Z:=h.elim fun x h=>h.elim fun y h=>h.elim fun ah h=>h.elim fun bh ch=>k x y ah bh ch
theorem e2d {α:Sort _} {β:Sort _} {A B C D:α→β→Prop} {Z:Prop} (h:∃x y,A x y∧B x y∧C x y∧D x y) (k:∀x y,A x y→B x y→C x y→D x y→Z):Z:=h.elim fun x h=>h.elim fun y h=>h.elim fun ah h=>h.elim fun bh h=>h.elim fun ch dh=>k x y ah bh ch dh
theorem e2e {α:Sort _} {β:Sort _} {A B C D E:α→β→Prop} {Z:Prop} (h:∃x y,A x y∧B x y∧C x y∧D x y∧E x y) (k:∀x y,A x y→B x y→C x y→D x y→E x y→Z):Z:=h.elim fun x h=>h.elim fun y h=>h.elim fun ah h=>h.elim fun bh h=>h.elim fun ch h=>h.elim fun dh eh=>k x y ah bh ch dh eh
theorem e3a {α:Sort _} {β:Sort _} {γ:Sort _} {A:α→β→γ→Prop} {Z:Prop} (h:∃x y z,A x y z) (k:∀x y z,A x y z→Z):Z:=h.elim fun x h=>h.elim fun y h=>h.elim fun z h=>k x y z h
theorem e3b {α:Sort _} {β:Sort _} {γ:Sort _} {A B:α→β→γ→Prop} {Z:Prop} (h:∃x y z,A x y z∧B x y z) (k:∀x y z,A x y z→B x y z→Z):Z:=h.elim fun x h=>h.elim fun y h=>h.elim fun z h=>h.elim fun ah bh=>k x y z ah bh
theorem e3c {α:Sort _} {β:Sort _} {γ:Sort _} {A B C:α→β→γ→Prop} {Z:Prop} (h:∃x y z,A x y z∧B x y z∧C x y z) (k:∀x y z,A x y z→B x y z→C x y z→Z):Z:=h.elim fun x h=>h.elim fun y h=>h.elim fun z h=>h.elim fun ah h=>h.elim fun bh ch=>k x y z ah bh ch
theorem e3d {α:Sort _} {β:Sort _} {γ:Sort _} {A B C D:α→β→γ→Prop} {Z:Prop} (h:∃x y z,A x y z∧B x y z∧C x y z∧D x y z) (k:∀x y z,A x y z→B x y z→C x y z→D x y z→Z):Z:=h.elim fun x h=>h.elim fun y h=>h.elim fun z h=>h.elim fun ah h=>h.elim fun bh h=>h.elim fun ch dh=>k x y z ah bh ch dh
theorem e3e {α:Sort _} {β:Sort _} {γ:Sort _} {A B C D E:α→β→γ→Prop} {Z:Prop} (h:∃x y z,A x y z∧B x y z∧C x y z∧D x y z∧E x y z) (k:∀x y z,A x y z→B x y z→C x y z→D x y z→E x y z→Z):Z:=h.elim fun x h=>h.elim fun y h=>h.elim fun z h=>h.elim fun ah h=>h.elim fun bh h=>h.elim fun ch h=>h.elim fun dh eh=>k x y z ah bh ch dh eh
theorem e3f {α:Sort _} {β:Sort _} {γ:Sort _} {A B C D E F:α→β→γ→Prop} {Z:Prop} (h:∃x y z,A x y z∧B x y z∧C x y z∧D x y z∧E x y z∧F x y z) (k:∀x y z,A x y z→B x y z→C x y z→D x y z→E x y z→F x y z→Z):Z:=h.elim fun x h=>h.elim fun y h=>h.elim fun z h=>h.elim fun ah h=>h.elim fun bh h=>h.elim fun ch h=>h.elim fun dh h=>h.elim fun eh fh=>k x y z ah bh ch dh eh fh
theorem e3g {α:Sort _} {β:Sort _} {γ:Sort _} {A B C D E F G:α→β→γ→Prop} {Z:Prop} (h:∃x y z,A x y z∧B x y z∧C x y z∧D x y z∧E x y z∧F x y z∧G x y z) (k:∀x y z,A x y z→B x y z→C x y z→D x y z→E x y z→F x y z→G x y z→Z):Z:=h.elim fun x h=>h.elim fun y h=>h.elim fun z h=>h.elim fun ah h=>h.elim fun bh h=>h.elim fun ch h=>h.elim fun dh h=>h.elim fun eh h=>h.elim fun fh gh=>k x y z ah bh ch dh eh fh gh
theorem e4b {α:Sort _} {β:Sort _} {γ:Sort _} {δ:Sort _} {A B:α→β→γ→δ→Prop} {Z:Prop} (h:∃x y z u,A x y z u∧B x y z u) (k:∀x y z u,A x y z u→B x y z u→Z):Z:=h.elim fun x h=>h.elim fun y h=>h.elim fun z h=>h.elim fun u h=>h.elim fun ah bh=>k x y z u ah bh
theorem e4c {α:Sort _} {β:Sort _} {γ:Sort _} {δ:Sort _} {A B C:α→β→γ→δ→Prop} {Z:Prop} (h:∃x y z u,A x y z u∧B x y z u∧C x y z u) (k:∀x y z u,A x y z u→B x y z u→C x y z u→Z):Z:=h.elim fun x h=>h.elim fun y h=>h.elim fun z h=>h.elim fun u h=>h.elim fun ah h=>h.elim fun bh ch=>k x y z u ah bh ch
theorem e4d {α:Sort _} {β:Sort _} {γ:Sort _} {δ:Sort _} {A B C D:α→β→γ→δ→Prop} {Z:Prop} (h:∃x y z u,A x y z u∧B x y z u∧C x y z u∧D x y z u) (k:∀x y z u,A x y z u→B x y z u→C x y z u→D x y z u→Z):Z:=h.elim fun x h=>h.elim fun y h=>h.elim fun z h=>h.elim fun u h=>h.elim fun ah h=>h.elim fun bh h=>h.elim fun ch dh=>k x y z u ah bh ch dh
theorem e4e {α:Sort _} {β:Sort _} {γ:Sort _} {δ:Sort _} {A B C D E:α→β→γ→δ→Prop} {Z:Prop} (h:∃x y z u,A x y z u∧B x y z u∧C x y z u∧D x y z u∧E x y z u) (k:∀x y z u,A x y z u→B x y z u→C x y z u→D x y z u→E x y z u→Z):Z:=h.elim fun x h=>h.elim fun y h=>h.elim fun z h=>h.elim fun u h=>h.elim fun ah h=>h.elim fun bh h=>h.elim fun ch h=>h.elim fun dh eh=>k x y z u ah bh ch dh eh
theorem e4f {α:Sort _} {β:Sort _} {γ:Sort _} {δ:Sort _} {A B C D E F:α→β→γ→δ→Prop} {Z:Prop} (h:∃x y z u,A x y z u∧B x y z u∧C x y z u∧D x y z u∧E x y z u∧F x y z u) (k:∀x y z u,A x y z u→B x y z u→C x y z u→D x y z u→E x y z u→F x y z u→Z):Z:=h.elim fun x h=>h.elim fun y h=>h.elim fun z h=>h.elim fun u h=>h.elim fun ah h=>h.elim fun bh h=>h.elim fun ch h=>h.elim fun dh h=>h.elim fun eh fh=>k x y z u ah bh ch dh eh fh
theorem e4g {α:Sort _} {β:Sort _} {γ:Sort _} {δ:Sort _} {A B C D E F G:α→β→γ→δ→Prop} {Z:Prop} (h:∃x y z u,A x y z u∧B x y z u∧C x y z u∧D x y z u∧E x y z u∧F x y z u∧G x y z u) (k:∀x y z u,A x y z u→B x y z u→C x y z u→D x y z u→E x y z u→F x y z u→G x y z u→Z):Z:=h.elim fun x h=>h.elim fun y h=>h.elim fun z h=>h.elim fun u h=>h.elim fun ah h=>h.elim fun bh h=>h.elim fun ch h=>h.elim fun dh h=>h.elim fun eh h=>h.elim fun fh gh=>k x y z u ah bh ch dh eh fh gh
theorem e5e {α:Sort _} {β:Sort _} {γ:Sort _} {δ:Sort _} {ε:Sort _} {A B C D E:α→β→γ→δ→ε→Prop} {Z:Prop} (h:∃x y z u v,A x y z u v∧B x y z u v∧C x y z u v∧D x y z u v∧E x y z u v) (k:∀x y z u v,A x y z u v→B x y z u v→C x y z u v→D x y z u v→E x y z u v→Z):Z:=h.elim fun x h=>h.elim fun y h=>h.elim fun z h=>h.elim fun u h=>h.elim fun v h=>h.elim fun ah h=>h.elim fun bh h=>h.elim fun ch h=>h.elim fun dh eh=>k x y z u v ah bh ch dh eh
theorem e5f {α:Sort _} {β:Sort _} {γ:Sort _} {δ:Sort _} {ε:Sort _} {A B C D E F:α→β→γ→δ→ε→Prop} {Z:Prop} (h:∃x y z u v,A x y z u v∧B x y z u v∧C x y z u v∧D x y z u v∧E x y z u v∧F x y z u v) (k:∀x y z u v,A x y z u v→B x y z u v→C x y z u v→D x y z u v→E x y z u v→F x y z u v→Z):Z:=h.elim fun x h=>h.elim fun y h=>h.elim fun z h=>h.elim fun u h=>h.elim fun v h=>h.elim fun ah h=>h.elim fun bh h=>h.elim fun ch h=>h.elim fun dh h=>h.elim fun eh fh=>k x y z u v ah bh ch dh eh fh
theorem ns {α:Type u} {x:α} {Z:Prop} (h:none=some x):Z:=by cases h
theorem sn {α:Type u} {x:α} {Z:Prop} (h:some x=none):Z:=ns h.symm
theorem tf {Z:Prop} (h:true=false):Z:=by cases h
theorem ft {Z:Prop} (h:false=true):Z:=by cases h
theorem nc {α:Type u} {x:α} {l:List α} {Z:Prop} (h:[]=x::l):Z:=by cases h
theorem cn {α:Type u} {x:α} {l:List α} {Z:Prop} (h:x::l=[]):Z:=nc h.symm
theorem sj {α:Type u} {x y:α} (h:some x=some y):x=y:=Option.some.inj h
end
section
set_option genSizeOf false
inductive Ln where|v (i:Nat)|n (k:Nat)|a (x y:Ln)|m (k:Nat) (x:Ln)|r (x:Ln) (k:Nat)
inductive Li where|v (i:Nat)|w (i:Nat)|c (x:Ln)|n (k:Int)|a (x y:Li)|s (x y:Li)|m (k:Int) (x:Li)|r (x:Li) (k:Int)|g (x:Li)
noncomputable abbrev aa : Li := .v 0
noncomputable abbrev ab : Ln := .v 0
noncomputable abbrev ae : Ln := .v 1
noncomputable abbrev af : Li := .w 0
noncomputable abbrev ai : Li := .n 0
noncomputable abbrev aj : Ln := .n 1
noncomputable abbrev ak : Ln := .v 2
noncomputable abbrev am : Li := .w 1
noncomputable abbrev an : Li := .v 1
noncomputable abbrev ao : Li := .n 4
noncomputable abbrev ap : Li := .n 1
noncomputable abbrev aq : Ln := .n 16777216
noncomputable abbrev au : Li := .w 2
noncomputable abbrev av : Ln := .v 3
noncomputable abbrev ax : Li := .w 3
noncomputable abbrev ay : Ln := .n 0
noncomputable abbrev az : Ln := .v 4
noncomputable abbrev aA : Li := .n 2
noncomputable abbrev aB : Li := .v 2
noncomputable abbrev aC : Ln := .n 1048576
noncomputable abbrev aD : Li := .n (-2147483648)
noncomputable abbrev aE : Ln := .n 8
noncomputable abbrev aF : Ln := .n 4
noncomputable abbrev aG : Ln := .n 2
noncomputable abbrev aH : Li := .n 2147483648
noncomputable abbrev aI : Ln := .n 1000
noncomputable abbrev aJ : Li := .n 4294967295
noncomputable abbrev aK : Li := .w 4
noncomputable abbrev aL : Ln := .v 5
noncomputable abbrev aM : Ln := .n 3
noncomputable abbrev aN : Li := .v 3
noncomputable abbrev aO : Li := .n 1048576
noncomputable abbrev aP : Li := .n 1000003
noncomputable abbrev aQ : Ln := .n 100000
noncomputable abbrev aR : Ln := .n 100
noncomputable abbrev aS : Ln := .n 10
noncomputable abbrev aT : Li := .n 8
noncomputable abbrev aU : Ln := .n 20
noncomputable abbrev aV : Li := .n (-1000003)
noncomputable abbrev aW : Li := .n 65535
noncomputable abbrev aX : Li := .n 18446744073709551616
noncomputable abbrev aY : Li := .n 2147483647
noncomputable abbrev aZ : Ln := .n 900000
noncomputable abbrev a6 : Li := .n 3
noncomputable abbrev a7 : Li := .n 6
noncomputable abbrev a8 : Ln := .a ab aj
noncomputable abbrev a9 : Ln := .a ab ae
noncomputable abbrev bc : Ln := .a ae aj
noncomputable abbrev be : Li := .a aa ap
noncomputable abbrev bf : Li := .s af aa
noncomputable abbrev bg : Ln := .a ay aj
noncomputable abbrev bi : Li := .s aa an
noncomputable abbrev bj : Ln := .m 2 ab
noncomputable abbrev bl : Li := .a aa an
noncomputable abbrev bn : Li := .a ai ap
noncomputable abbrev bp : Ln := .a ae ak
noncomputable abbrev bq : Li := .r af 2
noncomputable abbrev bt : Ln := .a ak aj
noncomputable abbrev bu : Li := .a af ao
noncomputable abbrev bv : Li := .s af an
noncomputable abbrev bw : Li := .a af ap
noncomputable abbrev bz : Li := .a am ao
noncomputable abbrev bA : Ln := .a av aj
noncomputable abbrev bB : Ln := .a ak av
noncomputable abbrev bC : Ln := .a ak ae
noncomputable abbrev bD : Li := .m 2 af
noncomputable abbrev bE : Li := .s aa af
noncomputable abbrev bF : Li := .a af aA
noncomputable abbrev bG : Li := .s af ap
noncomputable abbrev bH : Li := .s an aa
noncomputable abbrev bI : Ln := .a ab ak
noncomputable abbrev bJ : Ln := .m 2 ak
noncomputable abbrev bK : Ln := .a av aF
noncomputable abbrev bL : Ln := .m 200 ae
noncomputable abbrev bM : Ln := .m 2 ae
noncomputable abbrev bN : Li := .m 2 am
noncomputable abbrev bO : Li := .m 4 am
noncomputable abbrev bP : Li := .a an ap
noncomputable abbrev bQ : Li := .c ay
noncomputable abbrev bR : Li := .a am aa
noncomputable abbrev bS : Ln := .a ae av
noncomputable abbrev bT : Ln := .a ae ab
noncomputable abbrev bU : Li := .s aa ap
noncomputable abbrev bV : Li := .m 2 au
noncomputable abbrev bW : Li := .g aa
noncomputable abbrev bX : Li := .a au aA
noncomputable abbrev b6 : Ln := .a ab aF
noncomputable abbrev b7 : Li := .a af am
noncomputable abbrev b8 : Li := .a am aA
noncomputable abbrev b9 : Li := .a au ao
noncomputable abbrev cb : Li := .a aa af
noncomputable abbrev cg : Li := .a aa am
noncomputable abbrev cj : Li := .a af aa
noncomputable abbrev cm : Li := .a ax ao
noncomputable abbrev cq : Li := .a aK ao
noncomputable abbrev cu : Li := .r au 2
noncomputable abbrev cv : Ln := .m 3 ak
noncomputable abbrev cw : Ln := .r ae 4
noncomputable abbrev cy : Ln := .a ak ab
noncomputable abbrev cz : Ln := .a aF ab
noncomputable abbrev cA : Li := .s aa ao
noncomputable abbrev cB : Ln := .a bj aj
noncomputable abbrev cC : Ln := .a ab bc
noncomputable abbrev cD : Li := .s bq af
noncomputable abbrev cE : Li := .a bf ao
noncomputable abbrev cF : Li := .a ao bN
noncomputable abbrev cG : Ln := .m 2 a8
noncomputable abbrev cH : Ln := .a a8 ae
noncomputable abbrev cI : Ln := .a ae bJ
noncomputable abbrev cJ : Li := .c bc
noncomputable abbrev cK : Ln := .a a9 aj
noncomputable abbrev cL : Li := .m 1 bQ
noncomputable abbrev cM : Ln := .a ab bg
noncomputable abbrev cN : Ln := .a bj ae
noncomputable def Ln.ev (cn:List Nat):Ln→Nat
 |.v i=>cn.getD i 0
 |.n k=>k
 |.a x y=>x.ev cn+y.ev cn
 |.m k x=>k*x.ev cn
 |.r x k=>x.ev cn*k
noncomputable def Li.ev (ci:List Int) (cn:List Nat):Li→Int
 |.v i=>ci.getD i 0
 |.w i=>((cn.getD i 0:Nat):Int)
 |.c x=>((x.ev cn:Nat):Int)
 |.n k=>k
 |.a x y=>x.ev ci cn+y.ev ci cn
 |.s x y=>x.ev ci cn-y.ev ci cn
 |.m k x=>k*x.ev ci cn
 |.r x k=>x.ev ci cn*k
 |.g x=>-x.ev ci cn
noncomputable def ml (k:Int) (q:List Int):List Int:=q.map (k*·)
noncomputable def jm (k:Int):List Int→List Int→List Int
 |[],q=>ml k q
 |p,[]=>p
 |x::p,y::q=>(x+k*y)::jm k p q
noncomputable def ny (i:Nat):List Int:=List.replicate i 0++[1]
noncomputable def Ln.row:Ln→List Int
 |.v i=>ny (2*i+2)
 |.n k=>[(k:Int)]
 |.a x y=>jm 1 x.row y.row
 |.m k x=>ml k x.row
 |.r x k=>ml k x.row
noncomputable def Li.row:Li→List Int
 |.v i=>ny (2*i+1)
 |.w i=>ny (2*i+2)
 |.c x=>x.row
 |.n k=>[k]
 |.a x y=>jm 1 x.row y.row
 |.s x y=>jm (-1) x.row y.row
 |.m k x=>ml k x.row
 |.r x k=>ml k x.row
 |.g x=>ml (-1) x.row
noncomputable def jV (f:Nat→Int):List Int→Nat→Int
 |[],_=>0
 |x::p,i=>x*f i+jV f p (i+1)
theorem iC (f:Nat→Int) (k:Int) (q:List Int) (i:Nat):jV f (ml k q) i=k*jV f q i:=by
 induction q generalizing i with
 |nil=>exact (Int.mul_zero k).symm
 |cons x q ih=>show k*x*f i+jV f (ml k q) (i+1)=k*(x*f i+jV f q (i+1));rw [ih,Int.mul_add,Int.mul_assoc]
theorem kW (f:Nat→Int) (k:Int) (p q:List Int) (i:Nat):jV f (jm k p q) i=jV f p i+k*jV f q i:=by
 induction p generalizing q i with
 |nil=>exact (iC f k q i).trans (Int.zero_add _).symm
 |cons x p ih=>cases q with
  |nil=>exact ((congrArg (jV f (x::p) i+·) (Int.mul_zero k)).trans (Int.add_zero _)).symm
  |cons y q=>show (x+k*y)*f i+jV f (jm k p q) (i+1)=x*f i+jV f p (i+1)+k*(y*f i+jV f q (i+1));rw [ih,Int.add_mul,Int.mul_add,Int.mul_assoc];ac_rfl
theorem qE (f:Nat→Int) (n i:Nat):jV f (ny n) i=f (i+n):=by
 induction n generalizing i with
 |zero=>show 1*f i+0=f i;rw [Int.one_mul,Int.add_zero]
 |succ n ih=>show 0*f i+jV f (ny n) (i+1)=_;rw [Int.zero_mul,Int.zero_add,ih,Nat.add_right_comm];rfl
noncomputable def iN (ci:List Int) (cn:List Nat) (i:Nat):Int:=match i with
 |0=>1
 |i+1=>if i % 2=0 then ci.getD (i / 2) 0 else ((cn.getD (i / 2) 0:Nat):Int)
theorem vG (ci:List Int) (cn:List Nat) (k:Int):jV (iN ci cn) [k] 0=k:=(Int.add_zero _).trans (Int.mul_one k)
theorem BI (ci:List Int) (cn:List Nat) (i:Nat):jV (iN ci cn) (ny (2*i+1)) 0=ci.getD i 0:=by
 refine (qE ..).trans ?_
 rw [Nat.zero_add]
 refine (if_pos (Nat.mul_mod_right 2 i)).trans ?_
 rw [Nat.mul_div_cancel_left i (by decide)]
theorem yZ (ci:List Int) (cn:List Nat) (i:Nat):jV (iN ci cn) (ny (2*i+2)) 0=((cn.getD i 0:Nat):Int):=by
 refine (qE ..).trans ?_
 rw [Nat.zero_add]
 refine (if_neg (by rw [Nat.mul_add_mod];decide)).trans ?_
 rw [Nat.mul_add_div (by decide)];rfl
theorem Ln.row_ev (ci:List Int) (cn:List Nat) (x:Ln):jV (iN ci cn) x.row 0=(x.ev cn:Int):=by
 induction x with
 |v i=>exact yZ ci cn i
 |n k=>exact vG ci cn k
 |a x y hx hy=>exact (kW ..).trans (by rw [hx,hy,Int.one_mul];exact (Int.natCast_add _ _).symm)
 |m k x hx=>exact (iC ..).trans (by rw [hx];exact (Int.natCast_mul _ _).symm)
 |r x k hx=>exact (iC ..).trans (by rw [hx,Int.mul_comm];exact (Int.natCast_mul _ _).symm)
theorem Li.row_ev (ci:List Int) (cn:List Nat) (x:Li):jV (iN ci cn) x.row 0=x.ev ci cn:=by
 induction x with
 |v i=>exact BI ci cn i
 |w i=>exact yZ ci cn i
 |c x=>exact x.row_ev ci cn
 |n k=>exact vG ci cn k
 |a x y hx hy=>exact (kW ..).trans (by rw [hx,hy,Int.one_mul];rfl)
 |s x y hx hy=>exact (kW ..).trans (by rw [hx,hy,Int.neg_one_mul];rfl)
 |m k x hx=>exact (iC ..).trans (by rw [hx];rfl)
 |r x k hx=>exact (iC ..).trans (by rw [hx,Int.mul_comm];rfl)
 |g x hx=>exact (iC ..).trans (by rw [hx,Int.neg_one_mul];rfl)
inductive Lh where|i (k:Nat) (x y:Li)|j (k:Nat) (x y:Ln)
noncomputable def Lh.row:Lh→List Int→List Int
 |.i k x y,acc=>jm k acc (jm (-1) y.row x.row)
 |.j k x y,acc=>jm k acc (jm (-1) y.row x.row)
noncomputable def Lh.den (ci:List Int) (cn:List Nat):Lh→Prop
 |.i _ x y=>x.ev ci cn≤y.ev ci cn
 |.j _ x y=>x.ev cn≤y.ev cn
noncomputable def rQ (ci:List Int) (cn:List Nat):List Lh→Prop→Prop
 |[],p=>p
 |h::hs,p=>h.den ci cn→rQ ci cn hs p
theorem kU {ci:List Int} {cn:List Nat} {p q:List Int} {x y:Int} (hx:jV (iN ci cn) p 0=x) (hy:jV (iN ci cn) q 0=y):jV (iN ci cn) (jm (-1) q p) 0=y-x:=by
 rw [kW,hx,hy,Int.neg_one_mul];rfl
theorem Lh.row_ok {ci:List Int} {cn:List Nat} {h:Lh} (hd:h.den ci cn) {acc:List Int} (ha:0≤jV (iN ci cn) acc 0):0≤jV (iN ci cn) (h.row acc) 0:=by
 have key:∀(k:Nat) (p:List Int) (x y:Int),jV (iN ci cn) p 0=y-x→x≤y→0≤jV (iN ci cn) (jm k acc p) 0:=fun k p x y e h=>by
  rw [kW,e]
  exact Int.add_nonneg ha (Int.mul_nonneg (Int.natCast_nonneg _) (Int.sub_nonneg_of_le h))
 cases h with
 |i k x y=>exact key k _ _ _ (kU (x.row_ev ci cn) (y.row_ev ci cn)) hd
 |j k x y=>exact key k _ _ _ (kU (x.row_ev ci cn) (y.row_ev ci cn)) (Int.ofNat_le.mpr hd)
noncomputable def Dh:List Int→Bool→Bool
 |[],_=>true
 |z::r,b=>(match b with|true=>z==0|false=>decide (0≤z))&&Dh r (!b)
theorem z6 {ci:List Int} {cn:List Nat}:∀(r:List Int) (i:Nat),Dh r (i % 2==0)=true→0≤jV (iN ci cn) r (i+1):=by
 intro r
 induction r with
 |nil=>exact fun _ _=>Int.le_refl 0
 |cons z r ih=>
  intro i h
  have h:=(Bool.and_eq_true _ _).mp h
  have h2:=ih (i+1) (by rw [←h.2];congr 1;rcases Nat.mod_two_eq_zero_or_one i with q|q<;>rw [Nat.add_mod,q]<;>rfl)
  refine Int.add_nonneg ?_ h2
  have h1:=h.1
  rcases Nat.mod_two_eq_zero_or_one i with q|q
  ·rw [q] at h1
   rw [eq_of_beq h1,Int.zero_mul];exact Int.le_refl 0
  ·rw [q] at h1
   refine Int.mul_nonneg (of_decide_eq_true h1) ?_
   show 0≤if i % 2=0 then _ else _
   rw [if_neg (by rw [q];decide)]
   exact Int.natCast_nonneg _
noncomputable def tZ (k:Nat) (g:List Int):List Lh→List Int→Bool
 |[],acc=>Nat.blt 0 k&&match jm (-1) (ml k g) acc with
  |[]=>true
  |z::r=>decide (-(k:Int)<z)&&Dh r true
 |h::hs,acc=>tZ k g hs (h.row acc)
theorem vJ {ci:List Int} {cn:List Nat} {k:Nat} {g:List Int}:∀hs acc,0≤jV (iN ci cn) acc 0→tZ k g hs acc=true→rQ ci cn hs (0≤jV (iN ci cn) g 0):=by
 intro hs
 induction hs with
 |nil=>
  intro acc h0 h
  rw [tZ,Bool.and_eq_true] at h
  refine e0b h fun hk h=>?_
  have hk:0<k:=Nat.le_of_ble_eq_true hk
  have e:=kU (ci:=ci) (cn:=cn) (p:=acc) (q:=ml k g) rfl rfl
  rw [iC] at e
  have h1 : -(k:Int)<jV (iN ci cn) (jm (-1) (ml k g) acc) 0:=by
   generalize jm (-1) (ml k g) acc=d at h
   cases d with
   |nil=>show -(k:Int)<0;omega
   |cons z r=>
    rw [Bool.and_eq_true] at h
    have h2:=z6 (ci:=ci) (cn:=cn) r 0 h.2
    have h3:=of_decide_eq_true h.1
    refine (?_:_<z*1+jV _ r (0+1))
    omega
  rw [e] at h1
  refine (?_:0≤jV (iN ci cn) g 0)
  have h2:(k:Int)*0<k*(jV (iN ci cn) g 0+1):=by rw [Int.mul_add,Int.mul_zero,Int.mul_one];omega
  have:=Int.lt_of_mul_lt_mul_left h2 (by omega)
  omega
 |cons a hs ih=>exact fun acc h0 h ha=>ih _ (Lh.row_ok ha h0) h
theorem lz {ci:List Int} {cn:List Nat} {p q:Prop} (hpq:p→q):∀hs,rQ ci cn hs p→rQ ci cn hs q:=by
 intro hs
 induction hs with
 |nil=>exact hpq
 |cons a hs ih=>exact fun h ha=>ih (h ha)
theorem lin (ci:List Int) (cn:List Nat) (x y:Li) (k:Nat) (hs:List Lh) (h:tZ k (jm (-1) y.row x.row) hs []=true):rQ ci cn hs (x.ev ci cn≤y.ev ci cn):=
 lz (fun q=>by rw [kU (x.row_ev ci cn) (y.row_ev ci cn)] at q;exact Int.le_of_sub_nonneg q) hs (vJ hs [] (Int.le_refl 0) h)
theorem cT (ci:List Int) (cn:List Nat) (x y:Ln) (k:Nat) (hs:List Lh) (h:tZ k (jm (-1) y.row x.row) hs []=true):rQ ci cn hs (x.ev cn≤y.ev cn):=
 lz (fun q=>by rw [kU (x.row_ev ci cn) (y.row_ev ci cn)] at q;exact Int.ofNat_le.mp (Int.le_of_sub_nonneg q)) hs (vJ hs [] (Int.le_refl 0) h)
theorem y3 (ci:List Int) (cn:List Nat) (hs:List Lh) (h:tZ 1 [-1] hs []=true):rQ ci cn hs False:=
 lz (fun q=>by rw [vG] at q;exact absurd q (by decide)) hs (vJ hs [] (Int.le_refl 0) h)
end
section
noncomputable def eP (b:Array UInt8):Obj:={cls:=.type "bytearray",data:=.bytearray b 0}
noncomputable def qK (c:Char) (w:Nat):Builtin.Struct.Format:=⟨false,false,[⟨c,1,0,w⟩],w,1⟩
theorem gS:Slot "bytearray" "__buffer__" "bytearray.__buffer__":=
 .of (owner:="bytearray") (n:="__buffer__") (by rw [typeLookup_type,builtinLookup_eq_fast];kernel_rfl) (by decide +kernel) (by decide +kernel) (by decide +kernel)
  (by first|exact .inl (by decide +kernel)|exact .inr (by decide +kernel)) (by rw [isSubtype_type];kernel_rfl)
theorem iW:Slot "_struct.Struct" "pack_into" "_struct.Struct.pack_into":=
 .of (owner:="_struct.Struct") (n:="pack_into") (by rw [typeLookup_type,builtinLookup_eq_fast];kernel_rfl) (by decide +kernel) (by decide +kernel) (by decide +kernel)
  (by first|exact .inl (by decide +kernel)|exact .inr (by decide +kernel)) (by rw [isSubtype_type];kernel_rfl)
theorem iX:Slot "_struct.Struct" "unpack_from" "_struct.Struct.unpack_from":=
 .of (owner:="_struct.Struct") (n:="unpack_from") (by rw [typeLookup_type,builtinLookup_eq_fast];kernel_rfl) (by decide +kernel) (by decide +kernel) (by decide +kernel)
  (by first|exact .inl (by decide +kernel)|exact .inr (by decide +kernel)) (by rw [isSubtype_type];kernel_rfl)
theorem pK:entryFor table "_struct.Struct.pack_into" = some Builtin.«_struct.Struct.pack_into»:=entryFor_of_tree (by kernel_rfl)
theorem pM:entryFor table "_struct.Struct.unpack_from" = some Builtin.«_struct.Struct.unpack_from»:=entryFor_of_tree (by kernel_rfl)
theorem pL:entryFor table "_struct.pack_into.held" = some Builtin.«_struct.pack_into.held»:=entryFor_of_tree (by kernel_rfl)
theorem rl (a b c d:Value):argsOk "_struct.Struct.pack_into" ⟨[a,b,c,d],[]⟩:=by unfold argsOk;kernel_rfl
theorem rn (a b c:Value):argsOk "_struct.Struct.unpack_from" ⟨[a,b,c],[]⟩:=by unfold argsOk;kernel_rfl
section
variable {M:Model} {A:Around} {E:Value→Shared→Prop} {s:Shared}
theorem dn {a:Addr} {b:Array UInt8} {f:Array UInt8→Array UInt8} {Q:Unit→Shared→Prop}
  (ho:s.heap.get? a=some (eP b)) (hz:(f b).size≤sizeLine)
  (h:Q () {s with heap:=s.heap.update a (Obj.mapBytearray f)}):wpAny M A (updateBytearray a f) Q E s:=by
 unfold updateBytearray
 refine wpAny_bind (wpAny_load ho ?_)
 refine (?_:wpAny M A (update a (Obj.mapBytearray f)>>=fun _=>lookBehind a) Q E s)
 refine wpAny_bind (wpAny_update ho ?_)
 exact wpAny_lookBehind (o:=eP (f b)) (Heap.get?_update_self _ ho rfl) (if_neg (Nat.not_lt.mpr hz)) h
end
theorem fX {h:Heap} {a:Addr} {b:Array UInt8} (f:Array UInt8→Array UInt8) (ho:h.get? a=some (eP b)) :
  (h.update a (Obj.mapBytearray f)).get? a=some (eP (f b)):=Heap.get?_update_self _ ho rfl
open Builtin Builtin.Bytes Builtin.Struct
inductive Fm|B|H|I|i
noncomputable def Fm.ch:Fm→Char|.B=>'B' | .H=>'H' | .I=>'I' | .i=>'i'
noncomputable def Fm.w:Fm→Nat|.B=>1|.H=>2|.I=>4|.i=>4
noncomputable def Fm.lo:Fm→Int|.B=>0|.H=>0|.I=>0|.i=>-2147483648
noncomputable def Fm.hi:Fm→Int|.B=>255|.H=>65535|.I=>4294967295|.i=>2147483647
noncomputable def Fm.fmt:Fm→Array UInt8|.B=>#[60,66]|.H=>#[60,72]|.I=>#[60,73]|.i=>#[60,105]
theorem Fm.parse (F:Fm):Builtin.Struct.parse F.fmt=pure (qK F.ch F.w):=by cases F<;>kernel_rfl
noncomputable def le (w:Nat) (n:Int):List UInt8:=(List.range w).map fun k=>((n % 2 ^ (8*w)).toNat / 256 ^ k % 256).toUInt8
theorem dg (w:Nat) (n:Int):(le w n).length=w:=by simp [le]
noncomputable def zR (out:Array UInt8) (p:Nat) (raw:Array UInt8):Array UInt8:=raw.toList.zipIdx.foldl (fun out (c,k)=>out.setIfInBounds (p+k) c) out
noncomputable def put (b:List UInt8) (p:Nat) (r:List UInt8):List UInt8:=b.take p++r++b.drop (p+r.length)
theorem u6 (p:Nat):∀(r:List UInt8) (j:Nat) (b:List UInt8),p+j+r.length≤b.length→
  ((r.zipIdx j).foldl (fun (out:Array UInt8) (x:UInt8 × Nat)=>out.setIfInBounds (p+x.2) x.1) b.toArray)=(b.take (p+j)++r++b.drop (p+j+r.length)).toArray
 |[],j,b,h=>by simp
 |c::r,j,b,h=>by
  simp only [List.length_cons] at h
  rw [List.zipIdx_cons,List.foldl_cons]
  have e:(b.toArray.setIfInBounds (p+j) c)=(b.set (p+j) c).toArray:=by simp
  refine (?_:List.foldl _ (b.toArray.setIfInBounds (p+j) c) _=_)
  rw [e,u6 p r (j+1) (b.set (p+j) c) (by rw [List.length_set];exact cT [] [_,_,_,_] (.a cC ak) av 1 [.j 1 (.a a9 bt) av] rfl h)]
  congr 1
  rw [List.take_set,List.drop_set,if_pos (by exact cT [] [_,_,_] cK (.a cC ak) 1 [] rfl)]
  have e2:(b.take (p+(j+1))).set (p+j) c=b.take (p+j)++[c]:=by
   rw [show p+(j+1)=(p+j)+1 by exact (Nat.le_antisymm (cT [] [_,_] cC cK 1 [] rfl) (cT [] [_,_] cK cC 1 [] rfl)),List.take_add_one,List.set_append]
   simp only [List.length_take,show ¬(p+j<min (p+j) b.length) by exact (Nat.not_lt.mpr (cT [] [_,_,_] ab bp 1 [.j 1 ab bp] rfl (Nat.le_of_eq (Nat.min_eq_left (cT [] [_,_,_,_] a9 ak 1 [.j 1 (.a a9 bA) ak] rfl h))))),if_false]
   rw [show p+j-min (p+j) b.length=0 by exact (Nat.le_antisymm (cT [] [_,_,_,_] ab ay 1 [.j 1 bp av,.j 1 (.a ab av) bp] rfl (Nat.le_of_eq (Eq.symm (Nat.min_eq_left (cT [] [_,_,_,_] a9 ak 1 [.j 1 (.a a9 bA) ak] rfl h)))) (Nat.le_of_eq (Nat.sub_add_cancel (cT [] [_,_,_] ab bp 1 [.j 1 ab bp] rfl (Nat.le_of_eq (Nat.min_eq_left (cT [] [_,_,_,_] a9 ak 1 [.j 1 (.a a9 bA) ak] rfl h))))))) (cT [] [_,_,_,_] ay ab 1 [.j 1 ae bB,.j 1 bB a9] rfl (Nat.le_of_eq (Nat.min_eq_left (cT [] [_,_,_,_] a9 ak 1 [.j 1 (.a a9 bA) ak] rfl h))) (Nat.le_of_eq (Eq.symm (Nat.sub_add_cancel (cT [] [_,_,_] ab bp 1 [.j 1 ab bp] rfl (Nat.le_of_eq (Nat.min_eq_left (cT [] [_,_,_,_] a9 ak 1 [.j 1 (.a a9 bA) ak] rfl h)))))))))]
   rw [List.getElem?_eq_getElem (by exact cT [] [_,_,_,_] cK ak 1 [.j 1 (.a a9 bA) ak] rfl h)]
   rfl
  rw [e2,List.length_cons,show p+(j+1)+r.length=p+j+(r.length+1) by exact (Nat.le_antisymm (cT [] [_,_,_] (.a cC ak) (.a a9 bt) 1 [] rfl) (cT [] [_,_,_] (.a a9 bt) (.a cC ak) 1 [] rfl))]
  simp
theorem rL (b:List UInt8) (p:Nat) (r:List UInt8) (h:p+r.length≤b.length):zR b.toArray p r.toArray=(put b p r).toArray:=by
 have:=u6 p r 0 b (by exact cT [] [_,_,_] (.a (.a ab ay) ae) ak 1 [.j 1 a9 ak] rfl h)
 simpa [zR,put] using this
theorem oP (b:List UInt8) (p:Nat) (r:List UInt8) (h:p+r.length≤b.length):(put b p r).length=b.length:=by
 simp only [put,List.length_append,List.length_take,List.length_drop];exact Nat.le_antisymm (cT [] [_,_,_,_,_] (.a a9 ak) av 1 [.j 1 ab az,.j 1 (.a ak (.a az ae)) av] rfl (Nat.le_of_eq (Nat.min_eq_left (cT [] [_,_,_] ab ae 1 [.j 1 bI ae] rfl h))) (Nat.le_of_eq (Nat.sub_add_cancel (cT [] [_,_,_] a9 ak 1 [.j 1 a9 ak] rfl h)))) (cT [] [_,_,_,_,_] ab (.a bp av) 1 [.j 1 az ae,.j 1 ab (.a av (.a az ak))] rfl (Nat.le_of_eq (Eq.symm (Nat.min_eq_left (cT [] [_,_,_] ab ae 1 [.j 1 bI ae] rfl h)))) (Nat.le_of_eq (Eq.symm (Nat.sub_add_cancel (cT [] [_,_,_] a9 ak 1 [.j 1 a9 ak] rfl h)))))
theorem zP (b:List UInt8) (p:Nat) (r r':List UInt8) (h:p+r.length≤b.length) (e:r.length=r'.length):put (put b p r) p r'=put b p r':=by
 have h1:(b.take p++r).length=p+r.length:=by rw [List.length_append,List.length_take];exact Nat.le_antisymm (cT [] [_,_,_] a9 bC 1 [.j 1 ab ak] rfl (Nat.le_of_eq (Nat.min_eq_left (cT [] [_,_,_] ab ae 1 [.j 1 bI ae] rfl h)))) (cT [] [_,_,_] a9 bC 1 [.j 1 ab ak] rfl (Nat.le_of_eq (Eq.symm (Nat.min_eq_left (cT [] [_,_,_] ab ae 1 [.j 1 bI ae] rfl h)))))
 unfold put
 rw [←e]
 have a1:List.take p (List.take p b++r++List.drop (p+r.length) b)=List.take p b:=by
  rw [List.append_assoc,List.take_append_of_le_length (by rw [List.length_take];exact cT [] [_,_] ab ae 1 [.j 1 ab ae] rfl (Nat.le_of_eq (Eq.symm (Nat.min_eq_left (cT [] [_,_,_] ab ae 1 [.j 1 bI ae] rfl h))))),List.take_take,Nat.min_self]
 have a2:List.drop (p+r.length) (List.take p b++r++List.drop (p+r.length) b)=List.drop (p+r.length) b:=by
  conv=>lhs;arg 1;rw [←h1]
  exact List.drop_left
 rw [a1,a2]
theorem rN {τ:Type} (F:Fm) (id:String) (n:Int) (nt:Tok) (init:τ) (put:τ→Nat→Array UInt8→Sem τ) (source:Value→Nat→Nat→Sem Unit) :
  packEach id (qK F.ch F.w) [.int n nt] init put source =
   (((((if (decide (n<F.lo)||decide (n>F.hi))=true then (do rule "struct.pack.out-of-range"; structError s!"'{F.ch}' format requires {F.lo} <= number <= {F.hi}"; pure (intBytes false F.w n)) else pure (intBytes false F.w n))>>=fun raw=>put init (0+0*F.w) raw>>=fun st=>pure (ForInStep.yield (st,([]:List Value))))
    >>= fun r=>match r with|.done b=>pure b|.yield b=>pure b)>>=fun s=>pure (ForInStep.yield (s.1,s.2)))>>=fun r=>match r with|.done b=>pure b|.yield b=>pure b)>>=fun s=>pure s.1:=by
 cases F<;>kernel_rfl
theorem n8 {τ:Type} {M:Model} {A:Around} {E:Value→Shared→Prop} {s:Shared} {Q:τ→Shared→Prop} (F:Fm) (id:String) (n:Int) (nt:Tok) (init:τ) (put:τ→Nat→Array UInt8→Sem τ) (source:Value→Nat→Nat→Sem Unit)
  (hlo:F.lo≤n) (hhi:n≤F.hi) (h:wpAny M A (put init 0 (intBytes false F.w n)) Q E s) :
  wpAny M A (packEach id (qK F.ch F.w) [.int n nt] init put source) Q E s:=by
 rw [rN,if_neg (by rw [Bool.or_eq_true,decide_eq_true_eq,decide_eq_true_eq];lia),Nat.zero_mul]
 refine wpAny_bind (wpAny_bind (wpAny_bind (wpAny_bind (wpAny_bind (wpAny_pure (wpAny_bind ?_))))))
 exact wpAny_mono h (fun x s' hx=>wpAny_pure (wpAny_pure (wpAny_pure (wpAny_pure (wpAny_pure hx))))) fun _ _ e=>e
theorem oQ {nm vb nr:String} {f:Format} {len:Nat} {off:Int} (h0:0≤off) (h1:off+f.size≤len):placeIn nm vb nr f len off=pure off.toNat:=by
 unfold placeIn
 have c1:¬off<0:=by exact Int.not_lt.mpr (lin [_] [] ai aa 1 [.i 1 ai aa] rfl h0)
 have c2:¬((len:Int)-off<f.size):=by exact Int.not_lt.mpr (lin [_] [_,_] af (.s am aa) 1 [.i 1 cb am] rfl h1)
 simp only [if_neg c1,if_neg c2]
theorem r7 {off:Int} (h0:0≤off) (h1:off≤16777216):(!Bytes.fitsIndex off)=false:=by
 simp only [Bytes.fitsIndex,Bool.not_eq_false',Bool.and_eq_true,decide_eq_true_eq]
 lia
theorem rX (w:Nat) (n:Int):intBytes false w n=(le w n).toArray:=rfl
theorem vV {prog:Program} {w:World} {A:Around} {E:Value→Shared→Prop} {a:Addr} {b:List UInt8} {off n:Int} {ot nt:Tok} {Q:Fin→Shared→Prop}
  {s:Shared} (F:Fm) (ha:s.heap.get? a=some (eP b.toArray)) (h0:0≤off) (h1:off+F.w≤b.length) (hsz:b.length≤sizeLine)
  (hlo:F.lo≤n) (hhi:n≤F.hi)
  (hQ:∀h',h'.get? a=some (eP (put b off.toNat (le F.w n)).toArray)→Heap.SameBut a s.heap h'→Q (.done (.ret .none)) {s with heap:=h'}) :
  wpAny (model prog w) A (packHeld "_struct.Struct.pack_into" (qK F.ch F.w) (.ref a) 0 b.length (.int off ot) [.int n nt]) Q E s:=by
 have hs:=sizeLine_eq
 have hpl:placeIn "pack_into" "packing" "no space to pack" (qK F.ch F.w) b.length off=pure off.toNat:=oQ h0 h1
 have e1:zR b.toArray off.toNat (Array.replicate F.w 0)=(put b off.toNat (List.replicate F.w 0)).toArray:=by
  rw [←rL _ _ _ (by rw [List.length_replicate];exact cT [_] [_,_,_] a9 ak 1 [.i 1 cg au,.i 1 af aa] rfl h1 (Int.le_of_eq (Int.toNat_of_nonneg (lin [_] [] ai aa 1 [.i 1 ai aa] rfl h0)))),List.toArray_replicate]
 have l1:(put b off.toNat (List.replicate F.w 0)).length=b.length:=oP _ _ _ (by rw [List.length_replicate];exact cT [_] [_,_,_] a9 ak 1 [.i 1 cg au,.i 1 af aa] rfl h1 (Int.le_of_eq (Int.toNat_of_nonneg (lin [_] [] ai aa 1 [.i 1 ai aa] rfl h0))))
 obtain ⟨hh,g,d,tk,os⟩:=s
 unfold packHeld
 repeat lk
 rw [if_neg (by rw [r7 h0 (by lia)];exact Bool.false_ne_true)]
 lk
 rw [hpl]
 lk;lk
 refine wpAny_bind (dn (b:=b.toArray) (f:=fun x=>zR x (0+off.toNat) (Array.replicate F.w 0)) ha ?_ ?_)
 ·rw [Nat.zero_add,e1,List.size_toArray,l1];exact hsz
 ·have ha2:=fX (fun x=>zR x (0+off.toNat) (Array.replicate F.w 0)) ha
  rw [Nat.zero_add,e1] at ha2
  refine wpAny_bind (n8 F _ n nt _ _ _ hlo hhi ?_)
  rw [rX]
  refine dn (b:=(put b off.toNat (List.replicate F.w 0)).toArray) (f:=fun x=>zR x (0+off.toNat+0) (le F.w n).toArray) (by rw [Nat.zero_add];exact ha2) ?_ ?_
  ·rw [Nat.add_zero,Nat.zero_add,rL _ _ _ (by rw [dg,l1];exact cT [_] [_,_,_] a9 ak 1 [.i 1 cg au,.i 1 af aa] rfl h1 (Int.le_of_eq (Int.toNat_of_nonneg (lin [_] [] ai aa 1 [.i 1 ai aa] rfl h0)))),List.size_toArray,oP _ _ _ (by rw [dg,l1];exact cT [_] [_,_,_] a9 ak 1 [.i 1 cg au,.i 1 af aa] rfl h1 (Int.le_of_eq (Int.toNat_of_nonneg (lin [_] [] ai aa 1 [.i 1 ai aa] rfl h0)))),l1];exact hsz
  ·have ha3:=fX (fun x=>zR x (0+off.toNat+0) (le F.w n).toArray) ha2
   rw [Nat.add_zero,Nat.zero_add,rL _ _ _ (by rw [dg,l1];exact cT [_] [_,_,_] a9 ak 1 [.i 1 cg au,.i 1 af aa] rfl h1 (Int.le_of_eq (Int.toNat_of_nonneg (lin [_] [] ai aa 1 [.i 1 ai aa] rfl h0)))),zP _ _ _ _ (by rw [List.length_replicate];exact cT [_] [_,_,_] a9 ak 1 [.i 1 cg au,.i 1 af aa] rfl h1 (Int.le_of_eq (Int.toNat_of_nonneg (lin [_] [] ai aa 1 [.i 1 ai aa] rfl h0)))) (by rw [List.length_replicate,dg])] at ha3
   refine wpAny_pure (hQ _ ?_ ?_)
   ·rw [Nat.add_zero,Nat.zero_add];exact ha3
   ·exact (Heap.SameBut.update _ _ _).trans (Heap.SameBut.update _ _ _)
noncomputable def g7 (F:Fm) (t:Tok):Obj:={cls:=.type "_struct.Struct",data:=.fields #[.bytes F.fmt t]}
theorem iV {M:Model} {A:Around} {E:Value→Shared→Prop} {s:Shared} {S:Addr} {F:Fm} {t:Tok} {Q:Array UInt8 × Format→Shared→Prop}
  (hS:s.heap.get? S=some (g7 F t)) (h:Q (F.fmt,qK F.ch F.w) s):wpAny M A (structFormat (.ref S)) Q E s:=by
 unfold structFormat
 refine wpAny_bind (wpAny_field hS rfl (x:=.bytes F.fmt t) rfl ?_)
 refine (?_:wpAny M A (payload (.bytes F.fmt t)>>=fun b=>_) Q E s)
 refine wpAny_bind (wpAny_pure ?_)
 rw [Fm.parse]
 exact wpAny_bind (wpAny_pure (wpAny_pure h))
theorem oo {prog:Program} {w:World} {A:Around} {E:Value→Shared→Prop} {a S:Addr} {b:List UInt8} {off n:Int} {ot nt t:Tok} {Q:Value→Shared→Prop}
  {s:Shared} {F:Fm} (hS:s.heap.get? S=some (g7 F t)) (ha:s.heap.get? a=some (eP b.toArray)) (h0:0≤off) (h1:off+F.w≤b.length) (hsz:b.length≤sizeLine)
  (hlo:F.lo≤n) (hhi:n≤F.hi)
  (hQ:∀h',h'.get? a=some (eP (put b off.toNat (le F.w n)).toArray)→Heap.SameBut a s.heap h'→Q .none {s with heap:=h'}) :
  wpAny (model prog w) A (call (.builtin "_struct.Struct.pack_into") [.ref S, .ref a, .int off ot, .int n nt]) Q E s:=by
 refine wpAny_call (codeAny_call_builtin iW.plain pK (iW.check _ _ _ _ _ _ _ _ ⟨_,hS,rfl⟩ (rl _ _ _ _) ?_))
 refine (?_:wpAny _ _ (structFormat (.ref S)>>=fun f=>field (.ref S) 0>>=fun v=>packInto (.ref S) v f.2 [.ref a, .int off ot, .int n nt]) _ _ _)
 refine wpAny_bind (iV hS (wpAny_bind (wpAny_field hS rfl (x:=.bytes F.fmt t) rfl ?_)))
 unfold packInto
 rw [if_neg (by refine (?_:¬((3 != 1+2)=true));decide)]
 dsimp only
 refine wpAny_bind (wpAny_specialOf (show s.TypeIs (.ref a) "bytearray" from ⟨_,ha,rfl⟩) gS.lookup ?_)
 refine (?_:wpAny _ _ (payload (.ref a)>>=fun x=>pure (Value.ref a,0,x.size)>>=fun y=>again (Code.builtin "_struct.pack_into.held" {pos:=[y.fst,Value.ref a,rawInt ↑y.2.fst,rawInt ↑y.2.snd,Value.ref S,Value.bytes F.fmt t,Value.int off ot,Value.int n nt]})) _ _ _)
 have hp:∀{A':Around} {E':Value→Shared→Prop} {Q':Array UInt8→Shared→Prop},Q' b.toArray s→wpAny (model prog w) A' (payload (.ref a)) Q' E' s:=fun hq=>by
  unfold payload payload?
  refine wpAny_bind (wpAny_bind (wpAny_load ha (wpAny_pure ?_)))
  exact wpAny_pure hq
 refine wpAny_bind (hp (wpAny_bind (wpAny_pure ?_)))
 refine wpAny_pure ⟨Code.quiet_builtin _ (by decide +kernel),codeAny_builtin pL ?_⟩
 refine (?_:wpAny _ _ (payload (.bytes F.fmt t)>>=fun x=>Builtin.Struct.parse x>>=fun f=>packHeld _ f (.ref a) ((0:Nat):Int).toNat ((b.toArray.size:Nat):Int).toNat (.int off ot) [.int n nt]) _ _ _)
 refine wpAny_bind (wpAny_pure ?_)
 rw [Fm.parse]
 refine wpAny_bind (wpAny_pure ?_)
 rw [Int.toNat_natCast,Int.toNat_natCast,List.size_toArray]
 exact vV F ha h0 h1 hsz hlo hhi hQ
end
section
open Builtin Builtin.Bytes Builtin.Struct
theorem iU:typeLookup (.type "bytes") "__buffer__" = pure (some (.builtin "bytes.__buffer__")):=by rw [typeLookup_type,builtinLookup_eq_fast];kernel_rfl
theorem iG:typeLookup (.type "bytes") "__release_buffer__" = pure none:=by rw [typeLookup_type,builtinLookup_eq_fast];kernel_rfl
theorem gk:typeLookup (.type "bytearray") "__release_buffer__" = pure (some (.builtin "bytearray.__release_buffer__")):=by rw [typeLookup_type,builtinLookup_eq_fast];kernel_rfl
noncomputable def iR (h:Heap) (v:Value) (b:Array UInt8):Prop:=(∃t,v=.bytes b t)∨∃a,v=.ref a∧h.get? a=some (eP b)
theorem dZ {M:Model} {h:Heap} {v:Value} {name id T:String} (L:Looks M h (specialOf v (name:Str)) (some (.builtin id)))
  (e1:id.endsWith ("." ++ name)=true) (e2:id.dropRight (name.length+1)=T) (I:Looks M h (isInstance v (.type T)) true):Looks M h (slotIsOwn v name) true:=by
 unfold slotIsOwn
 refine L.andThen ?_
 dsimp only
 rw [e1,e2,if_neg (by decide)]
 exact I
theorem j9 {M:Model} {h:Heap} {v:Value} {name:String} (L:Looks M h (specialOf v (name:Str)) none):Looks M h (slotIsOwn v name) true:=by
 unfold slotIsOwn
 exact L.andThen .now
theorem dz {M:Model} {h:Heap} {v:Value} {T:String} {name:Str} {r:Option Value} (hT:Looks M h (typeOf v) (.type T)) (e:typeLookup (.type T) name=pure r):Looks M h (specialOf v name) r:=
 hT.andThen (Looks.of_pure e)
theorem ej {M:Model} {h:Heap} {v:Value} {T U:String} {b:Bool} (hT:Looks M h (typeOf v) (.type T)) (e:isSubtype (.type T) (.type U)=pure b):Looks M h (isInstance v (.type U)) b:=
 hT.andThen (Looks.of_pure e)
theorem qh:isSubtype (.type "bytes") (.type "bytes")=pure true:=by rw [isSubtype_type];kernel_rfl
theorem lL:isSubtype (.type "bytearray") (.type "bytearray")=pure true:=by rw [isSubtype_type];kernel_rfl
theorem eF {M:Model} {h:Heap} {a:Addr} {o:Obj} {T:String} (e:h.get? a=some o) (hc:o.cls=.type T):Looks M h (typeOf (.ref a)) (.type T):=hc▸(Looks.ld e).andThen .now
theorem l7 {M:Model} {A:Around} {E:Value→Shared→Prop} {s:Shared} {id:String} {v:Value} {b:Array UInt8} {Q:Array UInt8→Shared→Prop}
  (hv:iR s.heap v b) (h:Q b s):wpAny M A (bytesLike id v) Q E s:=by
 obtain ⟨hh,g,d,tk,os⟩:=s
 rcases hv with ⟨t,rfl⟩|⟨a,rfl,ha⟩
 ·have T:Looks M hh (typeOf (.bytes b t)) (.type "bytes"):=Looks.of_pure rfl
  have L1:=dz T iU
  have L2:=dz T iG
  have L3:Looks M hh (slotIsOwn (.bytes b t) "__buffer__") true:=dZ L1 (by decide +kernel) (by decide +kernel) (ej T qh)
  have L4:Looks M hh (slotIsOwn (.bytes b t) "__release_buffer__") true:=j9 L2
  unfold bytesLike buffer? ownRelease
  repeat lk
  exact h
 ·have T:Looks M hh (typeOf (.ref a)) (.type "bytearray"):=eF ha rfl
  have L1:=dz T gS.lookup
  have L2:=dz T gk
  have L3:Looks M hh (slotIsOwn (.ref a) "__buffer__") true:=dZ L1 (by decide +kernel) (by decide +kernel) (ej T lL)
  have L4:Looks M hh (slotIsOwn (.ref a) "__release_buffer__") true:=dZ L2 (by decide +kernel) (by decide +kernel) (ej T lL)
  have ha':hh.get? a=some (eP b):=ha
  unfold bytesLike buffer? ownRelease
  repeat lk
  exact h
noncomputable def gl:List UInt8→Nat:=fun l=>l.foldr (fun c n=>n*256+c.toNat) 0
noncomputable def Fm.sg:Fm→Bool|.i=>true|_=>false
noncomputable def Fm.rd (F:Fm) (l:List UInt8):Int:=if F.sg&&decide (gl l≥2 ^ (8*F.w-1)) then (gl l:Int)-2 ^ (8*F.w) else gl l
theorem xK (l:List UInt8):natOf false l.toArray=gl l:=by simp [natOf,Memoryview.littleEndian,gl]
theorem rD (F:Fm) (id:String) (b:Array UInt8) (off:Nat):Struct.unpacked id (qK F.ch F.w) b off =
  (do
   let n:=natOf false (b.extract (off+0+0*F.w) (off+0+(0+1)*F.w))
   let v ←mkInt (if F.sg&&decide (n≥2 ^ (8*F.w-1)) then (n:Int)-2 ^ (8*F.w) else n)
   newTuple [v]):=by
 cases F<;>kernel_rfl
theorem l9 {prog:Program} {w:World} {A:Around} {E:Value→Shared→Prop} {S:Addr} {b:List UInt8} {off:Int} {v:Value} {ot t:Tok} {Q:Value→Shared→Prop}
  {s:Shared} {F:Fm} (hS:s.heap.get? S=some (g7 F t)) (hv:iR s.heap v b.toArray) (h0:0≤off) (h1:off+F.w≤b.length) (hsz:b.length≤sizeLine)
  (hQ:Q (.ref s.heap.objs.size) {s with heap:=s.heap.push {cls:=.type "tuple",data:=.seq #[.int (F.rd ((b.drop off.toNat).take F.w)) s.toks]},toks:=s.toks+1}) :
  wpAny (model prog w) A (call (.builtin "_struct.Struct.unpack_from") [.ref S,v, .int off ot]) Q E s:=by
 have hs:=sizeLine_eq
 have hpl:placeIn "unpack_from" "unpacking" "not enough data to unpack" (qK F.ch F.w) b.length off=pure off.toNat:=oQ h0 h1
 refine wpAny_call (codeAny_call_builtin iX.plain pM (iX.check _ _ _ _ _ _ _ _ ⟨_,hS,rfl⟩ (rn _ _ _) ?_))
 refine (?_:wpAny _ _ (unpackFrom "_struct.Struct.unpack_from" (do return (←structFormat (.ref S)).2) v (some (.int off ot))) _ _ _)
 unfold unpackFrom
 refine wpAny_bind (l7 hv ?_)
 have hi:indexHeld [v] (.int off ot)=pure off:=by unfold indexHeld;refine (?_:(if (_||true)=true then (pure off:Sem Int) else _)=_);rw [Bool.or_true,if_pos rfl]
 dsimp only
 rw [hi]
 repeat lk
 rw [if_neg (by rw [r7 h0 (by lia)];exact Bool.false_ne_true)]
 lk;lk;lk;lk;lk
 refine iV hS ?_
 lk;lk
 refine wpAny_bind (l7 hv ?_)
 rw [List.size_toArray,hpl]
 refine wpAny_bind (wpAny_pure (wpAny_bind ?_))
 have ex:natOf false (b.toArray.extract (off.toNat+0+0*F.w) (off.toNat+0+(0+1)*F.w))=gl ((b.drop off.toNat).take F.w):=by
  rw [←xK];congr 1;simp
 rw [rD,ex]
 unfold Fm.rd at hQ
 repeat lk
 exact hQ
end
section
noncomputable def xP:PySem.Code→Bool
 |.builtin id _=>Builtin.Bytes.decodersThatHold.contains id
 |_=>false
noncomputable def ClB (l:List (PySem.Code × Pos)):Prop:=∀x∈l,xP x.1=false
noncomputable def Cl (Γ:Ctx):Prop:=xP Γ.code=false∧ClB Γ.below
noncomputable def okR (R:Flow→Shared→Prop) (r:Result) (s:Shared):Prop:=match r with|.ok f=>R f s|.error _=>False
noncomputable def noE:Value→Shared→Prop:=fun _ _=>False
noncomputable def wpN {α:Type} (M:Model) (A:Around) (t:Sem α) (Q:α→Shared→Prop) (s:Shared):Prop:=
 ∀Γ p,Γ.In A→Cl Γ→Sem.wp M Γ t (fun a _ s'=>Q a s') (fun _ _ _=>False) p s
noncomputable def eW (M:Model) (A:Around) (c:PySem.Code) (R:Flow→Shared→Prop) (s:Shared):Prop:=
 ∀Γ p,Γ.code=c→Γ.Below A→ClB Γ.below→wpCode M Γ (okR R) p s
section
variable {α β:Type} {M:Model} {A:Around} {s:Shared}
theorem cQ {t:Sem α} {Q:α→Shared→Prop} (h:wpAny M A t Q noE s):wpN M A t Q s:=fun Γ p hΓ _=>h Γ p hΓ
theorem qX {c:PySem.Code} {R:Flow→Shared→Prop} (h:codeAny M A c (okR R) s):eW M A c R s:=fun Γ p hc hΓ _=>h Γ p hc hΓ
theorem cV {t:Sem α} {Q Q':α→Shared→Prop} (h:wpN M A t Q s) (hQ:∀a s,Q a s→Q' a s):wpN M A t Q' s:=
 fun Γ p hΓ hc=>Sem.wp_mono M Γ t (fun a _ s=>hQ a s) (fun _ _ _ x=>x) p s (h Γ p hΓ hc)
theorem wpN_pure {a:α} {Q:α→Shared→Prop} (h:Q a s):wpN M A (pure a) Q s:=fun _ _ _ _=>h
theorem cO {m:Sem α} {f:α→Sem β} {Q:β→Shared→Prop} (h:wpN M A m (fun a s'=>wpN M A (f a) Q s') s):wpN M A (m>>=f) Q s:=fun Γ p hΓ hc=>by
 rw [Sem.wp_bind']
 exact Sem.wp_mono M Γ m (fun a p' s' h'=>h' Γ p' hΓ hc) (fun _ _ _ h'=>h') p s (h Γ p hΓ hc)
theorem cX {m:Sem α} {f:α→Sem β} {Q:β→Shared→Prop} (h:wpAny M A m (fun a s'=>wpN M A (f a) Q s') noE s):wpN M A (m>>=f) Q s:=cO (cQ h)
theorem cR {vs:List Value} {m:Sem α} {Q:α→Shared→Prop} (h:wpN M A m Q s):wpN M A (holding vs m) Q s:=fun Γ p hΓ hc=>by rw [Sem.wp_holding];exact h Γ p hΓ hc
theorem pi {vs:List Value} {m:Sem α} {Q:α→Shared→Prop} (h:wpN M A m Q s):wpN M A (m.keep vs) Q s:=fun Γ p hΓ hc=>by rw [Sem.wp_keep];exact h Γ p hΓ hc
theorem dU {m:Sem α} {k:Value→Sem Unit} {Q:α→Shared→Prop} (h:wpN M A m Q s):wpN M A (m.onRaise k) Q s:=fun Γ p hΓ hc=>by
 rw [Sem.wp_onRaise]
 exact Sem.wp_mono M Γ m (fun _ _ _ x=>x) (fun _ _ _ x=>x.elim) p s (h Γ p hΓ hc)
theorem rB {m:Sem α} {Q:Except Value α→Shared→Prop} (h:wpN M A m (fun a=>Q (.ok a)) s):wpN M A m.attempt Q s:=fun Γ p hΓ hc=>by
 rw [Sem.wp_attempt]
 exact Sem.wp_mono M Γ m (fun _ _ _ x=>x) (fun _ _ _ x=>x.elim) p s (h Γ p hΓ hc)
theorem uE {c:Prop} [Decidable c] {a b:Sem α} {Q:α→Shared→Prop} (ht:c→wpN M A a Q s) (hf:¬c→wpN M A b Q s):wpN M A (if c then a else b) Q s:=by
 split<;>simp_all
theorem dY {c:PySem.Code} {R R':Flow→Shared→Prop} (h:eW M A c R s) (hR:∀f s,R f s→R' f s):eW M A c R' s:=
 fun Γ p hc hΓ hb=>wpCode_mono (fun r s x=>by cases r<;>first|exact hR _ _ x|exact x) (h Γ p hc hΓ hb)
theorem uC {c:PySem.Code} {hd:Option Value} {Q:Flow→Shared→Prop} (h:eW M (A.mark hd) c Q s) (hnb:hd≠some byPass):wpN M A (run c hd) Q s:=fun Γ p hΓ hc=>by
 rw [Sem.wp_run]
 refine wpCode_mono (fun r s x=>?_) (h _ p rfl (hΓ.enter c hd p hnb) (fun x hx=>by
  clear hnb h Q hΓ;rcases List.mem_cons.mp hx with rfl|hx
  ·exact hc.1
  ·exact hc.2 x hx))
 clear hnb h hd c hc hΓ p Γ;cases r<;>exact x
theorem p8 {c:PySem.Code} {Q:Value→Shared→Prop} (h:eW M A c (fun f s'=>match f with|.ret v=>Q v s'|_=>False) s):wpN M A (runValue c) Q s:=fun Γ p hΓ hc=>by
 rw [Sem.wp_runValue]
 refine wpCode_mono (fun r s x=>?_) (h _ p rfl (hΓ.enter c none p (by intro x;exact ns x)) (fun x hx=>by
  clear h Q hΓ;rcases List.mem_cons.mp hx with rfl|hx
  ·exact hc.1
  ·exact hc.2 x hx))
 clear h c hc hΓ p Γ;rcases r with e|(v|_|_|_)<;>exact x
theorem wpN_call {f:Value} {pos:List Value} {kw:List (Str × Value)} {Q:Value→Shared→Prop} (h:eW M A (.call f ⟨pos,kw⟩) (fun f s'=>match f with|.ret v=>Q v s'|_=>False) s) :
  wpN M A (call f pos kw) Q s:=p8 h
noncomputable def Aj (M:Model) (A:Around) (R:Flow→Shared→Prop):Fin→Shared→Prop
 |.done f,s'=>R f s'
 |.again c',s'=>c'.quiet=true∧eW M A c' R s'
theorem dj {c:PySem.Code} {R:Flow→Shared→Prop} (hd:xP c=false) (h:wpN M (A.under c) (M.den c) (Aj M A R) s):eW M A c R s:=fun Γ p hc hΓ hb=>by
 rw [wpCode_iff_wp,hc]
 refine Sem.wp_mono M Γ _ (fun fin p' s' h'=>?_) (fun _ _ _ h'=>h'.elim) p s (h Γ p (hc▸hΓ.in) ⟨hc▸hd,hb⟩)
 clear h hd hc p;cases fin with
 |done f=>exact h'
 |again c'=>exact ⟨h'.1,h'.2 (Γ.goto c') p' rfl (hΓ.goto c') hb⟩
end
section
variable {prog:Program} {w:World} {A:Around} {s:Shared}
theorem iE {id:String} {args:Args} {b:Builtin} {R:Flow→Shared→Prop} (hb:entryFor table id=some b) (hd:Builtin.Bytes.decodersThatHold.contains id=false)
  (h:wpN (model prog w) (A.under (.builtin id args)) (b args) (Aj (model prog w) A R) s):eW (model prog w) A (.builtin id args) R s:=by
 refine dj hd ?_
 refine (?_:wpN _ _ (match entryFor table id with|some b=>b args|none=>unsupported ((withoutEnding? id "#data").getD id)) _ s)
 rw [hb];exact h
theorem gQ {id:String} {args:Args} {b:Builtin} {R:Flow→Shared→Prop} (hq:plainId id=true) (hb:entryFor table id=some b) (hd:Builtin.Bytes.decodersThatHold.contains id=false)
  (h:wpN (model prog w) A.in1 (checkBuiltinCall id args) (fun _ s₁=>wpN (model prog w) A.in1 (b args) (Aj (model prog w) A R) s₁) s):eW (model prog w) A (.call (.builtin id) args) R s:=by
 refine dj rfl ?_
 refine (?_:wpN _ A.in1 (do checkBuiltinCall id args;again (.builtin id args)) _ s)
 refine cO (cV h fun _ s₁ h₁=>wpN_pure ⟨plainId_quiet hq args,iE hb hd ?_⟩)
 rw [Around.under_plainId hq args];exact h₁
theorem wx:Cl (⟨.builtin "claim.caller" {},none,none,[],none⟩:Ctx):=⟨by decide +kernel,fun _ h=>nomatch h⟩
theorem uB {M:Model} {t:Sem Fin} {R:Result→Shared→Prop} {s:Shared} (h:wpN M callerA t (fun fin s'=>∃f,fin=.done f∧R (.ok f) s') s) (p:Pos) :
  Sem.wp M ⟨.builtin "claim.caller" {},none,none,[],none⟩ t (Sem.finPost M ⟨.builtin "claim.caller" {},none,none,[],none⟩ R) (fun e _ s'=>R (.error e) s') p s:=by
 refine Sem.wp_mono M _ t (fun fin p' s' h'=>?_) (fun _ _ _ h'=>h'.elim) p s (h _ p caller_in wx)
 refine e1b h' fun f zq1 hf=>?_;clear h';subst zq1
 exact hf
end
end
section
open Builtin Builtin.Bytes
theorem qz {Γ:Ctx} {A:Around} (h:Γ.In A) (hg:A.guards=some []):Γ.code.isGuard=false∧∀x∈Γ.below,x.1.isGuard=false:=by
 have e:=h.2.2.2.1 [] hg
 refine e0b (List.append_eq_nil_iff.mp e) fun e1 e2=>?_
 constructor
 ·unfold Code.guards at e1
  split at e1
  ·exact cn e1
  ·rename_i q;simpa using q
 ·intro x hx
  clear hg h A e e1;cases hq:x.1.isGuard with
  |false=>rfl
  |true=>
   exfalso
   have:x.1∈guardsOf Γ.below:=List.mem_filter.mpr ⟨List.mem_map_of_mem hx,hq⟩
   rw [e2] at this;clear hx hq e2;cases this
theorem Dl (v:Value) (c:PySem.Code) (p:Pos) (hg:c.isGuard=false) (hd:xP c=false):(match (c,p) with
  |(.builtin "bytearray.__contains__" ⟨v'::_,_⟩,_)|(.builtin "bytearray.__mod__" ⟨v'::_,_⟩,_)
  |(.builtin "bytearray.__rmod__" ⟨_::v'::_,_⟩,_)|(.builtin "_struct.pack_into.held" ⟨v'::_,_⟩,_)=>Bytes.sameRef v' v
  |(.builtin "bytearray.find.held" ⟨_::_::held,_⟩,_)=>held.any (Bytes.sameRef v)
  |(.builtin i ⟨v'::_,_⟩,_)=>Bytes.sameRef v' v&&decodersThatHold.contains i
  |_=>false:Bool)=false:=by
 cases c with
 |builtin i args=>
  obtain ⟨pos,kw⟩:=args
  have ne:∀j:String,guardIds.contains j=true→¬i=j:=fun j h e=>by subst e;clear p;cases h.symm.trans hg
  conv=>lhs;delta Dl.match_1
  refine (dif_neg (ne "bytearray.__contains__" (by decide +kernel))).trans ?_
  refine (dif_neg (ne "bytearray.__mod__" (by decide +kernel))).trans ?_
  refine (dif_neg (ne "bytearray.__rmod__" (by decide +kernel))).trans ?_
  refine (dif_neg (ne "_struct.pack_into.held" (by decide +kernel))).trans ?_
  refine (dif_neg (ne "bytearray.find.held" (by decide +kernel))).trans ?_
  clear hg ne;cases pos with
  |nil=>rfl
  |cons x r=>show (Bytes.sameRef x v&&decodersThatHold.contains i)=false;rw [show decodersThatHold.contains i=false from hd,Bool.and_false]
 |_=>rfl
theorem lJ {M:Model} {A:Around} {s:Shared} {v:Value} {Q:Bool→Shared→Prop} (hg:A.guards=some []) (h:Q false s):wpN M A (exported v) Q s:=fun Γ p hΓ hc=>by
 refine e0b (qz hΓ hg) fun g1 g2=>?_
 have all:(((Γ.code,p)::Γ.below).any fun
  |(.builtin "bytearray.__contains__" ⟨v'::_,_⟩,_)|(.builtin "bytearray.__mod__" ⟨v'::_,_⟩,_)
  |(.builtin "bytearray.__rmod__" ⟨_::v'::_,_⟩,_)|(.builtin "_struct.pack_into.held" ⟨v'::_,_⟩,_)=>Bytes.sameRef v' v
  |(.builtin "bytearray.find.held" ⟨_::_::held,_⟩,_)=>held.any (Bytes.sameRef v)
  |(.builtin i ⟨v'::_,_⟩,_)=>Bytes.sameRef v' v&&decodersThatHold.contains i
  |_=>false)=false:=by
  rw [List.any_eq_false]
  intro x hx
  rw [Bool.not_eq_true]
  clear hg M hΓ;rcases List.mem_cons.mp hx with rfl|hx
  ·exact Dl v _ _ g1 hc.1
  ·exact Dl v x.1 x.2 (g2 x hx) (hc.2 x hx)
 refine Eq.mpr (congrArg (fun b=>Q b s) (?_:_=false)) h
 exact all
end
section
open Builtin Builtin.Bytes
section
variable {prog:Program} {w:World} {A:Around} {s:Shared}
theorem cW {α:Type} {M:Model} {c:Bool} {a b:Sem α} {Q:α→Shared→Prop} (hc:c=false) (h:wpN M A b Q s):wpN M A (if c=true then a else b) Q s:=by subst hc;exact h
theorem dW {α:Type} {M:Model} {c:Bool} {a b:Sem α} {Q:α→Shared→Prop} (hc:c=true) (h:wpN M A a Q s):wpN M A (if c=true then a else b) Q s:=by subst hc;exact h
theorem q8 {T newId initId:String} {Bi:Builtin} {args:List Value} {Q Q₁:Value→Shared→Prop} (ft:TypeCalled T newId initId)
  (hct:checkTypeCall T ⟨args,[]⟩=pure ()) (entryI:entryFor table initId=some Bi) (hdI:decodersThatHold.contains initId=false)
  (hnew:eW (model prog w) A.in1 (.call (.builtin newId) ⟨.type T::args,[]⟩) (fun f s'=>match f with|.ret obj=>Q₁ obj s'|_=>False) s)
  (hnext:∀obj s₁,Q₁ obj s₁→s₁.TypeIs obj T∧argsOk initId ⟨obj::args,[]⟩∧
   wpN (model prog w) A.in1.in1 (Bi ⟨obj::args,[]⟩) (Aj (model prog w) A.in1 fun f s₂=>f=.ret .none∧Q obj s₂) s₁) :
  wpN (model prog w) A (_root_.PySem.call (.type T) args) Q s:=by
 refine e2a ft.mro fun c tl hmro=>?_
 refine wpN_call (dj rfl ?_)
 refine (?_:wpN _ _ (callAny (.type T) _) _ _)
 refine wpN_pure ⟨Code.quiet_builtin _ (by decide +kernel),iE F.entry_type_call (by decide +kernel) ?_⟩
 rw [Around.under_plain (weight_type_call_type T args []) (units_type_call_type T args [])]
 unfold Builtin.«type.__call__»
 dsimp only
 refine cW ft.notType ?_
 refine cW ft.canCreate ?_
 refine cX (wpAny_of_eq hct ?_)
 refine cX (wpAny_of_eq hmro ?_)
 refine cW rfl ?_
 refine cX (wpAny_of_eq ft.made ?_)
 refine cO (wpN_pure ?_)
 refine cO (cR (wpN_call (dY hnew fun f s₁ hf=>?_)))
 cases f with
 |ret obj=>
  refine e0c (hnext _ _ hf) fun hT hok hsi=>?_
  refine (?_:wpN _ _ (isInstance obj (.type T)>>=_) _ _)
  refine cX (wpAny_isInstance hT ft.sub ?_)
  refine cW rfl ?_
  refine cO (cR ?_)
  unfold callSpecial?
  refine cX (wpAny_specialOf hT ft.init.lookup ?_)
  dsimp only
  refine cR ?_
  rw [ft.init.bind obj]
  refine cO (wpN_pure ?_)
  dsimp only
  refine cO (wpN_call (dY (R:=fun f s₂=>f=.ret .none∧Q obj s₂) (gQ ft.init.plain entryI hdI (cQ (ft.init.check _ _ _ _ _ _ _ _ hT hok hsi))) fun f s₂ hf=>?_))
  refine e0b hf fun zq0 hq=>?_;clear hf;subst zq0
  exact wpN_pure (cW rfl (wpN_pure hq))
 |_=>exact hf.elim
theorem yV:mroOf (.type "bytearray")=pure [.type "bytearray", .type "object"]:=by rw [mroOf_type];kernel_rfl
theorem pz:typeLookup (.type "bytearray") "__new__" = pure (some (.builtin "bytearray.__new__")):=by rw [typeLookup_type,builtinLookup_eq_fast];kernel_rfl
theorem ql:Slot "bytearray" "__init__" "bytearray.__init__":=
 .of (owner:="bytearray") (n:="__init__") (by rw [typeLookup_type,builtinLookup_eq_fast];kernel_rfl) (by decide +kernel) (by decide +kernel) (by decide +kernel)
  (by first|exact .inl (by decide +kernel)|exact .inr (by decide +kernel)) (by rw [isSubtype_type];kernel_rfl)
theorem qZ:TypeCalled "bytearray" "bytearray.__new__" "bytearray.__init__":=
 ⟨by decide +kernel,by decide +kernel,⟨_,_,yV⟩,madeBy_type yV pz (by decide +kernel),by decide +kernel,by rw [isSubtype_type];kernel_rfl,ql⟩
theorem mO (a:Value):checkTypeCall "bytearray" ⟨[a],[]⟩=pure ():=by kernel_rfl
theorem tY (a:Value):checkBuiltinCall "bytearray.__new__" ⟨[.type "bytearray",a],[]⟩=pure ():=by kernel_rfl
theorem qL:entryFor table "bytearray.__new__" = some Builtin.«list.__new__»:=entryFor_alias (id':="list.__new__") (by kernel_rfl) rfl (by decide +kernel) (by kernel_rfl)
theorem k9:entryFor table "bytearray.__init__" = some Builtin.«bytearray.__init__»:=entryFor_of_tree (by kernel_rfl)
theorem lT:plainId "bytearray.__new__" = true:=by decide +kernel
theorem l8 (a b:Value):argsOk "bytearray.__init__" ⟨[a,b],[]⟩:=by unfold argsOk;kernel_rfl
set_option maxRecDepth 1000000 in
set_option maxHeartbeats 4000000 in
theorem qy:("bytearray.__new__".splitOn ".__new__").headD "" = "bytearray":=by simp +decide [String.splitOn,String.splitOnAux]
theorem nL (a:Value) {Q₁:Value→Shared→Prop} (h:Q₁ (.ref s.heap.objs.size) {s with heap:=s.heap.push (eP #[])}) :
  eW (model prog w) A (.call (.builtin "bytearray.__new__") ⟨[.type "bytearray",a],[]⟩) (fun f s'=>match f with|.ret obj=>Q₁ obj s'|_=>False) s:=by
 refine qX (codeAny_of_tree ?_)
 refine (?_:wpAny _ A.in1 (do checkBuiltinCall "bytearray.__new__" ⟨[.type "bytearray",a],[]⟩;again (.builtin "bytearray.__new__" ⟨[.type "bytearray",a],[]⟩)) _ _ s)
 refine wpAny_bind (wpAny_of_eq (tY a) (wpAny_pure ⟨plainId_quiet lT _,codeAny_builtin_stack qL rfl fun p st=>?_⟩))
 rw [Around.under_plainId lT _]
 have hsub:=lL
 have hown:=qy
 obtain ⟨hp,g,d,tk,os⟩:=s
 simp only [hown]
 wp_walk
 exact h
end
end
section
open Builtin Builtin.Bytes
section
variable {prog:Program} {w:World} {A:Around} {s:Shared}
theorem pa (v:Value):Bytes.bindOptional "bytearray.__init__" "bytearray" ["source","encoding","errors"] [v] []=pure [some v,none,none]:=by kernel_rfl
theorem sF {a:Addr} {n:Int} {t:Tok} {Q:Flow→Shared→Prop} (hg:A.guards=some []) (ha:s.heap.get? a=some (eP #[])) (h0:0≤n) (h1:n≤16777216)
  (hQ:∀h',h'.get? a=some (eP (List.replicate n.toNat 0).toArray)→Heap.SameBut a s.heap h'→Q (.ret .none) {s with heap:=h'}) :
  wpN (model prog w) A (Builtin.«bytearray.__init__» ⟨[.ref a, .int n t],[]⟩) (Aj (model prog w) A Q) s:=by
 have T:Looks (model prog w) s.heap (typeOf (.ref a)) (.type "bytearray"):=eF ha rfl
 have L4:Looks (model prog w) s.heap (slotIsOwn (.ref a) "__release_buffer__") true:=dZ (dz T gk) (by decide +kernel) (by decide +kernel) (ej T lL)
 have R:Looks (model prog w) s.heap (ownRelease (.ref a)) false:=L4.andThen .now
 unfold Builtin.«bytearray.__init__»
 dsimp only
 refine cX (R.here ?_)
 refine cW rfl ?_
 rw [pa]
 refine cO (wpN_pure ?_)
 dsimp only
 refine cO (wpN_pure (cO (wpN_pure ?_)))
 have EX:∀{Q':Bool→Shared→Prop},Q' false s→wpN (model prog w) A (exported (.ref a) <||> do return (←exportsOf (.ref a))>0) Q' s:=fun hq=>by
  refine (?_:wpN _ _ (exported (.ref a)>>=_) _ _)
  refine cO (lJ hg ?_)
  refine (?_:wpN _ _ (exportsOf (.ref a)>>=fun x=>pure (decide (x>0))) _ _)
  refine cO ?_
  refine cX (wpAny_load ha ?_)
  exact wpN_pure (wpN_pure hq)
 refine cO (EX ?_)
 refine cW rfl ?_
 refine cO (cQ (dn (f:=fun _=>#[]) ha (Nat.zero_le _) ?_))
 have ha2:=fX (fun _=>#[]) ha
 refine cO (wpN_pure ?_)
 refine cW rfl ?_
 have hs:=sizeLine_eq
 refine cW (r7 h0 h1) ?_
 refine uE (fun c=>absurd c (by exact Int.not_lt.mpr (False.elim (y3 [_] [] [.i 1 (.n 0) (.v 0), .i 1 (.a (.v 0) (.n 1)) (.n 0)] rfl h0 c)))) fun _=>?_
 refine cW (by rw [beq_eq_false_iff_ne];lia) ?_
 refine cW (decide_eq_false (by lia)) ?_
 refine cO (cQ (wpAny_rule ?_))
 refine uE (fun c=>?_) fun c=>?_
 ·refine cO (cQ (dn (f:=fun _=>Array.replicate n.toNat 0) ha2 (by rw [Array.size_replicate];lia) ?_))
  have ha3:=fX (fun _=>Array.replicate n.toNat 0) ha2
  refine wpN_pure (hQ _ ?_ ?_)
  ·rw [List.toArray_replicate];exact ha3
  ·exact (Heap.SameBut.update _ _ _).trans (Heap.SameBut.update _ _ _)
 ·obtain rfl:n=0:=by exact Int.le_antisymm (lin [_] [] aa ai 1 [.i 1 aa ai] rfl (Int.not_lt.mp c)) (lin [_] [] ai aa 1 [.i 1 ai aa] rfl h0)
  exact wpN_pure (hQ _ ha2 (Heap.SameBut.update _ _ _))
theorem jZ:typeLookup (.type "bytes") "__index__" = pure none:=by rw [typeLookup_type,builtinLookup_eq_fast];kernel_rfl
theorem mP:typeLookup (.type "bytearray") "__index__" = pure none:=by rw [typeLookup_type,builtinLookup_eq_fast];kernel_rfl
theorem ri {M:Model} {A:Around} {s:Shared} {id:String} {v:Value} {b:Array UInt8} {full:Bool} {Q:Option (Array UInt8)→Shared→Prop}
  (hv:iR s.heap v b) (h:Q (some b) s):wpAny M A (buffer? id v full) Q noE s:=by
 obtain ⟨hh,g,d,tk,os⟩:=s
 rcases hv with ⟨t,rfl⟩|⟨a,rfl,ha⟩
 ·have T:Looks M hh (typeOf (.bytes b t)) (.type "bytes"):=Looks.of_pure rfl
  have L1:=dz T iU
  have L2:=dz T iG
  have L3:Looks M hh (slotIsOwn (.bytes b t) "__buffer__") true:=dZ L1 (by decide +kernel) (by decide +kernel) (ej T qh)
  have L4:Looks M hh (slotIsOwn (.bytes b t) "__release_buffer__") true:=j9 L2
  unfold buffer? ownRelease
  repeat lk
  exact h
 ·have T:Looks M hh (typeOf (.ref a)) (.type "bytearray"):=eF ha rfl
  have L1:=dz T gS.lookup
  have L2:=dz T gk
  have L3:Looks M hh (slotIsOwn (.ref a) "__buffer__") true:=dZ L1 (by decide +kernel) (by decide +kernel) (ej T lL)
  have L4:Looks M hh (slotIsOwn (.ref a) "__release_buffer__") true:=dZ L2 (by decide +kernel) (by decide +kernel) (ej T lL)
  have ha':hh.get? a=some (eP b):=ha
  unfold buffer? ownRelease
  repeat lk
  exact h
theorem iR.keeps {h h':Heap} {v:Value} {b:Array UInt8} (x:iR h v b) (k:∀a o,v=.ref a→h.get? a=some o→h'.get? a=some o):iR h' v b:=by
 rcases x with x|⟨a,rfl,ha⟩
 ·exact .inl x
 ·exact .inr ⟨a,rfl,k a _ rfl ha⟩
theorem iR.index {M:Model} {h:Heap} {v:Value} {b:Array UInt8} (x:iR h v b):Looks M h (specialOf v "__index__") none:=by
 rcases x with ⟨t,rfl⟩|⟨a,rfl,ha⟩
 ·exact dz (Looks.of_pure rfl) jZ
 ·exact dz (eF ha rfl) mP
theorem iR.noStr {M:Model} {h:Heap} {v:Value} {b:Array UInt8} (x:iR h v b):Looks M h (asStr? v) none:=by
 rcases x with ⟨t,rfl⟩|⟨a,rfl,ha⟩
 ·exact Looks.of_pure rfl
 ·exact (Looks.ld (part:=none) ha).andThen .now
theorem sG {a:Addr} {v:Value} {b:Array UInt8} {Q:Flow→Shared→Prop} (hg:A.guards=some []) (ha:s.heap.get? a=some (eP #[])) (hv:iR s.heap v b) (hne:v≠.ref a) (hz:b.size≤sizeLine)
  (hQ:∀h',h'.get? a=some (eP b)→Heap.SameBut a s.heap h'→Q (.ret .none) {s with heap:=h'}) :
  wpN (model prog w) A (Builtin.«bytearray.__init__» ⟨[.ref a,v],[]⟩) (Aj (model prog w) A Q) s:=by
 have T:Looks (model prog w) s.heap (typeOf (.ref a)) (.type "bytearray"):=eF ha rfl
 have L4:Looks (model prog w) s.heap (slotIsOwn (.ref a) "__release_buffer__") true:=dZ (dz T gk) (by decide +kernel) (by decide +kernel) (ej T lL)
 have R:Looks (model prog w) s.heap (ownRelease (.ref a)) false:=L4.andThen .now
 unfold Builtin.«bytearray.__init__»
 dsimp only
 refine cX (R.here ?_)
 refine cW rfl ?_
 rw [pa]
 refine cO (wpN_pure ?_)
 dsimp only
 refine cO (wpN_pure (cO (wpN_pure ?_)))
 have EX:∀{Q':Bool→Shared→Prop},Q' false s→wpN (model prog w) A (exported (.ref a) <||> do return (←exportsOf (.ref a))>0) Q' s:=fun hq=>by
  refine (?_:wpN _ _ (exported (.ref a)>>=_) _ _)
  refine cO (lJ hg ?_)
  refine (?_:wpN _ _ (exportsOf (.ref a)>>=fun x=>pure (decide (x>0))) _ _)
  refine cO ?_
  refine cX (wpAny_load ha ?_)
  exact wpN_pure (wpN_pure hq)
 refine cO (EX ?_)
 refine cW rfl ?_
 refine cO (cQ (dn (f:=fun _=>#[]) ha (Nat.zero_le _) ?_))
 have ha2:=fX (fun _=>#[]) ha
 have hv2:iR (s.heap.update a (Obj.mapBytearray fun _=>#[])) v b:=hv.keeps fun x o e hx=>(Heap.get?_update_other _ _ (fun q=>hne (e.trans (congrArg Value.ref q.symm)))).trans hx
 refine cX (Looks.here (s:={s with heap:=s.heap.update a (Obj.mapBytearray fun _=>#[])}) hv2.noStr ?_)
 refine cW rfl ?_
 refine cO (cW rfl (cW rfl (wpN_pure ?_)))
 refine cX (Looks.here (s:={s with heap:=s.heap.update a (Obj.mapBytearray fun _=>#[])}) hv2.index ?_)
 refine cW rfl ?_
 refine cX (ri (s:={s with heap:=s.heap.update a (Obj.mapBytearray fun _=>#[])}) hv2 ?_)
 dsimp only
 refine cO (cQ (wpAny_rule ?_))
 refine cO (cQ (dn (f:=fun _=>b) ha2 hz ?_))
 exact wpN_pure (hQ _ (fX (fun _=>b) ha2) ((Heap.SameBut.update _ _ _).trans (Heap.SameBut.update _ _ _)))
theorem qA {h h':Heap} {o:Obj} (hs:Heap.SameBut h.objs.size (h.push o) h'):∀b x,h.get? b=some x→h'.get? b=some x:=
 fun b x e=>(hs.2 b (Nat.ne_of_lt (Heap.lt_size e))).trans (Heap.get?_push_of_some _ e)
theorem sw {n:Int} {t:Tok} {Q:Value→Shared→Prop} (hg:A.guards=some []) (h0:0≤n) (h1:n≤16777216)
  (hQ:∀h',h'.get? s.heap.objs.size=some (eP (List.replicate n.toNat 0).toArray)→Heap.SameBut s.heap.objs.size (s.heap.push (eP #[])) h'→Q (.ref s.heap.objs.size) {s with heap:=h'}) :
  wpN (model prog w) A (_root_.PySem.call (.type "bytearray") [.int n t]) Q s:=by
 refine q8 (Q₁:=fun obj s₁=>obj=.ref s.heap.objs.size∧s₁={s with heap:=s.heap.push (eP #[])}) qZ (mO _) k9 (by decide +kernel) (nL _ ⟨rfl,rfl⟩) fun obj s₁ h₁=>?_
 refine e0b h₁ fun zq0 zq1=>?_;clear h₁;subst zq0 zq1
 have hS:(s.heap.push (eP #[])).get? s.heap.objs.size=some (eP #[]):=Heap.get?_push_size _ rfl
 refine ⟨⟨_,hS,rfl⟩,l8 _ _,?_⟩
 refine cV (sF (A:=A.in1.in1) (s:={s with heap:=s.heap.push (eP #[])}) hg hS h0 h1 (Q:=fun f s₂=>f=.ret .none∧Q (.ref s.heap.objs.size) s₂) fun h' e1 e2=>⟨rfl,hQ h' e1 e2⟩) fun fin s' hf=>?_
 cases fin with
 |done f=>exact hf
 |again c=>exact ⟨hf.1,fun Γ p hc hB hcl=>hf.2 Γ p hc (by exact ⟨hB.1,hB.2.1,hB.2.2.1,hB.2.2.2.1,Nat.le_succ_of_le hB.2.2.2.2⟩) hcl⟩
theorem sx {v:Value} {b:Array UInt8} {Q:Value→Shared→Prop} (hg:A.guards=some []) (hv:iR s.heap v b) (hz:b.size≤sizeLine)
  (hQ:∀h',h'.get? s.heap.objs.size=some (eP b)→Heap.SameBut s.heap.objs.size (s.heap.push (eP #[])) h'→Q (.ref s.heap.objs.size) {s with heap:=h'}) :
  wpN (model prog w) A (_root_.PySem.call (.type "bytearray") [v]) Q s:=by
 refine q8 (Q₁:=fun obj s₁=>obj=.ref s.heap.objs.size∧s₁={s with heap:=s.heap.push (eP #[])}) qZ (mO _) k9 (by decide +kernel) (nL _ ⟨rfl,rfl⟩) fun obj s₁ h₁=>?_
 refine e0b h₁ fun zq0 zq1=>?_;clear h₁;subst zq0 zq1
 have hS:(s.heap.push (eP #[])).get? s.heap.objs.size=some (eP #[]):=Heap.get?_push_size _ rfl
 have hne:v≠.ref s.heap.objs.size:=by
  rintro rfl
  rcases hv with ⟨t,e⟩|⟨a,e,ha⟩
  ·cases e
  ·cases e;exact Nat.lt_irrefl _ (Heap.lt_size ha)
 refine ⟨⟨_,hS,rfl⟩,l8 _ _,?_⟩
 refine cV (sG (A:=A.in1.in1) (s:={s with heap:=s.heap.push (eP #[])}) hg hS (hv.keeps fun _ _ _ hx=>Heap.get?_push_of_some _ hx) hne hz (Q:=fun f s₂=>f=.ret .none∧Q (.ref s.heap.objs.size) s₂) fun h' e1 e2=>⟨rfl,hQ h' e1 e2⟩) fun fin s' hf=>?_
 cases fin with
 |done f=>exact hf
 |again c=>exact ⟨hf.1,fun Γ p hc hB hcl=>hf.2 Γ p hc (by exact ⟨hB.1,hB.2.1,hB.2.2.1,hB.2.2.2.1,Nat.le_succ_of_le hB.2.2.2.2⟩) hcl⟩
end
end
section
theorem pp {prog:Program} {w:World} {t:Sem Fin} {s:Shared} {R:Result→Shared→Prop} (hreg:s.asleep)
  (h:wpN (model prog w) callerA t (fun fin s'=>∃f,fin=.done f∧(R (.ok f) s'∧leftWithCleanup s'.gens=false)) s) :
  ∃n r s' s'',runN (denote table) prog w n s ⟨t, .builtin "claim.caller" {},default,[]⟩=.halted (outcomeOf r) s'∧
   schedN (denote table) prog w n (.single s ⟨t, .builtin "claim.caller" {},default,[]⟩)=.halted (outcomeOf r) s'∧s'.forget=s''.forget∧R r s'':=by
 refine e4d (wp_halts_full (M:=model prog w) (R:=R) hreg (uB (R:=fun r s'=>R r s'∧leftWithCleanup s'.gens=false) h default)) fun n r s₁ s₂ hs hn hfo hR=>?_
 exact ⟨n,r,s₂,s₁,hn,hs,hfo,hR⟩
theorem ul {c:ClaimW} {tree:List Value→Sem Fin} {w:World} {s:Shared} {free:Addr→Prop} {gens:Prop} {kept:Heap→Prop} (hz:s.asleep) (hgens:s.gens=#[])
  (hspec:∀args,c.pre args=true→WData.layableAll args=true→∀ord:List DictEntry→List DictEntry,(∀l,(ord l).Perm l)→
   ∃vs s₁,layAllW c.records (classAt s.heap) w.params ord args s=some (vs,s₁)∧
    wpN (model c.prog w) callerA (tree vs) (fun fin s'=>∃f,fin=.done f∧(c.Ends s args vs s₁ (.ok f) s'∧s'.os=s.os∧AllBare s'.gens∧kept s'.heap)) s₁) :
  c.CallFrom (fun vs=>⟨tree vs, .builtin "claim.caller" {},default,[]⟩) w free gens kept s:=by
 intro args hpre hlay ord hord
 refine e2b (hspec args hpre hlay ord hord) fun vs s₁ hlaid hcode=>?_
 have hal:=layAllW_rest _ _ _ hlaid
 refine e4f (pp (prog:=c.prog) (w:=w) (t:=tree vs) (s:=s₁)
  (R:=fun r s'=>c.Ends s args vs s₁ r s'∧s'.os=s.os∧kept s'.heap) (Shared.asleep_of_life hal.2.2.2 hz)
  (cV hcode fun fin s' zp=>e1e zp fun f e h1 h2 h3 h4=>⟨f,e,⟨h1,h2,h4⟩,leftWithCleanup_false_of_bare h3⟩)) fun k r s' s'' hrun hsched hfo hcase hos hkp=>?_
 refine e0e (Shared.forget_eq hfo) fun eh _ _ eo _=>?_
 have hcase:=hcase.congr eh
 rw [←eh] at hkp
 rw [←eo] at hos
 have hlife:s'.heap.life=s.heap.life:=(runN_life _ _ _ hrun).trans hal.2.2.2
 refine ⟨vs,s₁,hlaid,k,_,s',hsched,?_,(fun _ i x hx=>by rw [hgens] at hx;simp at hx),hkp,by rw [hlife],Shared.rest_eq hos⟩
 exact Or.elim (show _∨_ from hcase) (fun z=>.inl (e1f z fun v q d1 d2 d3 d4 d5=>⟨v,congrArg outcomeOf q,d1,d2,d3,fun b o y _=>d4 b o y,d5⟩)) fun z=>.inr (e3f z fun e ob cls q d1 d2 d3 d4 d5=>⟨e,ob,cls,congrArg outcomeOf q,d1,d2,d3,d4,fun b o y _=>d5 b o y⟩)
theorem ve {r:RowW} {run:Value→List Value→Sem Value} {tree:List Value→Sem Fin} {q:Program} {loose defs kps:List Str} {writes:Bool} {Xt:Shared→Bool} {XP:(Str→Option Value)→Heap→Prop} {α:Type} {Yf:Shared→α} {Ya:World→α} {YP:World→Heap→Prop} {N:Nat}
  (left:LeftO r.prog q loose Xt Yf Ya N) (hY:∀w s,Yf s=Ya w→YP w s.heap) (hYk:∀w h h',YP w h→(∀b o,h.get? b=some o→h'.get? b=some o)→YP w h') (hX:∀s,Xt s=true→XP (s.heap.nsMap mainGlobals) s.heap) (hXk:∀mg h h',XP mg h→(∀b o,h.get? b=some o→h'.get? b=some o)→XP mg h')
  (hRf:∀s,Xt s=true→RecFacts r.records s.heap) (hwr:(!writes||r.records.isEmpty)=true) (ok:(chainsOk q&&opensWell r.prog&&(frees r&&r.within.isEmpty))=true) (hb:r.prog.bare) (hw:r.promised)
  (ht:∀vs (w:World) (s:Shared) mg f (Q:Fin→Shared→Prop),s.heap.Ns mainGlobals mg→mg r.name=some f→wpN (model r.prog w) callerA (run f vs) (fun v s'=>Q (.done (.ret v)) s') s→wpN (model r.prog w) callerA (tree vs) Q s)
  (pin:∀w s,s.heap.isNs mainGlobals=true→Ground q loose [] XP w s (s.heap.nsMap mainGlobals) (s.heap.nsMap builtinsNs) s.heap→∀n∈defs,isTheDefsW r.prog s.heap n)
  (call:∀(w:World) (s₀ s₁:Shared) (mg mb:Str→Option Value),Ground q loose r.records XP w s₀ mg mb s₁.heap→YP w s₁.heap→∀(args:List WData) (vs:List Value) (as:List Addr),
   r.claim.pre args=true→WData.layableAll args=true→Laid r.records w s₀ s₁ args vs as→sysModules<s₀.heap.objs.size→∃f,mg r.name=some f∧
    wpN (model r.prog w) callerA (run f vs) (fun v s'=>GoodWG r.claim (classAt s₀.heap) (ExcName.means s₀.heap) args s₁ (.ok (.ret v)) s') s₁) :
  r.claim.HoldsOpenBy (fun vs=>⟨tree vs, .builtin "claim.caller" {},default,[]⟩) defs kps writes:=by
 refine e0b (Bool.and_eq_true_iff.mp ok) fun ok k5=>?_
 refine e0b (Bool.and_eq_true_iff.mp ok) fun hch o1=>?_
 refine e0b (Bool.and_eq_true_iff.mp k5) fun k5 k6=>?_
 refine e0e (frees_parts k5) fun hsame hu ha hap hm=>?_
 refine ⟨⟨hb,o1,by refine (?_:r.makers.map _=[]);rw [hm];rfl⟩,hw.witness,fun w=>⟨(left.behind hX hch w).1,fun s' hs'=>?_⟩⟩
 refine e1c ((left.behind (XP:=fun mg h=>XP mg h∧RecFacts r.records h) (fun s hs=>⟨hX s hs,hRf s hs⟩) hch w).2 s' hs') fun s₀ hf hg0 zr=>e1f zr fun s hT hz hgens hg G00 y=>?_
 have G0:Ground q loose [] XP w s (s.heap.nsMap mainGlobals) (s.heap.nsMap builtinsNs) s.heap:=⟨G00.T,G00.B,G00.D,G00.TE,G00.TD,G00.W,G00.X.1,G00.cls,G00.has,G00.apart,G00.once,G00.K⟩
 have RF:=G00.X.2
 have hT':=hT
 refine ⟨s₀,hf,hg0,s,hT,pin w s hg G0,RF.1,RF.2.1,?_⟩
 have hgens:s.gens=#[]:=Array.eq_empty_of_size_eq_zero (beq_iff_eq.mp hgens)
 have G:Ground q loose r.records XP w s _ _ s.heap:=RF.ground G0
 refine ul (c:=r.claim) hz hgens fun args hpre hlay ord hord=>?_
 refine e1a (Option.isSome_iff_exists.mp (layAllW_isSome (P:=w.params) (ord:=ord) G.has args r.args s (pre_splitW hpre).1)) fun zn1 hlaid=>?_;obtain ⟨vs,s₁⟩:=zn1
 have keeps:=layAllW_keeps _ _ _ hlaid
 have hal:=layAllW_rest _ _ _ hlaid
 refine e1c (reads_layAllW hord _ _ _ hlaid hlay s₁.heap (fun _ _ e=>e)) fun as hrd hin hold=>?_
 have L:Laid r.records w s s₁ args vs as:=⟨⟨ord,hord,hlaid⟩,hrd,hin,hold,keeps,hal.1.trans hgens,hal.2.2.1⟩
 have G₁:=G.keeps hXk keeps
 refine e1b (call w s s₁ _ _ G₁ (hYk _ _ _ (hY w s y) keeps) args vs as hpre hlay L G.low) fun f hf h=>?_
 have hi:=ident_freeW hu ha hap
 have hwi:r.claim.within=[]:=List.isEmpty_iff.mp k6
 exact ⟨vs,s₁,hlaid,ht vs w s₁ _ f _ G₁.T.g hf (cV h (fun v s' g=>⟨_,rfl,have z:=g.laid (c:=r.claim) hsame hwi hi L;⟨z.1,z.2.1,z.2.2,fun q=>⟨namesKept_of hT' hg kps keeps g.2.1.old,noTable hwr q⟩⟩⟩))⟩
noncomputable abbrev DH (q:Program) (loose:List Str) (XP:(Str→Option Value)→Heap→Prop) (YP:World→Heap→Prop) (r:RowW) (d:DefRec) (kwd:List (Str × PySem.Expr)):Prop:=
 ∀(w:World) (s₀ s₁:Shared) (mg mb:Str→Option Value),Ground q loose r.records XP w s₀ mg mb s₁.heap→YP w s₁.heap→∀(a:Addr) (o:Obj) (pm cd doc dV kV:Value),s₁.heap.get? a=some o→
  o.data=.func {docDef d.name d.params d.body d.scope pm cd doc with defaults:=dV,kwdefaults:=kV}→s₁.heap.CodeRec cd d.name→Dflts mg s₁.heap d.params kwd dV kV→mg d.name=some (.ref a)→s₁.gens=#[]→
  ∀(args:List WData) (vals:List Value) (as:List Addr),r.claim.pre args=true→WData.layableAll args=true→ReadsAllW r.records (classAt s₀.heap) s₁.heap vals args as→WellAll w.params s₁.heap vals args→(∀a∈as,(a==sysModules)=false)→
   wpN (model r.prog w) callerA (PySem.call (.ref a) vals) (fun v s'=>GoodWG r.claim (classAt s₀.heap) (ExcName.means s₀.heap) args s₁ (.ok (.ret v)) s') s₁
theorem PySem.W.holds_open {r:OpenRow} {q:Program} {loose:List Str} {Xt:Shared→Bool} {XP:(Str→Option Value)→Heap→Prop} {α:Type} {Yf:Shared→α} {Ya:World→α} {YP:World→Heap→Prop} {d:DefRec} {kwd:List (Str × PySem.Expr)} {N:Nat}
  (left:LeftO r.prog q loose Xt Yf Ya N) (hY:∀w s,Yf s=Ya w→YP w s.heap) (hYk:∀w h h',YP w h→(∀b o,h.get? b=some o→h'.get? b=some o)→YP w h')
  (hX:∀s,Xt s=true→XP (s.heap.nsMap mainGlobals) s.heap) (hXk:∀mg h h',XP mg h→(∀b o,h.get? b=some o→h'.get? b=some o)→XP mg h')
  (hdef:defOf q r.name=some (d,kwd)) (hp:r.prog.theDef r.name=some (d.params,d.body,d.scope)) (hk:kwWritten? d.params.kwonlyargs d.params.kw_defaults=some kwd) (hRf:∀s,Xt s=true→RecFacts r.records s.heap) (hwr:(!r.writes||r.records.isEmpty)=true)
  (k1:r.wellSaid=true) (ok:(chainsOk q&&opensWell r.prog&&(frees r.toRowW&&r.within.isEmpty))=true) (hb:r.prog.bare) (hw:r.toRowW.promised)
  (call:DH q loose XP YP r.toRowW d kwd):r.Holds:=by
 refine ⟨k1,hw,ve (r:=r.toRowW) (run:=fun f vs=>_root_.PySem.call f vs) (tree:=fun vs=>do match ←nsGet mainNs r.name with
   |some f=>do ret (←_root_.PySem.call f vs)
   |none=>unsupported "claim.caller:no-such-global") left hY hYk hX hXk hRf hwr ok hb hw
  (fun vs w s mg f Q hg hf h=>cX (wpAny_nsGet hg (by rw [hf];exact cO (cV h (fun _ _ x=>wpN_pure x)))))
  (fun w s hg G n hn=>?_) fun w s₀ s₁ mg mb G Y args vs as hpre hlay L low=>?_⟩
 ·obtain rfl:n=r.name:=by split at hn<;>simp_all
  exact pinned_of_view hg G hdef hp hk
 ·obtain ⟨a,o,pm,cd,doc,dV,kV,h1,h2,h3,h4,h5⟩:=G.fn hdef
  exact ⟨.ref a,h1,call w s₀ s₁ mg mb G Y a o pm cd doc dV kV h2 h3 h4 h5 (defOf_name hdef▸h1) L.gens args vs as hpre hlay L.reads L.well (L.low low)⟩
end
section
inductive Bi where
 |int|len|range|reversed|sorted|tuple|bytes|bytearray|min|max|sum|isinstance|list|type|unpack|str
noncomputable def Bi.val:Bi→Value
 |.int=>.type "int" | .len=>.builtin "len" | .range=>.type "range" | .reversed=>.type "reversed" | .sorted=>.builtin "sorted"
 |.tuple=>.type "tuple" | .bytes=>.type "bytes" | .bytearray=>.type "bytearray" | .min=>.builtin "min" | .max=>.builtin "max"
 |.sum=>.builtin "sum" | .isinstance=>.builtin "isinstance" | .list=>.type "list" | .type=>.type "type" | .unpack=>.builtin "_struct.unpack" | .str=>.type "str"
set_option genInjectivity true in
inductive P where
 |none|bool (b:Bool)|int (i:Int)|str (s:Str)|bytes (b:List UInt8)
 |fn (b:Bi)|st (a:Addr)|tup (l:List P)|lst (l:List P)
set_option genInjectivity true in
inductive V where
 |p (x:P)|ref (i:Nat)|inn (i k n:Nat)|tup (l:List V)|inst (c:Addr) (fs:List V)
inductive Bx where
 |lst (l:List P)|dict (es:List (P × P))|ba (b:List UInt8)
inductive Sl where
 |unset|v (x:P)|bx (b:Bx)
set_option genInjectivity true in
inductive O where
 |bx (b:Bx)|cinst (c:Addr) (fs:List Sl) (ver:Nat)|dead
structure St where
 env:List (Option V)
 σ:List O
structure AI where
 slots:List (Addr × Nat)
 stat:List (Addr × P)
inductive Bm where|none|append|get|encode|pack_into|unpack_from deriving DecidableEq
structure MI where
 fn:List (Addr × Addr)
 bm:Bm
 val:List (Addr × P)
 bd:Bool
inductive It where|lst|rng|rev
inductive T where
 |var (i:Nat)|tup (is:List Nat)
inductive C where
 |lit (x:P)|var (i:Nat)|glob (x:P)
 |bin (op:Operator) (a b:C)|un (op:UnaryOp) (a:C)|repl (own:Bool) (a b:C)
 |not (a:C)|and (a b:C)|or (a b:C)
 |cmp (op:CmpOp) (a b:C)|chain (op1 op2:CmpOp) (a b c:C)|ite (t a b:C)
 |attr (a:C) (i:AI)|idx (a b:C)|slc (a lo hi st:C)
 |tup (xs:C)|lst (own:Bool) (xs:C)|dict0
 |nil|cons (a b:C)
 |call (f xs:C)|meth (o:C) (m:MI) (xs:C)|methS (o:C) (m:MI) (xs:C)|star (a:C)|methK (o:C) (m:MI) (xs:C) (kn:Str) (k:C)
 |comp (own:Bool) (elt:C) (t:T) (m:Nat) (ik:It) (it:C) (conds:C)
 |gen (elt:C) (t:T) (ik:It) (it:C) (conds:C)
inductive Fl where|next|brk|cont|ret (v:V)
inductive S where
 |skip|seq (a b:S)|expr (e:C)|asg (t:T) (e:C)|aug (i:Nat) (op:Operator) (e:C)
 |setA (o:C) (i:AI) (e:C)|setI (o i e:C)|setS (o lo hi e:C)
 |ite (t:C) (a b:S)|whl (t:C) (body:S)|forIn (t:T) (ik:It) (it:C) (body:S)
 |ret (e:C)|brk|cont|raise|assert (e:C)
noncomputable abbrev Ctr:=List V→List (Str × P)→List O→(V→List O→Prop)→Prop
structure Pg where
 Φ:Addr→Option Ctr
 fmt:Addr→Option Fm
 own:Addr→Bool
noncomputable abbrev Gm:=Addr→Option Obj
mutual
noncomputable def PRel (g:Gm):P→Value→Prop
 |.none,v=>v=.none
 |.bool b,v=>v=.bool b
 |.int i,v=>∃t,v=.int i t
 |.str s,v=>∃t,v=.str s t
 |.bytes b,v=>∃t,v=.bytes b.toArray t
 |.fn b,v=>v=b.val
 |.st a,v=>v=.ref a
 |.tup l,v=>∃a o vs n,v=.ref a∧g a=some o∧o={cls:=.type "tuple",data:=.seq vs.toArray n}∧dJ g l vs
 |.lst l,v=>∃a o vs n,v=.ref a∧g a=some o∧o={cls:=.type "list",data:=.seq vs.toArray n}∧dJ g l vs
noncomputable def dJ (g:Gm):List P→List Value→Prop
 |[],vs=>vs=[]
 |x::xs,vs=>∃v r,vs=v::r∧PRel g x v∧dJ g xs r
end
structure lI where
 id:Nat→Option Addr
 inn:Nat→Nat→Nat→Option Addr
noncomputable abbrev oB (vs:List Value) (n:Nat):Obj:={cls:=.type "list",data:=.seq vs.toArray n}
noncomputable abbrev CM (vs:List Value) (n:Nat):Obj:={cls:=.type "tuple",data:=.seq vs.toArray n}
noncomputable abbrev kX (c:Addr) (dx:Addr) (sl:Array (Option Value)):Obj:={cls:=.ref c,dict:=some dx,data:=.plain,slots:=sl}
mutual
noncomputable def dL (g:Gm) (k:lI):V→Value→Prop
 |.p x,v=>PRel g x v
 |.ref i,v=>∃a,k.id i=some a∧v=.ref a
 |.inn i m n,v=>∃a,k.inn i m n=some a∧v=.ref a
 |.tup l,v=>∃a o vs n,v=.ref a∧g a=some o∧o={cls:=.type "tuple",data:=.seq vs.toArray n}∧du g k l vs
 |.inst c fs,v=>∃a o dx vs,v=.ref a∧g a=some o∧o={cls:=.ref c,dict:=some dx,data:=.plain,slots:=(vs.map some).toArray}∧g dx=some emptyDict∧du g k fs vs
noncomputable def du (g:Gm) (k:lI):List V→List Value→Prop
 |[],vs=>vs=[]
 |x::xs,vs=>∃v r,vs=v::r∧dL g k x v∧du g k xs r
end
theorem PRel.mono {g g':Gm} (hg:∀a o,g a=some o→g' a=some o) {x:P} {v:Value}:PRel g x v→PRel g' x v:=by
 revert v
 refine P.rec (motive_1:=fun x=>∀{v},PRel g x v→PRel g' x v) (motive_2:=fun xs=>∀{vs},dJ g xs vs→dJ g' xs vs) (fun h=>h) (fun _ _ h=>h) (fun _ _ h=>h) (fun _ _ h=>h) (fun _ _ h=>h) (fun _ _ h=>h) (fun _ _ h=>h) ?_ ?_ (fun h=>h)
  (fun x xs i1 i2 _ h=>h.elim fun v h=>h.elim fun r h=>⟨v,r,h.1,i1 h.2.1,i2 h.2.2⟩) x
 case refine_1=>exact fun l ih _ h=>h.elim fun a h=>h.elim fun o h=>h.elim fun vs h=>h.elim fun n h=>⟨a,o,vs,n,h.1,hg _ _ h.2.1,h.2.2.1,ih h.2.2.2⟩
 case refine_2=>exact fun l ih _ h=>h.elim fun a h=>h.elim fun o h=>h.elim fun vs h=>h.elim fun n h=>⟨a,o,vs,n,h.1,hg _ _ h.2.1,h.2.2.1,ih h.2.2.2⟩
theorem dJ.mono {g g':Gm} (hg:∀a o,g a=some o→g' a=some o):∀{xs:List P} {vs:List Value},dJ g xs vs→dJ g' xs vs
 |[],_,h=>h
 |_::_,_,⟨v,r,e,h1,h2⟩=>⟨v,r,e,h1.mono hg,h2.mono hg⟩
theorem dL.mono {g g':Gm} {k k':lI} (hg:∀a o,g a=some o→g' a=some o) (hk:∀i a,k.id i=some a→k'.id i=some a) (hk2:∀i m n a,k.inn i m n=some a→k'.inn i m n=some a) {x:V} {v:Value}:dL g k x v→dL g' k' x v:=by
 revert v
 refine V.rec (motive_1:=fun x=>∀{v},dL g k x v→dL g' k' x v) (motive_2:=fun xs=>∀{vs},du g k xs vs→du g' k' xs vs) ?_ ?_ ?_ ?_ ?_ ?_ ?_ x
 case refine_1=>exact fun x _ h=>PRel.mono hg h
 case refine_2=>exact fun i _ h=>h.elim fun a h=>⟨a,hk _ _ h.1,h.2⟩
 case refine_3=>exact fun i m n _ h=>h.elim fun a h=>⟨a,hk2 _ _ _ _ h.1,h.2⟩
 case refine_6=>exact fun h=>h
 case refine_7=>exact fun x xs i1 i2 _ h=>h.elim fun v h=>h.elim fun r h=>⟨v,r,h.1,i1 h.2.1,i2 h.2.2⟩
 case refine_4=>exact fun l ih _ h=>h.elim fun a h=>h.elim fun o h=>h.elim fun vs h=>h.elim fun n h=>⟨a,o,vs,n,h.1,hg _ _ h.2.1,h.2.2.1,ih h.2.2.2⟩
 case refine_5=>exact fun c l ih _ h=>h.elim fun a h=>h.elim fun o h=>h.elim fun dx h=>h.elim fun vs h=>⟨a,o,dx,vs,h.1,hg _ _ h.2.1,h.2.2.1,hg _ _ h.2.2.2.1,ih h.2.2.2.2⟩
noncomputable def gJ (g:Gm):List (P × P)→List (Int × Value)→Prop
 |[],kvs=>kvs=[]
 |e::es,kvs=>∃k v r,kvs=(k,v)::r∧e.1=.int k∧PRel g e.2 v∧gJ g es r
noncomputable def w9 (g:Gm) (ks:List Int) (a:Addr):Prop:=∃vs n,g a=some (CM vs n)∧dJ g (ks.map .int) vs
noncomputable def gI (g:Gm):List (P × P)→List (List Int × Addr × Value)→Prop
 |[],xs=>xs=[]
 |e::es,xs=>∃k a v r,xs=(k,a,v)::r∧e.1=.tup (k.map .int)∧w9 g k a∧PRel g e.2 v∧gI g es r
noncomputable def zs (ks:List Int):Int:=reduceHash (Builtin.Tuple.tupleHashOf (ks.map hashInt))
noncomputable def sM (g:Gm) (o:Obj) (es:List (P × P)):Prop:=∃kvs:List (Int × Value),(∀prog w,o.IsDictOf (intKind prog w) kvs)∧gJ g es kvs
noncomputable def uy (g:Gm) (o:Obj) (es:List (P × P)):Prop:=∃(xs:List (List Int × Addr × Value)) (es':Array DictEntry) (ep:Nat),o.ExactDict∧o.data=.dict es' ep∧
 es'.toList=xs.map (fun x=>⟨zs x.1, .ref x.2.1,x.2.2⟩)∧(xs.map (·.1)).Nodup∧gI g es xs
theorem gJ.mono {g g':Gm} (hg:∀a o,g a=some o→g' a=some o):∀{es:List (P × P)} {kvs:List (Int × Value)},gJ g es kvs→gJ g' es kvs
 |[],_,h=>h
 |_::_,_,⟨k,v,r,e,h1,h2,h3⟩=>⟨k,v,r,e,h1,h2.mono hg,h3.mono hg⟩
theorem w9.mono {g g':Gm} (hg:∀a o,g a=some o→g' a=some o) {ks:List Int} {a:Addr} (h:w9 g ks a):w9 g' ks a:=
 e2b h fun vs n h1 h2=>⟨vs,n,hg _ _ h1,h2.mono hg⟩
theorem gI.mono {g g':Gm} (hg:∀a o,g a=some o→g' a=some o):∀{es:List (P × P)} {xs:List (List Int × Addr × Value)},gI g es xs→gI g' es xs
 |[],_,h=>h
 |_::_,_,⟨k,a,v,r,e,h1,h2,h3,h4⟩=>⟨k,a,v,r,e,h1,h2.mono hg,h3.mono hg,h4.mono hg⟩
noncomputable def lr (g:Gm) (h:Heap) (a:Addr):Bx→Prop
 |.lst l=>∃vs n,h.get? a=some (oB vs n)∧dJ g l vs
 |.ba b=>h.get? a=some (eP b.toArray)
 |.dict es=>(a==sysModules)=false∧∃o,h.get? a=some o∧(sM g o es∨uy g o es)
structure Gh where
 g:Gm
 k:lI
 ow:Addr→Option (Nat × Nat)
noncomputable def A9 (G:Gh) (h:Heap) (i ver m:Nat) (r:Option Value):Sl→Prop
 |.unset=>r=none
 |.v x=>∃v,r=some v∧PRel G.g x v
 |.bx b=>∃a,r=some (.ref a)∧G.k.inn i m ver=some a∧G.ow a=some (i+1,m+1)∧lr G.g h a b
noncomputable def nX (G:Gh) (h:Heap) (i:Nat):O→Prop
 |.bx b=>∃a,G.k.id i=some a∧G.ow a=some (i+1,0)∧lr G.g h a b
 |.cinst c fs ver=>∃a dx sl,G.k.id i=some a∧G.ow a=some (i+1,0)∧h.get? a=some (kX c dx sl)∧G.g dx=some emptyDict∧
   (∀m x,fs[m]? = some x→A9 G h i ver m (sl[m]?).join x)∧(∀m n a,G.k.inn i m n=some a→n≤ver)
 |.dead=>True
structure Inv (H0:Heap) (f:Gm) (G:Gh) (σ:List O) (h:Heap):Prop where
 base:∀a o,H0.get? a=some o→G.g a=some o
 gg:∀a o,G.g a=some o→h.get? a=some o
 ff:∀a o,f a=some o→h.get? a=some o
 fg:∀a o,f a=some o→G.g a=none
 own:∀a x,G.ow a=some x→G.g a=none∧f a=none∧∃o,h.get? a=some o
 obj:∀i o,σ[i]? = some o→nX G h i o
 dom:∀i,σ.length≤i→G.k.id i=none∧∀m v,G.k.inn i m v=none
structure AX (e:Env) (nm:List (Option Str)) (G:Gh) (env:List (Option V)) (h:Heap):Prop where
 kind:e.scope.kind=.function
 loc:∃m,h.Ns e.locals m∧∀(i:Nat) (n:Str) (x:V),nm[i]? = some (some n)→env[i]? = some (some x)→
  (e.kindOf n=some .local∧∃v,m n=some v∧dL G.g G.k x v)∨
  ((e.kindOf n=some .cell∨e.kindOf n=some .free)∧∃c v,e.cells.lookup n=some c∧h.IsCell c (some v)∧dL G.g G.k x v)
 own:G.ow e.locals=some (0,0)
 cells:∀n c,e.cells.lookup n=some c→G.ow c=some (0,c+1)∧∃v,h.IsCell c v
 apart:e.cells.Pairwise fun x y=>x.2≠y.2
 cellsAll:∀n,e.kindOf n=some .cell→(e.cells.lookup n).isSome=true
 inj:∀(i j:Nat) (n:Str),nm[i]? = some (some n)→nm[j]? = some (some n)→i=j
structure Pre (H0:Heap) (f:Gm) (e:Env) (nm:List (Option Str)) (G:Gh) (st:St) (s:Shared):Prop where
 inv:Inv H0 f G st.σ s.heap
 fr:AX e nm G st.env s.heap
 len:st.env.length=nm.length
structure Gh.Le (G G':Gh):Prop where
 g:∀a o,G.g a=some o→G'.g a=some o
 id:∀i a,G.k.id i=some a→G'.k.id i=some a
 inn:∀i m v a,G.k.inn i m v=some a→G'.k.inn i m v=some a
structure Gh.LeN (n:Nat) (G G':Gh):Prop where
 g:∀a o,G.g a=some o→G'.g a=some o
 id:∀i a,i<n→G.k.id i=some a→G'.k.id i=some a
 inn:∀i m v a,i<n→G.k.inn i m v=some a→G'.k.inn i m v=some a
structure gr (s s':Shared):Prop where
 gens:s'.gens=s.gens
 drawn:s'.drawn=s.drawn
 os:s'.os=s.os
theorem Gh.Le.refl (G:Gh):G.Le G:=⟨fun _ _ h=>h,fun _ _ h=>h,fun _ _ _ _ h=>h⟩
theorem Gh.Le.trans {G G' G'':Gh} (a:G.Le G') (b:G'.Le G''):G.Le G'':=⟨fun _ _ h=>b.g _ _ (a.g _ _ h),fun _ _ h=>b.id _ _ (a.id _ _ h),fun _ _ _ _ h=>b.inn _ _ _ _ (a.inn _ _ _ _ h)⟩
theorem Gh.Le.toN {G G':Gh} (a:G.Le G') (n:Nat):G.LeN n G':=⟨a.g,fun _ _ _ h=>a.id _ _ h,fun _ _ _ _ _ h=>a.inn _ _ _ _ h⟩
theorem Gh.LeN.trans {n:Nat} {G G' G'':Gh} (a:G.LeN n G') (b:G'.LeN n G''):G.LeN n G'':=⟨fun _ _ h=>b.g _ _ (a.g _ _ h),fun _ _ l h=>b.id _ _ l (a.id _ _ l h),fun _ _ _ _ l h=>b.inn _ _ _ _ l (a.inn _ _ _ _ l h)⟩
theorem Gh.LeN.mono {n m:Nat} {G G':Gh} (a:G.LeN n G') (h:m≤n):G.LeN m G':=⟨a.g,fun _ _ l h'=>a.id _ _ (Nat.lt_of_lt_of_le l h) h',fun _ _ _ _ l h'=>a.inn _ _ _ _ (Nat.lt_of_lt_of_le l h) h'⟩
theorem gr.refl (s:Shared):gr s s:=⟨rfl,rfl,rfl⟩
theorem gr.trans {a b c:Shared} (x:gr a b) (y:gr b c):gr a c:=⟨y.1.trans x.1,y.2.trans x.2,y.3.trans x.3⟩
theorem dL.le {G G':Gh} (l:G.Le G') {x:V} {v:Value} (h:dL G.g G.k x v):dL G'.g G'.k x v:=h.mono l.g l.id l.inn
theorem du.le {G G':Gh} (l:G.Le G'):∀{xs:List V} {vs:List Value},du G.g G.k xs vs→du G'.g G'.k xs vs
 |[],_,h=>h
 |_::_,_,⟨v,r,e,h1,h2⟩=>⟨v,r,e,h1.le l,h2.le l⟩
theorem lr.mono {g g':Gm} {h h':Heap} {a:Addr} {b:Bx} (hg:∀a o,g a=some o→g' a=some o) (hh:∀o,h.get? a=some o→h'.get? a=some o) (x:lr g h a b):lr g' h' a b:=by
 cases b with
 |lst l=>refine e2b x fun vs n h1 h2=>?_;exact ⟨vs,n,hh _ h1,h2.mono hg⟩
 |ba l=>exact hh _ x
 |dict l=>
  refine e0b x fun h0 zr=>e1b zr fun o h1 h2=>?_
  refine ⟨h0,o,hh _ h1,?_⟩
  rcases h2 with ⟨kvs,h3,h4⟩|⟨xs,es',ep,h3,h4,h5,h6,h7⟩
  ·exact .inl ⟨kvs,h3,h4.mono hg⟩
  ·exact .inr ⟨xs,es',ep,h3,h4,h5,h6,h7.mono hg⟩
theorem A9.mono {G G':Gh} {h h':Heap} {i ver m:Nat} {r:Option Value} {x:Sl} (hg:∀a o,G.g a=some o→G'.g a=some o)
  (hi:∀a,G.k.inn i m ver=some a→G'.k.inn i m ver=some a) (ho:∀a,G.ow a=some (i+1,m+1)→G'.ow a=some (i+1,m+1)∧∀o,h.get? a=some o→h'.get? a=some o)
  (y:A9 G h i ver m r x):A9 G' h' i ver m r x:=by
 cases x with
 |unset=>exact y
 |v p=>refine e1b y fun v e z=>?_;exact ⟨v,e,z.mono hg⟩
 |bx b=>refine e1d y fun a e z1 z2 z3=>?_;exact ⟨a,e,hi _ z1,(ho _ z2).1,z3.mono hg (ho _ z2).2⟩
theorem nX.mono {G G':Gh} {h h':Heap} {i:Nat} {o:O} (hg:∀a o,G.g a=some o→G'.g a=some o)
  (hid:∀a,G.k.id i=some a→G'.k.id i=some a) (hi:∀m v,G'.k.inn i m v=G.k.inn i m v) (ho:∀a j,G.ow a=some (i+1,j)→G'.ow a=some (i+1,j)∧∀o,h.get? a=some o→h'.get? a=some o)
  (y:nX G h i o):nX G' h' i o:=by
 cases o with
 |bx b=>refine e1c y fun a e1 e2 e3=>?_;exact ⟨a,hid _ e1,(ho _ _ e2).1,e3.mono hg (ho _ _ e2).2⟩
 |cinst c fs ver=>
  refine e3f y fun a dx sl e1 e2 e3 e4 e5 e6=>?_
  exact ⟨a,dx,sl,hid _ e1,(ho _ _ e2).1,(ho _ _ e2).2 _ e3,hg _ _ e4,fun m x hx=>(e5 m x hx).mono hg (fun a=>by rw [hi];exact fun h=>h) (fun a=>ho a _),fun m n a=>by rw [hi];exact e6 m n a⟩
 |dead=>trivial
theorem Inv.keep {H0:Heap} {f:Gm} {G:Gh} {σ:List O} {h h':Heap} (I:Inv H0 f G σ h)
  (hk:∀a o,(G.g a=some o∨f a=some o∨∃x,G.ow a=some x)→h.get? a=some o→h'.get? a=some o):Inv H0 f G σ h' where
 base:=I.base
 gg:=fun a o x=>hk a o (.inl x) (I.gg a o x)
 ff:=fun a o x=>hk a o (.inr (.inl x)) (I.ff a o x)
 fg:=I.fg
 own:=fun a x y=>let z:=I.own a x y;⟨z.1,z.2.1,z.2.2.elim fun o ho=>⟨o,hk a o (.inr (.inr ⟨_,y⟩)) ho⟩⟩
 obj:=fun i o x=>(I.obj i o x).mono (fun _ _ h=>h) (fun _ h=>h) (fun _ _=>rfl) fun a j y=>⟨y,fun o z=>hk a o (.inr (.inr ⟨_,y⟩)) z⟩
 dom:=I.dom
theorem Inv.keeps {H0:Heap} {f:Gm} {G:Gh} {σ:List O} {h h':Heap} (I:Inv H0 f G σ h) (hk:∀a o,h.get? a=some o→h'.get? a=some o):Inv H0 f G σ h':=
 I.keep fun a o _=>hk a o
theorem AX.keep {e:Env} {nm:List (Option Str)} {G:Gh} {env:List (Option V)} {h h':Heap} (F:AX e nm G env h) (hk:∀a j,G.ow a=some (0,j)→∀o,h.get? a=some o→h'.get? a=some o):AX e nm G env h' where
 kind:=F.kind
 loc:=by
  refine e1b F.loc fun m hm hl=>?_
  refine ⟨m,hm.at' (hk _ _ F.own),fun i n x h1 h2=>?_⟩
  rcases hl i n x h1 h2 with z|⟨z,c,v,h3,⟨o,h4,h5⟩,h6⟩
  ·exact .inl z
  ·exact .inr ⟨z,c,v,h3,⟨o,hk _ _ (F.cells _ _ h3).1 _ h4,h5⟩,h6⟩
 own:=F.own
 cells:=fun n c hc=>⟨(F.cells n c hc).1,e2b (F.cells n c hc).2 fun v o h4 h5=>⟨v,o,hk _ _ (F.cells n c hc).1 _ h4,h5⟩⟩
 apart:=F.apart
 cellsAll:=F.cellsAll
 inj:=F.inj
theorem AX.le {e:Env} {nm:List (Option Str)} {G G':Gh} {env:List (Option V)} {h:Heap} (F:AX e nm G env h) (l:G.Le G') (ho:∀a j,G.ow a=some (0,j)→G'.ow a=some (0,j)):AX e nm G' env h where
 kind:=F.kind
 loc:=by
  refine e1b F.loc fun m hm hl=>?_
  refine ⟨m,hm,fun i n x h1 h2=>?_⟩
  rcases hl i n x h1 h2 with ⟨z,v,z1,z2⟩|⟨z,c,v,h3,h4,h6⟩
  ·exact .inl ⟨z,v,z1,z2.le l⟩
  ·exact .inr ⟨z,c,v,h3,h4,h6.le l⟩
 own:=ho _ _ F.own
 cells:=fun n c hc=>⟨ho _ _ (F.cells n c hc).1,(F.cells n c hc).2⟩
 apart:=F.apart
 cellsAll:=F.cellsAll
 inj:=F.inj
theorem Pre.keeps {H0:Heap} {f:Gm} {e:Env} {nm:List (Option Str)} {G:Gh} {st:St} {s s':Shared} (p:Pre H0 f e nm G st s) (hk:∀a o,s.heap.get? a=some o→s'.heap.get? a=some o):Pre H0 f e nm G st s':=
 ⟨p.inv.keeps hk,p.fr.keep fun a _ _ o=>hk a o,p.len⟩
theorem Pre.toks {H0:Heap} {f:Gm} {e:Env} {nm:List (Option Str)} {G:Gh} {st:St} {s s':Shared} (p:Pre H0 f e nm G st s) (hh:s'.heap=s.heap):Pre H0 f e nm G st s':=
 ⟨hh▸p.inv,hh▸p.fr,p.len⟩
noncomputable def yK (H0:Heap) (f:Gm) (e:Env) (nm:List (Option Str)) (G:Gh) (s:Shared) (n:Nat) (Q:List V→St→Prop) (vs:List Value) (s':Shared):Prop:=
 ∃G' st' xs,gr s s'∧G.Le G'∧n≤st'.σ.length∧Pre H0 f e nm G' st' s'∧du G'.g G'.k xs vs∧Q xs st'
end
section
noncomputable def dE (σ:List O) (v:V) (K:Bx→Prop):Prop:=match v with
 |.ref i=>match σ[i]? with|some (.bx b)=>K b|_=>False
 |.inn i k n=>match σ[i]? with
  |some (.cinst _ fs ver)=>n=ver∧(match fs[k]? with|some (.bx b)=>K b|_=>False)
  |_=>False
 |_=>False
noncomputable def ki (σ:List O) (v:V) (b:Bx):List O:=match v with
 |.ref i=>σ.set i (.bx b)
 |.inn i k _=>match σ[i]? with|some (.cinst c fs ver)=>σ.set i (.cinst c (fs.set k (.bx b)) ver)|_=>σ
 |_=>σ
section
variable {H0:Heap} {f:Gm} {e:Env} {nm:List (Option Str)} {G:Gh} {st:St} {s:Shared}
theorem lr.some {g:Gm} {h:Heap} {a:Addr} {b:Bx} (hb:lr g h a b):∃o,h.get? a=some o:=by cases b with
 |lst l=>refine e2b hb fun vs n h _=>?_;exact ⟨_,h⟩
 |ba l=>exact ⟨_,hb⟩
 |dict l=>refine e0b hb fun _ zr=>e1b zr fun o h _=>?_;exact ⟨o,h⟩
theorem Pre.fresh (p:Pre H0 f e nm G st s) {a:Addr} (h:s.heap.objs.size≤a):G.g a=none∧f a=none∧G.ow a=none:=by
 refine ⟨?_,?_,?_⟩
 ·cases q:G.g a with
  |none=>rfl
  |some o=>exact absurd (Heap.lt_size (p.inv.gg _ _ q)) (Nat.not_lt.mpr h)
 ·cases q:f a with
  |none=>rfl
  |some o=>exact absurd (Heap.lt_size (p.inv.ff _ _ q)) (Nat.not_lt.mpr h)
 ·cases q:G.ow a with
  |none=>rfl
  |some o=>refine e1a ((p.inv.own _ _ q).2.2) fun x hx=>?_;exact absurd (Heap.lt_size hx) (Nat.not_lt.mpr h)
theorem Pre.freeze (p:Pre H0 f e nm G st s) {a:Addr} {o:Obj} (ha:s.heap.get? a=some o) (hn:G.ow a=none) (hf:f a=none) :
  ∃G',G.Le G'∧Pre H0 f e nm G' st s∧G'.g a=some o∧G'.k=G.k∧G'.ow=G.ow:=by
 have key:∀b x,G.g b=some x→(if b=a then some o else G.g b)=some x:=fun b x h=>by
  by_cases q:b=a
  ·subst q;rw [if_pos rfl];exact ha.symm.trans (p.inv.gg _ _ h)
  ·rw [if_neg q];exact h
 have le:G.Le {G with g:=fun b=>if b=a then some o else G.g b}:=⟨key,fun _ _ h=>h,fun _ _ _ _ h=>h⟩
 refine ⟨{G with g:=fun b=>if b=a then some o else G.g b},le,⟨⟨fun b x h=>key b x (p.inv.base b x h),fun b x h=>?_,p.inv.ff,fun b x h=>(if_neg fun q=>by subst q;rw [hf] at h;exact ns h).trans (p.inv.fg b x h),fun b x h=>?_,fun i x h=>?_,p.inv.dom⟩,p.fr.le le fun _ _ h=>h,p.len⟩,if_pos rfl,rfl,rfl⟩
 ·change (if b=a then some o else G.g b)=some x at h
  by_cases q:b=a
  ·clear hf le;subst q;rw [if_pos rfl] at h;obtain rfl:=sj h;exact ha
  ·rw [if_neg q] at h;exact p.inv.gg b x h
 ·refine e0c (p.inv.own b x h) fun h1 h2 h3=>?_
  have q:b≠a:=fun q=>by clear hf ha le;subst q;rw [hn] at h;exact ns h
  exact ⟨(if_neg q).trans h1,h2,h3⟩
 ·exact nX.mono (G:=G) key (fun _ h=>h) (fun _ _=>rfl) (fun a j h=>⟨h,fun _ h=>h⟩) (p.inv.obj i x h)
theorem Pre.adopt (p:Pre H0 f e nm G st s) {a:Addr} {b:Bx} (hb:lr G.g s.heap a b) (hg:G.g a=none) (hf:f a=none) (hn:G.ow a=none) :
  ∃G',G.Le G'∧Pre H0 f e nm G' {st with σ:=st.σ++[.bx b]} s∧G'.k.id st.σ.length=some a∧G'.g=G.g:=by
 have hlt:=hb.some
 let G':Gh:=⟨G.g,⟨fun i=>if i=st.σ.length then some a else G.k.id i,G.k.inn⟩,fun x=>if x=a then some (st.σ.length+1,0) else G.ow x⟩
 have hid:∀i x,G.k.id i=some x→G'.k.id i=some x:=fun i x h=>by
  have:i≠st.σ.length:=fun q=>by subst q;rw [(p.inv.dom _ (Nat.le_refl _)).1] at h;exact ns h
  exact (if_neg this).trans h
 have how:∀x y,G.ow x=some y→G'.ow x=some y:=fun x y h=>by
  have:x≠a:=fun q=>by subst q;rw [hn] at h;exact ns h
  exact (if_neg this).trans h
 have le:G.Le G':=⟨fun _ _ h=>h,hid,fun _ _ _ _ h=>h⟩
 refine ⟨G',le,⟨⟨p.inv.base,p.inv.gg,p.inv.ff,p.inv.fg,fun x y h=>?_,fun i o h=>?_,fun i h=>?_⟩,p.fr.le le fun a j h=>how _ _ h,p.len⟩,if_pos rfl,rfl⟩
 ·by_cases q:x=a
  ·clear hn le;subst q;exact ⟨hg,hf,hlt⟩
  ·exact p.inv.own x y ((if_neg q).symm.trans h)
 ·dsimp only at h
  clear hlt le;rcases Nat.lt_trichotomy i st.σ.length with hi|hi|hi
  ·rw [List.getElem?_append_left hi] at h
   exact nX.mono (G:=G) (fun _ _ h=>h) (hid i) (fun _ _=>rfl) (fun a j h=>⟨how _ _ h,fun _ h=>h⟩) (p.inv.obj i o h)
  ·clear hn hf hg;subst hi
   rw [List.getElem?_append_right (Nat.le_refl _),Nat.sub_self] at h
   obtain rfl:=sj h
   exact ⟨a,if_pos rfl,if_pos rfl,hb⟩
  ·rw [List.getElem?_eq_none (by simp;exact cT [] [_,_] a8 ae 1 [.j 1 a8 ae] rfl hi)] at h;exact ns h
 ·simp only [List.length_append,List.length_cons,List.length_nil] at h
  exact ⟨(if_neg (by exact Nat.ne_of_gt (cT [] [_,_] a8 ae 1 [.j 1 cM ae] rfl h))).trans (p.inv.dom i (by exact cT [] [_,_] ab ae 1 [.j 1 cM ae] rfl h)).1,(p.inv.dom i (by exact cT [] [_,_] ab ae 1 [.j 1 cM ae] rfl h)).2⟩
theorem nX.other {G:Gh} {h h':Heap} {i i':Nat} {j:Nat} {a:Addr} {o:O} (ha:G.ow a=some (i+1,j)) (hi:i'≠i) (hs:Heap.ExtBut a h h') (y:nX G h i' o):nX G h' i' o:=
 y.mono (fun _ _ h=>h) (fun _ h=>h) (fun _ _=>rfl) fun b j' hb=>⟨hb,fun o ho=>hs b o (fun q=>by clear y hs h';subst q;rw [ha] at hb;clear ha G;cases hb;exact hi rfl) ho⟩
theorem Pre.setAt (p:Pre H0 f e nm G st s) {i j:Nat} {a:Addr} {o':O} {h':Heap} (ha:G.ow a=some (i+1,j)) (hs:Heap.ExtBut a s.heap h') (hx:∃o,h'.get? a=some o) (ho:nX G h' i o') :
  Pre H0 f e nm G {st with σ:=st.σ.set i o'} {s with heap:=h'}:=by
 have hk:∀b o,b≠a→s.heap.get? b=some o→h'.get? b=some o:=hs
 refine ⟨⟨p.inv.base,fun b o x=>hk b o (fun q=>by subst q;rw [(p.inv.own _ _ ha).1] at x;exact ns x) (p.inv.gg b o x),fun b o x=>hk b o (fun q=>by subst q;rw [(p.inv.own _ _ ha).2.1] at x;exact ns x) (p.inv.ff b o x),p.inv.fg,
  fun b x y=>let z:=p.inv.own b x y;⟨z.1,z.2.1,if q:b=a then q▸hx else z.2.2.elim fun o ho=>⟨o,hk b o q ho⟩⟩,fun i' o x=>?_,fun i' x=>p.inv.dom i' (by simpa using x)⟩,p.fr.keep fun b j' hb o x=>hk b o (fun q=>by clear hx;subst q;rw [ha] at hb;cases hb) x,p.len⟩
 dsimp only at x
 by_cases q:i'=i
 ·subst q
  rw [List.getElem?_set] at x
  split at x
  ·split at x
   ·obtain rfl:=sj x;exact ho
   ·exact ns x
  ·rename_i q;exact absurd rfl q
 ·rw [List.getElem?_set_ne (Ne.symm q)] at x
  exact (p.inv.obj i' o x).other ha q hs
theorem Pre.box (p:Pre H0 f e nm G st s) {v:V} {x:Value} {K:Bx→Prop} (hv:dL G.g G.k v x) (hw:dE st.σ v K) :
  ∃a b key,x=.ref a∧G.ow a=some key∧K b∧lr G.g s.heap a b∧
   ∀h' b',Heap.ExtBut a s.heap h'→lr G.g h' a b'→Pre H0 f e nm G {st with σ:=ki st.σ v b'} {s with heap:=h'}:=by
 cases v with
 |ref i=>
  simp only [dE] at hw
  split at hw
  ·rename_i b hi
   refine e1c (p.inv.obj i _ hi) fun a h1 h2 h3=>?_
   refine e1b hv fun a' h4 zq2=>?_;clear hv;subst zq2
   rw [h1] at h4;obtain rfl:=sj h4
   exact ⟨a,b,_,rfl,h2,hw,h3,fun h' b' hs hb=>p.setAt h2 hs hb.some ⟨a,h1,h2,hb⟩⟩
  ·exact hw.elim
 |inn i k n=>
  simp only [dE] at hw
  split at hw
  ·rename_i c fs ver hi
   revert hw;intro zh;refine e0b zh fun zq0 hw=>?_;clear zh;subst zq0
   split at hw
   ·rename_i b hk
    refine e3f (p.inv.obj i _ hi) fun a dx sl h1 h2 h3 h4 h5 h6=>?_
    refine e1b hv fun a' h7 zq2=>?_;clear hv;subst zq2
    refine e1d (h5 k _ hk) fun a'' g1 g2 g3 g4=>?_
    rw [h7] at g2;obtain rfl:=sj g2
    refine ⟨a',b,_,rfl,g3,hw,g4,fun h' b' hs hb=>?_⟩
    have hne:∀b j,G.ow b=some (i+1,j)→j≠k+1→b≠a':=fun b j x y z=>by clear g4 g2;subst z;rw [g3] at x;cases x;exact y rfl
    have e:ki st.σ (.inn i k n) b'=st.σ.set i (.cinst c (fs.set k (.bx b')) n):=by simp only [ki,hi]
    rw [e]
    refine p.setAt g3 hs hb.some ⟨a,dx,sl,h1,h2,hs a _ (hne a 0 h2 (by exact Nat.ne_of_lt (cT [] [_] bg a8 1 [] rfl))) h3,h4,fun m y hy=>?_,h6⟩
    by_cases q:m=k
    ·clear h4 h3 h2 h1 dx g4 e g2;subst q
     rw [List.getElem?_set] at hy
     split at hy
     ·split at hy
      ·obtain rfl:=sj hy;exact ⟨a',g1,h7,g3,hb⟩
      ·exact ns hy
     ·rename_i q;exact absurd rfl q
    ·rw [List.getElem?_set_ne (Ne.symm q)] at hy
     exact (h5 m y hy).mono (fun _ _ h=>h) (fun _ h=>h) fun b hb=>⟨hb,fun o x=>hs b o (hne b _ hb (by exact fun hq0=>(absurd (Nat.le_antisymm (cT [] [_,_] ab ae 1 [.j 1 a8 bc] rfl (Nat.le_of_eq hq0)) (cT [] [_,_] ab ae 1 [.j 1 a8 bc] rfl (Nat.le_of_eq (Eq.symm hq0)))) q))) x⟩
   ·exact hw.elim
  ·exact hw.elim
 |p y=>exact hw.elim
 |tup l=>exact hw.elim
 |inst c l=>exact hw.elim
end
section
variable {H0:Heap} {f:Gm} {e:Env} {nm:List (Option Str)} {G:Gh} {st:St} {s:Shared} {M:Model} {A:Around}
theorem Pre.load (p:Pre H0 f e nm G st s) {i:Nat} {n:Str} {x:V} (hn:nm[i]? = some (some n)) (hx:st.env[i]? = some (some x)) {E:Value→Shared→Prop} {Q:Value→Shared→Prop} (hd:(n==("__classdict__" : Str))=false)
  (h:∀v,dL G.g G.k x v→Q v s):wpAny M A (loadName e n) Q E s:=by
 refine e1b p.fr.loc fun m hm hl=>?_
 rcases hl i n x hn hx with ⟨z,v,z1,z2⟩|⟨z,c,v,h3,h4,h6⟩
 ·exact wpAny_loadName_local p.fr.kind z hm z1 (h v z2)
 ·clear hx hn i hl hm m;rcases z with z|z
  ·exact wpAny_loadName_cell p.fr.kind z h3 h4 (h v h6)
  ·exact wpAny_loadName_free p.fr.kind z h3 h4 (h v h6) hd
theorem Inv.frame {H0:Heap} {f:Gm} {G:Gh} {σ:List O} {h h':Heap} {a:Addr} {j:Nat} (I:Inv H0 f G σ h) (ha:G.ow a=some (0,j)) (hs:Heap.SameBut a h h') (hx:∃o,h'.get? a=some o):Inv H0 f G σ h' where
 base:=I.base
 gg:=fun b o x=>(hs.2 b fun q=>by subst q;rw [(I.own _ _ ha).1] at x;exact ns x).trans (I.gg b o x)
 ff:=fun b o x=>(hs.2 b fun q=>by subst q;rw [(I.own _ _ ha).2.1] at x;exact ns x).trans (I.ff b o x)
 fg:=I.fg
 own:=fun b x y=>let z:=I.own b x y;⟨z.1,z.2.1,if q:b=a then q▸hx else z.2.2.elim fun o ho=>⟨o,(hs.2 b q).trans ho⟩⟩
 obj:=fun i o x=>(I.obj i o x).mono (fun _ _ h=>h) (fun _ h=>h) (fun _ _=>rfl) fun b j' hb=>⟨hb,fun o ho=>(hs.2 b fun q=>by clear hx hs h';subst q;rw [ha] at hb;clear ha;cases hb).trans ho⟩
 dom:=I.dom
theorem Pre.store (p:Pre H0 f e nm G st s) {i:Nat} {n:Str} {x:V} {v:Value} (hn:nm[i]? = some (some n)) (hk:e.kindOf n=some .local∨e.kindOf n=some .cell) (hv:dL G.g G.k x v)
  {E:Value→Shared→Prop} {Q:Unit→Shared→Prop} (h:∀s',gr s s'→Pre H0 f e nm G {st with env:=st.env.set i (some x)} s'→Q () s'):wpAny M A (storeName e n v) Q E s:=by
 have hi:i<st.env.length:=by rw [p.len];exact (List.getElem?_eq_some_iff.mp hn).1
 refine e1b p.fr.loc fun m hm hl=>?_
 have other:∀j n',nm[j]? = some (some n')→j≠i→n'≠n:=fun j n' h1 h2 h3=>h2 (p.fr.inj j i n' h1 (h3▸hn))
 have cellsNe:∀n' c,e.cells.lookup n'=some c→c≠e.locals:=fun n' c h1 h2=>by
  have:=(p.fr.cells n' c h1).1
  rw [h2,p.fr.own] at this;cases this
 rcases hk with hk|hk
 ·refine wpAny_storeName_local hk hm (fun h' hn' hs=>h _ ⟨rfl,rfl,rfl⟩ ⟨p.inv.frame p.fr.own hs (e3b hn' fun o _ _ ho _=>⟨o,ho⟩),⟨p.fr.kind,⟨_,hn',fun j n' y h1 h2=>?_⟩,p.fr.own,fun n' c hc=>⟨(p.fr.cells n' c hc).1,?_⟩,p.fr.apart,p.fr.cellsAll,p.fr.inj⟩,by simpa using p.len⟩) (by rw [p.fr.kind];rfl)
  ·dsimp only at h2
   by_cases q:j=i
   ·clear E;subst q
    rw [hn] at h1;cases h1
    rw [List.getElem?_set_self hi] at h2;cases h2
    exact .inl ⟨hk,v,if_pos rfl,hv⟩
   ·rw [List.getElem?_set_ne (Ne.symm q)] at h2
    rcases hl j n' y h1 h2 with ⟨z,v',z1,z2⟩|⟨z,c,v',h3,⟨o,h4,h5⟩,h6⟩
    ·exact .inl ⟨z,v',(if_neg (other j n' h1 q)).trans z1,z2⟩
    ·exact .inr ⟨z,c,v',h3,⟨o,(hs.2 c (cellsNe _ _ h3)).trans h4,h5⟩,h6⟩
  ·refine e2b ((p.fr.cells n' c hc).2) fun v' o h4 h5=>?_
   exact ⟨v',o,(hs.2 c (cellsNe _ _ hc)).trans h4,h5⟩
 ·refine e1a (Option.isSome_iff_exists.mp (p.fr.cellsAll n hk)) fun c hc=>?_
  refine e0b (p.fr.cells n c hc) fun hown zr=>e1a zr fun v₀ hv₀=>?_
  have uniq:∀n' ,e.cells.lookup n'=some c→n'=n:=fun n' h'=>name_of_addr p.fr.apart (mem_of_lookup h') (mem_of_lookup hc)
  refine wpAny_storeName_cell p.fr.kind hk hc hv₀ fun h' hn' hs=>h _ ⟨rfl,rfl,rfl⟩ ⟨p.inv.frame hown hs (e1b hn' fun o ho _=>⟨o,ho⟩),⟨p.fr.kind,⟨m,hm.sameBut hs (Ne.symm (cellsNe _ _ hc)),fun j n' y h1 h2=>?_⟩,p.fr.own,fun n' c' hc'=>⟨(p.fr.cells n' c' hc').1,?_⟩,p.fr.apart,p.fr.cellsAll,p.fr.inj⟩,by simpa using p.len⟩
  ·dsimp only at h2
   by_cases q:j=i
   ·clear h Q E;subst q
    rw [hn] at h1;clear hn;cases h1
    rw [List.getElem?_set_self hi] at h2;cases h2
    exact .inr ⟨.inl hk,c,v,hc,hn',hv⟩
   ·rw [List.getElem?_set_ne (Ne.symm q)] at h2
    rcases hl j n' y h1 h2 with z|⟨z,c',v',h3,h4,h6⟩
    ·exact .inl z
    ·exact .inr ⟨z,c',v',h3,h4.sameBut hs fun q'=>other j n' h1 q (uniq n' (q'▸h3)),h6⟩
  ·by_cases q:c'=c
   ·subst q;exact ⟨_,hn'⟩
   ·refine e1a ((p.fr.cells n' c' hc').2) fun v' h4=>?_
    exact ⟨v',h4.sameBut hs q⟩
end
end
section
structure br (b:Bool) (X Y:Prop):Prop where
 t:b=true→X
 f:b=false→Y
theorem dk {b:Bool} {X Y:Prop} (h1:b=true→X) (h2:b=false→Y):br b X Y:=⟨h1,h2⟩
noncomputable def dQ (σ:List O) (v:V) (K:List P→Prop):Prop:=match v with
 |.p (.lst l)=>K l
 |.p (.tup l)=>K l
 |.p _=>False
 |v=>dE σ v fun b=>match b with|.lst l=>K l|_=>False
noncomputable def uF (σ:List O) (v:V) (K:List UInt8→Prop):Prop:=match v with
 |.p (.bytes l)=>K l
 |.p _=>False
 |v=>dE σ v fun b=>match b with|.ba l=>K l|_=>False
open Classical in
noncomputable def eqB (x y:P):Bool:=decide (x=y)
noncomputable def iQ (es:List (P × P)) (k:P):Option P:=(es.find? fun x=>eqB x.1 k).map (·.2)
noncomputable def o5 (es:List (P × P)) (k v:P):List (P × P):=match iQ es k with
 |some _=>es.map fun x=>if eqB x.1 k then (x.1,v) else x
 |none=>es++[(k,v)]
noncomputable def BP (k:P):Prop:=∃l:List Int,k=.tup (l.map .int)
noncomputable def isI (k:P):Prop:=∃i,k=.int i
noncomputable def nA (k:P) (es:List (P × P)):Prop:=(isI k∧∀x∈es,isI x.1)∨(BP k∧∀x∈es,BP x.1)
noncomputable def gY (v:V) (st:St) (K:Bool→Prop):Prop:=match v with
 |.p (.bool b)=>K b
 |.p .none=>K false
 |.p (.int i)=>K (i != 0)
 |_=>False
noncomputable def ry (y:V) (K:Int→Prop):Prop:=match y with|.p (.int b)=>K b|_=>False
noncomputable def DR (y:V) (K:List P→Prop):Prop:=match y with|.p (.lst b)=>K b|_=>False
noncomputable def p1 (y:V) (K:P→Prop):Prop:=match y with|.p b=>K b|_=>False
theorem fS {y:V} {K:Int→Prop} (h:ry y K):∃b,y=.p (.int b)∧K b:=by
 cases y with
 |p y=>cases y with
  |int b=>exact ⟨b,rfl,h⟩
  |_=>exact h.elim
 |_=>exact h.elim
theorem z4 {y:V} {K:List P→Prop} (h:DR y K):∃b,y=.p (.lst b)∧K b:=by
 cases y with
 |p y=>cases y with
  |lst b=>exact ⟨b,rfl,h⟩
  |_=>exact h.elim
 |_=>exact h.elim
theorem ic {y:V} {K:P→Prop} (h:p1 y K):∃b,y=.p b∧K b:=by
 cases y with
 |p y=>exact ⟨y,rfl,h⟩
 |_=>exact h.elim
noncomputable def vT (x y:V) (K:Int→Int→Prop):Prop:=ry x fun a=>ry y fun b=>K a b
theorem pF {x y:V} {K:Int→Int→Prop} (h:vT x y K):∃a b,x=.p (.int a)∧y=.p (.int b)∧K a b:=
 (fS h).elim fun a h=>(fS h.2).elim fun b h2=>⟨a,b,h.1,h2.1,h2.2⟩
noncomputable def DL (y:V) (K:List P→Prop):Prop:=match y with|.p (.tup b)=>K b|_=>False
theorem zt {y:V} {K:List P→Prop} (h:DL y K):∃b,y=.p (.tup b)∧K b:=by
 cases y with
 |p y=>cases y with
  |tup b=>exact ⟨b,rfl,h⟩
  |_=>exact h.elim
 |_=>exact h.elim
noncomputable def one (xs:List V) (K:V→Prop):Prop:=match xs with|[x]=>K x|_=>False
theorem gA {xs:List V} {K:V→Prop} (h:one xs K):∃x,xs=[x]∧K x:=by
 cases xs with
 |nil=>exact h.elim
 |cons x r=>cases r with
  |nil=>exact ⟨x,rfl,h⟩
  |cons _ _=>exact h.elim
theorem jG {x:V} {K:V→Prop} (h:one [x] K):K x:=h
noncomputable def wk (env:List (Option V)) (i:Nat) (K:V→Prop):Prop:=match env[i]? with
 |some o=>(match o with|some v=>K v|none=>False)
 |none=>False
theorem tB {env:List (Option V)} {i:Nat} {K:V→Prop} (h:wk env i K):∃v,env[i]? = some (some v)∧K v:=by
 unfold wk at h
 cases q:env[i]? with
 |none=>rw [q] at h;exact h.elim
 |some o=>cases o with
  |none=>rw [q] at h;exact h.elim
  |some v=>rw [q] at h;exact ⟨v,rfl,h⟩
noncomputable def AZ (xs:List V) (K:V→List V→Prop):Prop:=match xs with|x::r=>K x r|[]=>False
theorem ly {xs:List V} {K:V→List V→Prop} (h:AZ xs K):∃x r,xs=x::r∧K x r:=by
 cases xs with
 |nil=>exact h.elim
 |cons x r=>exact ⟨x,r,rfl,h⟩
noncomputable def addP (x:P) (y:V) (st:St) (Q:V→St→Prop):Prop:=match x with
 |.int a=>ry y fun b=>Q (.p (.int (a+b))) st
 |_=>False
noncomputable def mulP (x:P) (y:V) (st:St) (Q:V→St→Prop):Prop:=match x with
 |.int a=>ry y fun b=>(-(2 ^ 64)<b∧b<2 ^ 64)∧Q (.p (.int (a*b))) st
 |.bytes l=>ry y fun b=>(l≠[]∧l.length≤16∧0≤b∧b≤1048576)∧Q (.p (.bytes (List.replicate b.toNat l).flatten)) st
 |_=>False
noncomputable def CV (op:Operator) (x y:V) (st:St) (Q:V→St→Prop):Prop:=match op with
 |.Add=>p1 x fun x=>addP x y st Q
 |.Sub=>vT x y fun a b=>Q (.p (.int (a-b))) st
 |.Mult=>p1 x fun x=>mulP x y st Q
 |.BitAnd=>vT x y fun a b=>Q (.p (.int (Builtin.bitAnd a b))) st
 |.Mod=>vT x y fun a b=>0<b∧Q (.p (.int (a % b))) st
 |_=>False
noncomputable def tv:V→Bool|.p .none=>true|_=>false
noncomputable def ou:V→Prop|.p (.tup _)=>False|_=>True
noncomputable def sumP (l:List P) (K:Int→Prop):Prop:=∃ns:List Int,(l=ns.map .int∧(∀n∈ns,-(2 ^ 40)≤n∧n≤2 ^ 40)∧ns.length≤1048576)∧K ns.sum
noncomputable def eqD (a b:List (P × P)):Bool:=a.length==b.length&&a.all fun x=>match iQ b x.1 with|some y=>eqB x.2 y|none=>false
noncomputable def pE (es:List (P × P)):Prop:=∀x∈es,isI x.1∧isI x.2
noncomputable def eqP2 (x y:P) (K:Bool→Prop):Prop:=match x with
 |.int a=>(match y with|.int b=>K (decide (a=b))|_=>False)
 |.bytes a=>(match y with|.bytes b=>K (decide (a=b))|_=>False)
 |_=>False
noncomputable def DQ (x y:P) (K:Bool→Prop):Prop:=match x with
 |.int a=>(match y with|.int b=>K (decide (a≠b))|_=>False)
 |_=>False
noncomputable def isV (x y:V) (K:Bool→Prop):Prop:=p1 y fun y=>match y with
 |.none=>K (tv x)
 |.st b=>p1 x fun x=>(match x with|.st a=>a=b∧K true|_=>False)
 |_=>False
noncomputable def BQ (x y:V) (K:Bool→Prop):Prop:=p1 y fun y=>match y with|.none=>K (!tv x)|_=>False
noncomputable def o6 (st:St) (x:V) (K:List (P × P)→Prop):Prop:=match x with
 |.ref i=>(match st.σ[i]? with|some (.bx (.dict a))=>K a|_=>False)
 |_=>False
noncomputable def neV (x y:V) (st:St) (K:Bool→Prop):Prop:=match y with
 |.p (.lst [])=>dQ st.σ x fun l=>ou x∧K (!l.isEmpty)
 |.p y=>p1 x fun x=>DQ x y K
 |y=>o6 st x fun a=>o6 st y fun b=>(pE a∧pE b)∧K (!eqD a b)
noncomputable def inV (x y:V) (st:St) (K:Bool→Prop):Prop:=p1 x fun k=>dE st.σ y fun b=>match b with
 |.dict es=>nA k es∧K (iQ es k).isSome
 |_=>False
noncomputable def Av (op:CmpOp) (x y:V) (st:St) (Q:V→St→Prop):Prop:=match op with
 |.Is=>isV x y fun b=>Q (.p (.bool b)) st
 |.IsNot=>BQ x y fun b=>Q (.p (.bool b)) st
 |.Lt=>vT x y fun a b=>Q (.p (.bool (decide (a<b)))) st
 |.LtE=>vT x y fun a b=>Q (.p (.bool (decide (a≤b)))) st
 |.Gt=>vT x y fun a b=>Q (.p (.bool (decide (a>b)))) st
 |.GtE=>vT x y fun a b=>Q (.p (.bool (decide (a≥b)))) st
 |.Eq=>p1 x fun x=>p1 y fun y=>eqP2 x y fun b=>Q (.p (.bool b)) st
 |.NotEq=>neV x y st fun b=>Q (.p (.bool b)) st
 |.In=>inV x y st fun b=>Q (.p (.bool b)) st
 |.NotIn=>False
noncomputable def opt {α:Type} (o:Option α) (K:α→Prop):Prop:=match o with|some x=>K x|none=>False
theorem eT {α:Type} {o:Option α} {K:α→Prop} (h:opt o K):∃x,o=some x∧K x:=by
 cases o with
 |none=>exact h.elim
 |some x=>exact ⟨x,rfl,h⟩
noncomputable def xS (o:O) (K:Addr→List Sl→Nat→Prop):Prop:=match o with|.cinst c fs ver=>K c fs ver|_=>False
theorem mD {o:O} {K:Addr→List Sl→Nat→Prop} (h:xS o K):∃c fs ver,o=.cinst c fs ver∧K c fs ver:=by
 cases o with
 |cinst c fs ver=>exact ⟨c,fs,ver,rfl,h⟩
 |_=>exact h.elim
noncomputable def stP (x:P) (K:Addr→Prop):Prop:=match x with|.st c=>K c|_=>False
theorem yO {x:P} {K:Addr→Prop} (h:stP x K):∃c,x=.st c∧K c:=by
 cases x with
 |st c=>exact ⟨c,rfl,h⟩
 |_=>exact h.elim
noncomputable def slV (j k ver:Nat) (st:St) (Q:V→St→Prop) (y:Sl):Prop:=match y with
 |.v y=>Q (.p y) st
 |.bx _=>Q (.inn j k ver) st
 |.unset=>False
@[irreducible] noncomputable def uN (i:AI) (c:Addr) (K:P→Prop):Prop:=opt (i.stat.lookup c) K
theorem kf {i:AI} {c:Addr} {y:P} {K:P→Prop} (h:i.stat.lookup c=some y) (k:K y):uN i c K:=by
 unfold uN;rw [h];exact k
theorem xo {i:AI} {c:Addr} {K:P→Prop} (h:uN i c K):∃y,i.stat.lookup c=some y∧K y:=by
 unfold uN at h;exact eT h
noncomputable def AO (i:AI) (x:V) (st:St) (Q:V→St→Prop):Prop:=match x with
 |.ref j=>opt st.σ[j]? fun o=>xS o fun c fs ver=>opt (i.slots.lookup c) fun k=>opt fs[k]? (slV j k ver st Q)
 |.inst c fs=>opt (i.slots.lookup c) fun k=>opt fs[k]? fun y=>Q y st
 |.p x=>stP x fun c=>uN i c fun y=>Q (.p y) st
 |_=>False
noncomputable def DT (b:Bx) (st:St) (Q:V→St→Prop):Prop:=match b with
 |.lst l=>l.length≤16777216∧Q (.p (.int l.length)) st
 |.ba l=>l.length≤16777216∧Q (.p (.int l.length)) st
 |.dict l=>False
noncomputable def lenP (x:P) (st:St) (Q:V→St→Prop):Prop:=match x with
 |.lst l=>l.length≤16777216∧Q (.p (.int l.length)) st
 |.tup l=>l.length≤16777216∧Q (.p (.int l.length)) st
 |.bytes l=>l.length≤16777216∧Q (.p (.int l.length)) st
 |_=>False
noncomputable def DS (x:V) (st:St) (Q:V→St→Prop):Prop:=match x with
 |.p x=>lenP x st Q
 |v=>dE st.σ v fun b=>DT b st Q
noncomputable def at_ (i:Int) (n:Nat):Int:=if i<0 then i+n else i
@[irreducible] noncomputable def w6 (l:List P) (i:Int) (st:St) (Q:V→St→Prop):Prop:=(0≤at_ i l.length∧l.length≤16777216)∧∃z,l[(at_ i l.length).toNat]? = some z∧Q (.p z) st
noncomputable def DV (y:V) (st:St) (Q:V→St→Prop) (b:Bx):Prop:=match b with
 |.lst l=>ry y fun i=>w6 l i st Q
 |.dict es=>p1 y fun k=>nA k es∧∃z,iQ es k=some z∧Q (.p z) st
 |_=>False
noncomputable def idxP (x:P) (y:V) (st:St) (Q:V→St→Prop):Prop:=match x with
 |.lst l=>ry y fun i=>w6 l i st Q
 |.tup l=>ry y fun i=>w6 l i st Q
 |_=>False
noncomputable def DU (x y:V) (st:St) (Q:V→St→Prop):Prop:=match x with
 |.p x=>idxP x y st Q
 |x=>dE st.σ x (DV y st Q)
noncomputable def ww (x:P) (n:Nat) (d:Nat):Option Nat:=match x with
 |.none=>some d
 |.int i=>some (max 0 (min (at_ i n) n)).toNat
 |_=>none
noncomputable def cut {α:Type} (l:List α) (lo hi:Nat):List α:=(l.drop lo).take (hi-lo)
@[irreducible] noncomputable def pR (lo hi:P) (n:Nat) (K:Nat→Nat→Prop):Prop:=match ww lo n 0 with
 |some a=>(match ww hi n n with|some b=>n≤16777216∧K a b|none=>False)
 |none=>False
theorem pQ {lo hi:P} {n:Nat} {K:Nat→Nat→Prop} (h:pR lo hi n K):∃a b,ww lo n 0=some a∧ww hi n n=some b∧n≤16777216∧K a b:=by
 unfold pR at h
 cases q:ww lo n 0 with
 |none=>rw [q] at h;exact h.elim
 |some a=>
  rw [q] at h
  dsimp only at h
  cases q2:ww hi n n with
  |none=>rw [q2] at h;exact h.elim
  |some b=>rw [q2] at h;exact ⟨a,b,rfl,rfl,h.1,h.2⟩
noncomputable def C4 (lo hi:P) (b:Bx) (s:St) (Q:V→St→Prop):Prop:=match b with
 |.ba l=>pR lo hi l.length fun a b=>Q (.ref s.σ.length) {s with σ:=s.σ++[.bx (.ba (cut l a b))]}
 |.lst l=>pR lo hi l.length fun a b=>Q (.p (.lst (cut l a b))) s
 |_=>False
noncomputable def slcP (lo hi:P) (x:P) (s:St) (Q:V→St→Prop):Prop:=match x with
 |.lst l=>pR lo hi l.length fun a b=>Q (.p (.lst (cut l a b))) s
 |_=>False
noncomputable def DN (lo hi:P) (v:V) (s:St) (Q:V→St→Prop):Prop:=match v with
 |.p x=>slcP lo hi x s Q
 |v=>dE s.σ v fun b=>C4 lo hi b s Q
noncomputable def DM (lo hi st:P) (v:V) (s:St) (Q:V→St→Prop):Prop:=match st with
 |.none=>DN lo hi v s Q
 |.int i=>i=-1∧(match lo with
  |.none=>(match hi with
   |.none=>dQ s.σ v fun l=>ou v∧l.length≤16777216∧Q (.p (.lst l.reverse)) s
   |_=>False)
  |_=>False)
 |_=>False
noncomputable def ps? : List V→Option (List P)
 |[]=>some []
 |.p x::r=>match ps? r with|some l=>some (x::l)|none=>none
 |_::_=>none
noncomputable def zo (l:List V):V:=match ps? l with|some l=>.p (.tup l)|none=>.tup l
mutual
noncomputable def oX:V→List O→V × List O
 |.ref i,σ=>match σ[i]? with|some (.bx (.lst l))=>(.p (.lst l),σ.set i .dead)|_=>(.ref i,σ)
 |.tup vs,σ=>match r6 vs σ with|(vs,σ)=>(zo vs,σ)
 |.p x,σ=>(.p x,σ)
 |.inn i k n,σ=>(.inn i k n,σ)
 |.inst c fs,σ=>(.inst c fs,σ)
noncomputable def r6:List V→List O→List V × List O
 |[],σ=>([],σ)
 |v::vs,σ=>match oX v σ with|(v,σ)=>match r6 vs σ with|(vs,σ)=>(v::vs,σ)
end
mutual
noncomputable def nf:V→List Nat→List Nat
 |.ref i,l|.inn i _ _,l=>if l.contains i then l else l++[i]
 |.inst _ fs,l=>f8 fs l
 |.tup fs,l=>f8 fs l
 |.p _,l=>l
noncomputable def f8:List V→List Nat→List Nat
 |[],l=>l
 |v::vs,l=>f8 vs (nf v l)
end
mutual
noncomputable def A0 (φ:Nat→Nat):V→V
 |.ref i=>.ref (φ i)
 |.inn i k n=>.inn (φ i) k n
 |.inst c fs=>.inst c (py φ fs)
 |.tup fs=>.tup (py φ fs)
 |.p x=>.p x
noncomputable def py (φ:Nat→Nat):List V→List V
 |[]=>[]
 |v::vs=>A0 φ v::py φ vs
end
mutual
noncomputable def scp (n:Nat):V→Bool
 |.ref i=>i<n
 |.inn i _ _=>i<n
 |.inst _ fs=>CO n fs
 |.tup fs=>CO n fs
 |.p _=>true
noncomputable def CO (n:Nat):List V→Bool
 |[]=>true
 |v::vs=>scp n v&&CO n vs
end
noncomputable def iT (n:Nat) (st:St):St:=⟨st.env.map fun|some v=>(match scp n v with|true=>some v|false=>none)|none=>none,st.σ.take n⟩
noncomputable def qI (σ:List O):List Nat→Option (List O)
 |[]=>some []
 |i::r=>match σ[i]?,qI σ r with|some o,some l=>some (o::l)|_,_=>none
noncomputable def mU (σ:List O):List Nat→List O→List O
 |[],new=>σ++new
 |i::r,o::os=>mU (σ.set i o) r os
 |_::_,[]=>σ
noncomputable def sD (ι:List Nat) (n j:Nat):Nat:=match ι[j]? with|some i=>i|none=>n+(j-ι.length)
@[irreducible] noncomputable def fj (G:Pg) (fa:Addr) (args:List V) (kws:List (Str × P)) (st:St) (Q:V→St→Prop):Prop:=opt (G.Φ fa) fun ctr=>opt (qI st.σ (f8 args [])) fun objs=>ctr (py ((f8 args []).idxOf ·) args) kws objs fun v objs'=>Q (A0 (sD (f8 args []) st.σ.length) v) {st with σ:=mU st.σ (f8 args []) objs'}
noncomputable def vm (x:V) (st:St) (Q:V→St→Prop):Prop:=match x with
 |.p (.int n)=>(0≤n∧n≤16777216)∧Q (.ref st.σ.length) {st with σ:=st.σ++[.bx (.ba (List.replicate n.toNat 0))]}
 |_=>False
noncomputable def zn (x:V) (st:St) (K:P→Prop):Prop:=match x with
 |.ref i=>(match st.σ[i]? with|some (.cinst c _ _)=>K (.st c)|_=>False)
 |.inst c _=>K (.st c)
 |_=>False
noncomputable def biV (f:Bi) (args:List V) (st:St) (Q:V→St→Prop):Prop:=match f with
 |.len=>one args fun x=>DS x st Q
 |.int=>one args fun x=>ry x fun i=>Q (.p (.int i)) st
 |.min=>AZ args fun x r=>one r fun y=>vT x y fun a b=>Q (.p (.int (min a b))) st
 |.bytes=>one args fun x=>uF st.σ x fun b=>b.length≤16777216∧Q (.p (.bytes b)) st
 |.bytearray=>one args fun x=>vm x st Q
 |.tuple=>one args fun x=>dQ st.σ x fun l=>(ou x∧l.length≤16777216)∧Q (.p (.tup l)) st
 |.sum=>one args fun x=>dQ st.σ x fun l=>ou x∧sumP l fun n=>Q (.p (.int n)) st
 |.type=>one args fun x=>zn x st fun z=>Q (.p z) st
 |_=>False
noncomputable def Dw (G:Pg) (f:P) (args:List V) (st:St) (Q:V→St→Prop):Prop:=match f with
 |.st fa=>fj G fa args [] st Q
 |.fn b=>biV b args st Q
 |_=>False
noncomputable def wA (G:Pg) (f:V) (args:List V) (st:St) (Q:V→St→Prop):Prop:=p1 f fun f=>Dw G f args st Q
inductive Cal where|fn (fa:Addr)|app|get|into (F:Fm)|frm (F:Fm)|val (x:P)
noncomputable def bmB (m:MI) (b:Bx) (K:Cal→Prop):Prop:=match b with
 |.lst _=>(match m.bm with|.append=>K .app|_=>False)
 |.dict _=>(match m.bm with|.get=>K .get|_=>False)
 |_=>False
noncomputable def BH (m:MI) (o:O) (K:Cal→Prop):Prop:=match o with
 |.cinst c _ _=>opt (m.fn.lookup c) fun fa=>K (.fn fa)
 |.bx b=>bmB m b K
 |.dead=>False
noncomputable def fmM (F:Fm) (m:MI) (K:Cal→Prop):Prop:=match m.bm with|.pack_into=>K (.into F)|.unpack_from=>K (.frm F)|_=>False
noncomputable def vF (G:Pg) (m:MI) (a:Addr) (K:Cal→Prop):Prop:=match G.fmt a with
 |some F=>fmM F m K
 |none=>opt (m.val.lookup a) fun x=>K (.val x)
noncomputable def inD (m:MI) (b:Bx) (K:Cal→Prop):Prop:=match b with|.dict _=>(match m.bm with|.get=>K .get|_=>False)|_=>False
noncomputable def methK (G:Pg) (m:MI) (o:V) (st:St) (K:Cal→Prop):Prop:=match o with
 |.ref j=>opt st.σ[j]? fun o=>BH m o K
 |.inn j k n=>dE st.σ (.inn j k n) fun b=>inD m b K
 |.inst c _=>opt (m.fn.lookup c) fun fa=>K (.fn fa)
 |.p x=>stP x fun a=>vF G m a K
 |_=>False
noncomputable def zZ (m:MI) (o:V) (st:St) (K:Addr→Prop):Prop:=match o with
 |.ref j=>opt st.σ[j]? fun o=>xS o fun c _ _=>opt (m.fn.lookup c) K
 |.inst c _=>opt (m.fn.lookup c) K
 |_=>False
theorem zY {G:Pg} {m:MI} {o:V} {st:St} {K:Addr→Prop} {K':Cal→Prop} (h:zZ m o st K) (hk:∀fa,K fa→K' (.fn fa)):methK G m o st K':=by
 cases o with
 |ref j=>
  refine e1b (eT h) fun o ho h=>?_
  refine e3b (mD h) fun c fs ver zq3 h=>?_;subst zq3
  refine e1b (eT h) fun fa hf h=>?_
  refine (?_:opt st.σ[j]? _)
  rw [ho]
  refine (?_:opt (m.fn.lookup c) _)
  rw [hf]
  exact hk fa h
 |inst c fs=>
  refine e1b (eT h) fun fa hf h=>?_
  refine (?_:opt (m.fn.lookup c) _)
  rw [hf]
  exact hk fa h
 |_=>exact h.elim
noncomputable def yh (G:Pg) (c:Cal) (o:V) (args:List V) (kws:List (Str × P)) (st:St) (Q:V→St→Prop):Prop:=match c with
 |.fn fa=>fj G fa (o::args) kws st Q
 |.app=>one args fun x=>match oX x st.σ with
   |(x,σ)=>p1 x fun x=>dE σ o fun b=>match b with
    |.lst l=>l.length<16777216∧Q (.p .none) {st with σ:=ki σ o (.lst (l++[x]))}
    |_=>False
 |.get=>one args fun k=>p1 k fun k=>dE st.σ o fun b=>match b with
   |.dict es=>nA k es∧Q (.p ((iQ es k).getD .none)) st
   |_=>False
 |.into F=>AZ args fun buf r=>AZ r fun off r=>one r fun n=>ry off fun off=>ry n fun n=>dE st.σ buf fun b=>match b with
   |.ba b=>(0≤off∧off+F.w≤b.length∧b.length≤16777216∧F.lo≤n∧n≤F.hi)∧Q (.p .none) {st with σ:=ki st.σ buf (.ba (put b off.toNat (le F.w n)))}
   |_=>False
 |.frm F=>AZ args fun buf r=>one r fun off=>ry off fun off=>uF st.σ buf fun b=>(0≤off∧off+F.w≤b.length∧b.length≤16777216)∧Q (.p (.tup [.int (F.rd ((b.drop off.toNat).take F.w))])) st
 |.val x=>wA G (.p x) args st Q
noncomputable def lS (a b c:Int):List P:=(List.range (Builtin.Range.rangeSize a b c).toNat).map fun (k:Nat)=>.int (a+(k:Int)*c)
noncomputable def rOK (a b c:Int):Prop:=-(2 ^ 31)≤a∧a≤2 ^ 31∧-(2 ^ 31)≤b∧b≤2 ^ 31∧(c=1∨c=-1)
noncomputable def rng3 (a b c:Int) (K:List P→(St→Prop)→Prop):Prop:=rOK a b c∧K (lS a b c) fun _=>True
noncomputable def Db (a:Int) (r:List V) (K:List P→(St→Prop)→Prop):Prop:=match r with
 |[]=>rng3 0 a 1 K
 |_::_=>False
noncomputable def pD (ik:It) (vs:List V) (st:St) (K:List P→(St→Prop)→Prop):Prop:=match ik with
 |.lst=>one vs fun v=>dQ st.σ v fun l=>K l fun st=>dQ st.σ v (· = l)
 |.rev=>one vs fun v=>dQ st.σ v fun l=>ou v∧K l.reverse fun st=>dQ st.σ v (· = l)
 |.rng=>AZ vs fun a r=>ry a fun a=>Db a r K
noncomputable def vH (n0:Nat) (chk:St→Prop) (step:P→St→(Fl→St→Prop)→Prop):List P→St→(Fl→St→Prop)→Prop
 |[],st,Q=>chk st∧Q .next st
 |x::xs,st,Q=>chk st∧step x st fun f st=>match f with
  |.next|.cont=>vH n0 chk step xs (iT n0 st) Q
  |.brk=>Q .next st
  |.ret v=>Q (.ret v) st
noncomputable def qW (chk:St→Prop) (step:P→St→(List P→St→Prop)→Prop):List P→List P→St→(List P→St→Prop)→Prop
 |[],acc,st,Q=>chk st∧Q acc st
 |x::xs,acc,st,Q=>chk st∧step x st fun ys st=>qW chk step xs (acc++ys) st Q
@[irreducible] noncomputable def t0 (n0:Nat) (chk:St→Prop) (step:P→St→(Fl→St→Prop)→Prop) (l:List P) (st:St) (Q:Fl→St→Prop):Prop:=vH n0 chk step l st Q
@[irreducible] noncomputable def wq (chk:St→Prop) (step:P→St→(List P→St→Prop)→Prop) (l acc:List P) (st:St) (Q:List P→St→Prop):Prop:=qW chk step l acc st Q
noncomputable def zm (n0:Nat) (test:St→(Bool→St→Prop)→Prop) (body:St→(Fl→St→Prop)→Prop):Nat→St→(Fl→St→Prop)→Prop
 |0,_,_=>False
 |n+1,st,Q=>test st fun b st=>br b (body st fun f st=>match f with
  |.next|.cont=>zm n0 test body n (iT n0 st) Q
  |.brk=>Q .next st
  |.ret v=>Q (.ret v) st) (Q .next st)
noncomputable def rI:List Nat→List P→List (Option V)→Option (List (Option V))
 |[],[],env=>some env
 |i::is,x::xs,env=>rI is xs (env.set i (some (.p x)))
 |_,_,_=>none
noncomputable def kg:List Nat→List V→List (Option V)→Option (List (Option V))
 |[],[],env=>some env
 |i::is,x::xs,env=>kg is xs (env.set i (some x))
 |_,_,_=>none
noncomputable def w8 (t:T) (v:V) (st:St) (Q:St→Prop):Prop:=match t with
 |.var i=>Q {st with env:=st.env.set i (some v)}
 |.tup is=>match v with
  |.p (.tup l)=>match rI is l st.env with|some env=>Q {st with env:=env}|none=>False
  |.tup l=>match kg is l st.env with|some env=>Q {st with env:=env}|none=>False
  |_=>False
noncomputable def qi (t:T) (wc:St→(Bool→St→Prop)→Prop) (we:St→(List V→St→Prop)→Prop) (x:P) (st:St) (K:List P→St→Prop):Prop:=
 w8 t (.p x) st fun st1=>wc st1 fun b st2=>st2.env=st1.env∧br b
  (we st2 fun ys st3=>st3.env=st2.env∧match r6 ys st3.σ with|(ys,σ)=>match ps? ys with|some ps=>K ps ⟨st.env,σ⟩|none=>False)
  (K [] ⟨st.env,st2.σ⟩)
mutual
noncomputable def w (G:Pg):C→St→(List V→St→Prop)→Prop
 |.lit x,st,Q|.glob x,st,Q=>Q [.p x] st
 |.var i,st,Q=>wk st.env i fun v=>Q [v] st
 |.nil,st,Q=>Q [] st
 |.cons a b,st,Q=>w G a st fun x st=>w G b st fun y st=>Q (x++y) st
 |.bin op a b,st,Q=>w G a st fun x st=>w G b st fun y st=>one x fun x=>one y fun y=>CV op x y st fun v st=>Q [v] st
 |.un op a,st,Q=>w G a st fun x st=>one x fun x=>ry x fun i=>match op with
  |.USub=>Q [.p (.int (-i))] st
  |.Invert=>Q [.p (.int (-i-1))] st
  |_=>False
 |.repl own a b,st,Q=>w G a st fun x st=>w G b st fun y st=>one x fun x=>one y fun y=>DR x fun l=>ry y fun n=>(l.length≤16∧-1048576≤n∧n≤1048576)∧(match own with
   |true=>Q [.ref st.σ.length] {st with σ:=st.σ++[.bx (.lst (List.replicate n.toNat l).flatten)]}
   |false=>Q [.p (.lst (List.replicate n.toNat l).flatten)] st)
 |.not a,st,Q=>w G a st fun x st=>one x fun x=>gY x st fun b=>Q [.p (.bool (!b))] st
 |.and a b,st,Q=>w G a st fun x st=>one x fun x=>gY x st fun t=>br t (w G b st Q) (Q [x] st)
 |.or a b,st,Q=>w G a st fun x st=>one x fun x=>gY x st fun t=>br t (Q [x] st) (w G b st Q)
 |.cmp op a b,st,Q=>w G a st fun x st=>w G b st fun y st=>one x fun x=>one y fun y=>Av op x y st fun v st=>Q [v] st
 |.chain o1 o2 a b c,st,Q=>w G a st fun x st=>w G b st fun y st=>one x fun x=>one y fun y=>Av o1 x y st fun t st=>gY t st fun u=>br u (w G c st fun z st=>one z fun z=>Av o2 y z st fun v st=>Q [v] st) (Q [t] st)
 |.ite t a b,st,Q=>wt G t st fun u st=>br u (w G a st Q) (w G b st Q)
 |.attr a i,st,Q=>w G a st fun x st=>one x fun x=>AO i x st fun v st=>Q [v] st
 |.idx a b,st,Q=>w G a st fun x st=>w G b st fun y st=>one x fun x=>one y fun y=>DU x y st fun v st=>Q [v] st
 |.slc a lo hi step,st,Q=>w G a st fun x st=>w G lo st fun lo st=>w G hi st fun hi st=>w G step st fun step st=>one x fun x=>one lo fun lo=>one hi fun hi=>one step fun step=>p1 lo fun lo=>p1 hi fun hi=>p1 step fun step=>DM lo hi step x st fun v st=>Q [v] st
 |.tup xs,st,Q=>w G xs st fun vs st=>vs.length≤1000∧Q [zo vs] st
 |.lst own xs,st,Q=>w G xs st fun vs st=>match ps? vs with
  |some l=>l.length≤1000∧(match own with|true=>Q [.ref st.σ.length] {st with σ:=st.σ++[.bx (.lst l)]}|false=>Q [.p (.lst l)] st)
  |none=>False
 |.dict0,st,Q=>Q [.ref st.σ.length] {st with σ:=st.σ++[.bx (.dict [])]}
 |.call f xs,st,Q=>w G f st fun f st=>w G xs st fun xs st=>one f fun f=>wA G f xs st fun v st=>Q [v] st
 |.meth o m xs,st,Q=>w G o st fun o st=>one o fun o=>methK G m o st fun c=>w G xs st fun xs st=>yh G c o xs [] st fun v st=>Q [v] st
 |.methS o m xs,st,Q=>w G o st fun o st=>one o fun o=>zZ m o st fun fa=>w G xs st fun xs st=>fj G fa (o::xs) [] st fun v st=>Q [v] st
 |.star a,st,Q=>w G a st fun v st=>one v fun v=>DL v fun l=>l.length≤16777216∧Q (l.map .p) st
 |.methK o m xs kn k,st,Q=>w G o st fun o st=>one o fun o=>zZ m o st fun fa=>w G xs st fun xs st=>w G k st fun k st=>one k fun k=>p1 k fun k=>fj G fa (o::xs) [(kn,k)] st fun v st=>Q [v] st
 |.comp own elt t m ik it conds,st,Q=>w G it st fun vs st=>pD ik vs st fun l chk=>(own=false∧l.length≤16777216)∧
   wq chk (qi t (wt G conds) (w G elt)) l [] {st with env:=st.env++List.replicate m none} fun acc st'=>Q [.p (.lst acc)] {st' with env:=st.env}
 |.gen elt t ik it conds,st,Q=>w G it st fun vs st=>pD ik vs st fun l chk=>
   qW chk (qi t (wt G conds) (w G elt)) l [] st fun acc st'=>Q (acc.map .p) {st' with env:=st.env}
noncomputable def wt (G:Pg):C→St→(Bool→St→Prop)→Prop
 |.not a,st,Q=>wt G a st fun b st=>Q (!b) st
 |.and a b,st,Q=>wt G a st fun t st=>br t (wt G b st Q) (Q false st)
 |.or a b,st,Q=>wt G a st fun t st=>br t (Q true st) (wt G b st Q)
 |.ite t a b,st,Q=>wt G t st fun u st=>br u (wt G a st Q) (wt G b st Q)
 |.cmp op a b,st,Q=>w G a st fun x st=>w G b st fun y st=>one x fun x=>one y fun y=>Av op x y st fun v st=>gY v st fun b=>Q b st
 |.chain o1 o2 a b c,st,Q=>w G a st fun x st=>w G b st fun y st=>one x fun x=>one y fun y=>Av o1 x y st fun t st=>gY t st fun u=>br u (w G c st fun z st=>one z fun z=>Av o2 y z st fun v st=>gY v st fun b=>Q b st) (Q false st)
 |.lit (.bool b),st,Q=>Q b st
 |.var i,st,Q=>wk st.env i fun v=>gY v st fun b=>Q b st
 |.attr a i,st,Q=>w G a st fun x st=>one x fun x=>AO i x st fun v st=>gY v st fun b=>Q b st
 |.meth o m xs,st,Q=>w G o st fun o st=>one o fun o=>methK G m o st fun c=>w G xs st fun xs st=>yh G c o xs [] st fun v st=>gY v st fun b=>Q b st
 |.call f xs,st,Q=>w G f st fun f st=>w G xs st fun xs st=>one f fun f=>wA G f xs st fun v st=>gY v st fun b=>Q b st
 |_,_,_=>False
end
noncomputable def By:V→V→Bool
 |.ref i, .ref j=>i==j
 |.inn i k _, .inn j m _=>i==j&&k==m
 |_,_=>false
noncomputable def C9 (G:Pg) (j k:Nat) (c:Addr) (fs:List Sl) (ver:Nat) (v:V) (st:St) (Q:St→Prop):Prop:=match v with
 |.p x=>Q {st with σ:=st.σ.set j (.cinst c (fs.set k (.v x)) (ver+1))}
 |.ref r=>G.own c=true∧opt st.σ[r]? fun o=>(match o with|.bx b=>Q {st with σ:=(st.σ.set j (.cinst c (fs.set k (.bx b)) (ver+1))).set r .dead}|_=>False)
 |_=>False
noncomputable def Bu (G:Pg) (i:AI) (o v:V) (st:St) (Q:St→Prop):Prop:=match o with
 |.ref j=>opt st.σ[j]? fun o=>xS o fun c fs ver=>opt (i.slots.lookup c) fun k=>opt fs[k]? fun _=>C9 G j k c fs ver v st Q
 |_=>False
noncomputable def C8 (o:V) (j x:P) (st:St) (σ:List O) (Q:St→Prop) (b:Bx):Prop:=match b with
 |.lst l=>(match j with|.int j=>(0≤j∧j<l.length∧l.length≤16777216)∧Q {st with σ:=ki σ o (.lst (l.set j.toNat x))}|_=>False)
 |.dict es=>(nA j es∧es.length≤16777216)∧Q {st with σ:=ki σ o (.dict (o5 es j x))}
 |_=>False
noncomputable def C6 (o v:V) (lo hi:P) (new:List UInt8) (st:St) (Q:St→Prop) (b:Bx):Prop:=match b with
 |.ba b=>pR lo hi b.length fun l h=>(By v o=false∧l≤h∧new.length=h-l)∧Q {st with σ:=ki st.σ o (.ba (b.take l++new++b.drop h))}
 |_=>False
noncomputable def wS (G:Pg):S→St→(Fl→St→Prop)→Prop
 |.skip,st,Q=>Q .next st
 |.seq a b,st,Q=>wS G a st fun f st=>match f with|.next=>wS G b st Q|f=>Q f st
 |.expr e,st,Q=>w G e st fun _ st=>Q .next st
 |.asg t e,st,Q=>w G e st fun x st=>one x fun x=>w8 t x st fun st=>Q .next st
 |.aug i op e,st,Q=>wk st.env i fun x=>w G e st fun y st=>one y fun y=>vT x y fun a b=>CV op (.p (.int a)) (.p (.int b)) st fun v st=>Q .next {st with env:=st.env.set i (some v)}
 |.setA o i e,st,Q=>w G e st fun v st=>w G o st fun o st=>one o fun o=>one v fun v=>Bu G i o v st fun st=>Q .next st
 |.setI o i e,st,Q=>w G e st fun v st=>w G o st fun o st=>w G i st fun i st=>one o fun o=>one i fun i=>one v fun v=>p1 i fun j=>match oX v st.σ with
  |(x,σ)=>p1 x fun x=>dE σ o (C8 o j x st σ fun st=>Q .next st)
 |.setS o lo hi e,st,Q=>w G e st fun v st=>w G o st fun o st=>w G lo st fun lo st=>w G hi st fun hi st=>one o fun o=>one v fun v=>one lo fun lo=>one hi fun hi=>p1 lo fun lo=>p1 hi fun hi=>
  uF st.σ v fun new=>dE st.σ o (C6 o v lo hi new st fun st=>Q .next st)
 |.ite t a b,st,Q=>wt G t st fun u st=>br u (wS G a st Q) (wS G b st Q)
 |.whl t body,st,Q=>∃n,zm st.σ.length (wt G t) (wS G body) n st Q
 |.forIn t ik it body,st,Q=>w G it st fun vs st=>pD ik vs st fun l chk=>t0 st.σ.length chk (fun x st K=>w8 t (.p x) st fun st=>wS G body st K) l st Q
 |.ret e,st,Q=>w G e st fun x st=>one x fun x=>match oX x st.σ with|(x,σ)=>Q (.ret x) {st with σ:=σ}
 |.brk,st,Q=>Q .brk st
 |.cont,st,Q=>Q .cont st
 |.raise,_,_=>False
 |.assert e,st,Q=>wt G e st fun b st=>b=true∧Q .next st
end
section
theorem jv {x y:P}:eqB x y=true↔x=y:=by unfold eqB;simp
theorem x8 (x:P):eqB x x=true:=jv.mpr rfl
theorem tC (k:P):iQ [] k=none:=rfl
theorem y7 {x y:P} (h:¬x=y):eqB x y=false:=Bool.eq_false_iff.mpr fun q=>h (jv.mp q)
theorem tD {e:P × P} {es:List (P × P)} {k:P} (h:e.1=k):iQ (e::es) k=some e.2:=by
 unfold iQ;rw [List.find?_cons,jv.mpr h];rfl
theorem qS {e:P × P} {es:List (P × P)} {k:P} (h:¬e.1=k):iQ (e::es) k=iQ es k:=by
 unfold iQ;rw [List.find?_cons,y7 h]
section
variable {g:Gm}
theorem gJ.get {k:Int}:∀{es:List (P × P)} {kvs:List (Int × Value)},gJ g es kvs→
  (∀z,iQ es (.int k)=some z→∃v,valueAt kvs k=some v∧PRel g z v)∧(iQ es (.int k)=none→valueAt kvs k=none)
 |[],kvs,h=>by subst h;exact ⟨fun z h=>(by rw [tC] at h;exact ns h),fun _=>rfl⟩
 |e::es,kvs,h=>by
  refine e3d h fun k' v r zq3 h1 h2 h3=>?_;clear h;subst zq3
  have ih:=h3.get (k:=k)
  by_cases q:k'=k
  ·clear h3;subst q
   have e1:valueAt ((k',v)::r) k'=some v:=by unfold valueAt;rw [List.find?_cons];simp
   rw [tD h1,e1]
   exact ⟨fun z hz=>by obtain rfl:=sj hz;exact ⟨v,rfl,h2⟩,fun hz=>by exact sn hz⟩
  ·have e1:valueAt ((k',v)::r) k=valueAt r k:=by unfold valueAt;rw [List.find?_cons];simp [q]
   rw [qS (by rw [h1];simpa using q),e1];exact ih
theorem gJ.put {k:Int} {v:Value} {z:P} (hz:PRel g z v):∀{es:List (P × P)} {kvs:List (Int × Value)},gJ g es kvs→
  gJ g (es.map fun x=>if eqB x.1 (.int k) then (x.1,z) else x) (kvs.map fun kv=>if kv.1=k then (kv.1,v) else kv)
 |[],kvs,h=>by subst h;rfl
 |e::es,kvs,h=>by
  refine e3d h fun k' v' r zq3 h1 h2 h3=>?_;clear h;subst zq3
  have ih:=h3.put (k:=k) hz
  simp only [List.map_cons]
  by_cases q:k'=k
  ·have:eqB e.1 (.int k)=true:=jv.mpr (by rw [h1,q])
   rw [if_pos this,if_pos q]
   exact ⟨k',v,_,rfl,h1,hz,ih⟩
  ·have:¬eqB e.1 (.int k)=true:=fun h=>q (by have:=jv.mp h;rw [h1] at this;simpa using this)
   rw [if_neg this,if_neg q]
   exact ⟨k',v',_,rfl,h1,h2,ih⟩
theorem gJ.snoc {k:Int} {v:Value} {z:P} (hz:PRel g z v):∀{es:List (P × P)} {kvs:List (Int × Value)},gJ g es kvs→gJ g (es++[(.int k,z)]) (kvs++[(k,v)])
 |[],kvs,h=>by subst h;exact ⟨k,v,[],rfl,rfl,hz,rfl⟩
 |e::es,kvs,h=>by
  refine e3d h fun k' v' r zq3 h1 h2 h3=>?_;clear h;subst zq3
  exact ⟨k',v',_,rfl,h1,h2,h3.snoc hz⟩
theorem gJ.length:∀{es:List (P × P)} {kvs:List (Int × Value)},gJ g es kvs→kvs.length=es.length
 |[],kvs,h=>by subst h;rfl
 |e::es,kvs,h=>by refine e3d h fun k' v' r zq3 h1 h2 h3=>?_;clear h;clear h2 h1;subst zq3;simp [h3.length]
theorem gJ.set {k:Int} {v:Value} {z:P} {es:List (P × P)} {kvs:List (Int × Value)} (h:gJ g es kvs) (hz:PRel g z v):gJ g (o5 es (.int k) z) (stored kvs k v):=by
 have hg:=h.get (k:=k)
 unfold o5 stored
 have hany:kvs.any (fun kv=>decide (kv.1=k))=(valueAt kvs k).isSome:=by
  unfold valueAt
  rw [Option.isSome_map,Bool.eq_iff_iff,List.any_eq_true,List.find?_isSome]
 rw [hany]
 clear hany;split
 ·rename_i z' hz'
  refine e1b (hg.1 z' hz') fun v' hv' _=>?_
  rw [hv'];exact h.put hz
 ·rename_i hz'
  rw [hg.2 hz'];exact h.snoc hz
noncomputable abbrev kT (k:List Int):P:=.tup (k.map .int)
theorem vM {k k':List Int}:kT k=kT k'↔k=k':=by
 constructor
 ·intro h
  injection h with h
  exact (List.map_inj_right fun a b q=>by injection q).mp h
 ·rintro rfl;rfl
theorem gI.get {k:List Int}:∀{es:List (P × P)} {xs:List (List Int × Addr × Value)},gI g es xs→
  (∀z,iQ es (kT k)=some z→∃a v,atKey xs k=some (a,v)∧PRel g z v)∧(iQ es (kT k)=none→atKey xs k=none)
 |[],xs,h=>by subst h;exact ⟨fun z h=>(by rw [tC] at h;exact ns h),fun _=>rfl⟩
 |e::es,xs,h=>by
  refine e4e h fun k' a v r zq4 h1 h0 h2 h3=>?_;clear h;clear h0;subst zq4
  have ih:=h3.get (k:=k)
  by_cases q:k'=k
  ·clear h3;subst q
   have e1:atKey ((k',a,v)::r) k'=some (a,v):=by unfold atKey;rw [List.find?_cons];simp
   rw [tD h1,e1]
   exact ⟨fun z hz=>by obtain rfl:=sj hz;exact ⟨a,v,rfl,h2⟩,fun hz=>by exact sn hz⟩
  ·have e1:atKey ((k',a,v)::r) k=atKey r k:=by unfold atKey;rw [List.find?_cons];simp [q]
   rw [qS (by rw [h1];exact fun x=>q (vM.mp x)),e1];exact ih
theorem gI.put {k:List Int} {v:Value} {z:P} (hz:PRel g z v):∀{es:List (P × P)} {xs:List (List Int × Addr × Value)},gI g es xs→
  gI g (es.map fun x=>if eqB x.1 (kT k) then (x.1,z) else x) (xs.map (putAt k v))
 |[],xs,h=>by subst h;rfl
 |e::es,xs,h=>by
  refine e4e h fun k' a v' r zq4 h1 h0 h2 h3=>?_;clear h;subst zq4
  have ih:=h3.put (k:=k) hz
  simp only [List.map_cons,putAt]
  by_cases q:k'=k
  ·have:eqB e.1 (kT k)=true:=jv.mpr (by rw [h1,q])
   rw [if_pos this,if_pos q]
   exact ⟨k',a,v,_,rfl,h1,h0,hz,ih⟩
  ·have:¬eqB e.1 (kT k)=true:=fun h=>q (by have:=jv.mp h;rw [h1] at this;exact vM.mp this)
   rw [if_neg this,if_neg q]
   exact ⟨k',a,v',_,rfl,h1,h0,h2,ih⟩
theorem gI.snoc {k:List Int} {a:Addr} {v:Value} {z:P} (ha:w9 g k a) (hz:PRel g z v):∀{es:List (P × P)} {xs:List (List Int × Addr × Value)},gI g es xs→gI g (es++[(kT k,z)]) (xs++[(k,a,v)])
 |[],xs,h=>by subst h;exact ⟨k,a,v,[],rfl,rfl,ha,hz,rfl⟩
 |e::es,xs,h=>by
  refine e4e h fun k' a' v' r zq4 h1 h0 h2 h3=>?_;clear h;subst zq4
  exact ⟨k',a',v',_,rfl,h1,h0,h2,h3.snoc ha hz⟩
theorem gI.length:∀{es:List (P × P)} {xs:List (List Int × Addr × Value)},gI g es xs→xs.length=es.length
 |[],xs,h=>by subst h;rfl
 |e::es,xs,h=>by refine e4e h fun k' a v' r zq4 h1 h0 h2 h3=>?_;clear h;clear h2 h0 h1;subst zq4;simp [h3.length]
theorem gI.set {k:List Int} {a:Addr} {v:Value} {z:P} {es:List (P × P)} {xs:List (List Int × Addr × Value)} (h:gI g es xs) (ha:w9 g k a) (hz:PRel g z v):gI g (o5 es (kT k) z) (storedH xs k a v):=by
 have hg:=h.get (k:=k)
 unfold o5 storedH
 split
 ·rename_i z' hz'
  refine e2b (hg.1 z' hz') fun a' v' hv' _=>?_
  rw [hv'];exact h.put hz
 ·rename_i hz'
  rw [hg.2 hz'];exact h.snoc ha hz
theorem gI.keys:∀{es:List (P × P)} {xs:List (List Int × Addr × Value)},gI g es xs→∀x∈xs,w9 g x.1 x.2.1
 |[],xs,h=>by subst h;exact fun _ h=>nomatch h
 |e::es,xs,h=>by
  refine e4e h fun k' a' v' r zq4 h1 h0 h2 h3=>?_;clear h;clear h2 h1;subst zq4
  intro x hx
  clear e;rcases List.mem_cons.mp hx with rfl|hx
  ·exact h0
  ·exact h3.keys x hx
theorem oV {prog:Program} {w:World}:∀{ks:List Int} {vs:List Value},dJ g (ks.map .int) vs→ItemsAre (intKind prog w) ks vs
 |[],_,h=>by subst h;exact .nil
 |k::ks,_,⟨v,r,e,⟨t,h1⟩,h2⟩=>by subst e;subst h1;exact .cons (by simp [intKind,Value.isInt]) (oV h2)
theorem w9.is {prog:Program} {w:World} {h:Heap} {ks:List Int} {a:Addr} (hg:∀a o,g a=some o→h.get? a=some o) (x:w9 g ks a):(tupleKind (intKind prog w)).is h ks a:=by
 refine e2b x fun vs n h1 h2=>?_
 exact ⟨_,vs.toArray,n,hg _ _ h1,rfl,rfl,by simpa using oV h2⟩
theorem uy.ofH {prog:Program} {w:World} {h:Heap} {d:Addr} {o:Obj} {es:List (P × P)} (hg:∀a o,g a=some o→h.get? a=some o) (ho:h.get? d=some o) (x:uy g o es) :
  ∃xs,h.DictOfH (tupleKind (intKind prog w)) d xs∧gI g es xs:=by
 refine e3e x fun xs es' ep h1 h2 h3 h4 h5=>?_
 exact ⟨xs,⟨o,es',ep,ho,h1,h2,h3,fun x hx=>(h5.keys x hx).is hg,h4⟩,h5⟩
theorem uy.sD {prog:Program} {w:World} {h:Heap} {d:Addr} {es:List (P × P)} {xs:List (List Int × Addr × Value)} (x:h.DictOfH (tupleKind (intKind prog w)) d xs) (y:gI g es xs) :
  ∃o,h.get? d=some o∧uy g o es:=by
 refine e3f x fun o es' ep h0 h1 h2 h3 h4 h5=>?_
 exact ⟨o,h0,xs,es',ep,h1,h2,h3,h5,y⟩
theorem vc {p p':Program} {w w':World} {es:List DictEntry} {kvs:List (Int × Value)} (h:Pairs (intKind p w) es kvs):Pairs (intKind p' w') es kvs:=by
 induction h with
 |nil=>exact .nil
 |cons h1 h2 _ ih=>exact .cons h1 h2 ih
theorem ye {p p':Program} {w w':World} {o:Obj} {kvs:List (Int × Value)} (h:o.IsDictOf (intKind p w) kvs):o.IsDictOf (intKind p' w') kvs:=
 e2e h fun es ep h1 h2 h3 h4 h5=>⟨es,ep,h1,h2,h3,vc h4,h5⟩
theorem sM.of {prog:Program} {w:World} {h:Heap} {d:Addr} {o:Obj} {es:List (P × P)} (ho:h.get? d=some o) (x:sM g o es):∃kvs,h.DictOf (intKind prog w) d kvs∧gJ g es kvs:=
 e1b x fun kvs h1 h2=>⟨kvs,Heap.dictOf_iff.mpr ⟨o,ho,h1 prog w⟩,h2⟩
theorem sM.sD {prog:Program} {w:World} {h:Heap} {d:Addr} {es:List (P × P)} {kvs:List (Int × Value)} (x:h.DictOf (intKind prog w) d kvs) (y:gJ g es kvs):∃o,h.get? d=some o∧sM g o es:=
 e1b (Heap.dictOf_iff.mp x) fun o h0 h1=>⟨o,h0,kvs,fun _ _=>ye h1,y⟩
theorem ii (prog:Program) (wd:World) {h:Heap} {d:Addr} {k:P} {es:List (P × P)} (hb:lr g h d (.dict es)) (hk:nA k es) :
  (d==sysModules)=false∧((∃i,k=.int i∧∃o,h.get? d=some o∧sM g o es)∨(∃l,k=kT l∧∃o,h.get? d=some o∧uy g o es)):=by
 refine e0b hb fun h0 zr=>e1b zr fun o h1 h2=>?_
 refine ⟨h0,?_⟩
 have nilI:uy g o []→sM g o []:=fun zp=>e3e zp fun xs es' ep e1 e2 e3 e4 e5=>by
  clear hb h0 e4 zr;subst e5
  refine ⟨[],fun prog w=>⟨es',ep,e1,e2,?_,?_,List.nodup_nil⟩,rfl⟩
  ·intro e he
   have:e∈es'.toList:=by simpa using he
   rw [e3] at this;clear he;cases this
  ·rw [e3];constructor
 have nilT:sM g o []→uy g o []:=fun zp=>e1b zp fun kvs e1 e2=>by
  clear hb h0 zp zr;subst e2
  refine e2e (e1 prog wd) fun es' ep q1 q2 q3 q4 q5=>?_
  refine ⟨[],es',ep,q1,q2,?_,List.nodup_nil,rfl⟩
  have:=q4.length
  simpa using this
 clear zr;rcases hk with ⟨⟨i,rfl⟩,hk⟩|⟨⟨l,rfl⟩,hk⟩
 ·refine .inl ⟨i,rfl,o,h1,?_⟩
  rcases h2 with h2|h2
  ·exact h2
  ·cases es with
   |nil=>exact nilI h2
   |cons e es=>
    refine e3e h2 fun _ _ _ _ _ _ _ q=>?_
    refine e4c q fun k' a v r zq4 e1 _=>?_;clear q;clear hb wd prog i h0 nilI;subst zq4
    refine e1a (hk _ List.mem_cons_self) fun i' e2=>?_
    rw [e1] at e2;cases e2
 ·refine .inr ⟨l,rfl,o,h1,?_⟩
  rcases h2 with h2|h2
  ·cases es with
   |nil=>exact nilT h2
   |cons e es=>
    refine e1b h2 fun _ _ q=>?_
    refine e3c q fun k' v r zq3 e1 _=>?_;clear q;clear hb wd prog h1 l h0 nilT nilI;subst zq3
    refine e1a (hk _ List.mem_cons_self) fun i' e2=>?_
    rw [e1] at e2;clear hk d h e1;cases e2
  ·exact h2
end
section
variable {prog:Program} {wd:World} {A:Around} {s:Shared} {g:Gm} {d:Addr} {k:P} {es:List (P × P)} {key:Value}
theorem ts {l:List Int} {key:Value} (h:PRel g (kT l) key):∃a,key=.ref a∧w9 g l a:=by
 refine e4d h fun a o vs n zq4 h1 zq6 h2=>?_;clear h;subst zq4 zq6
 exact ⟨a,rfl,vs,n,h1,h2⟩
theorem ui {kvs:List (Int × Value)} {i:Int} (h:gJ g es kvs):(valueAt kvs i).isSome=(iQ es (.int i)).isSome:=by
 cases q:iQ es (.int i) with
 |none=>rw [h.get.2 q];rfl
 |some z=>refine e1b (h.get.1 z q) fun v hv _=>?_;rw [hv];rfl
theorem uh {xs:List (List Int × Addr × Value)} {i:List Int} (h:gI g es xs):(atKey xs i).isSome=(iQ es (kT i)).isSome:=by
 cases q:iQ es (kT i) with
 |none=>rw [h.get.2 q];rfl
 |some z=>refine e2b (h.get.1 z q) fun a v hv _=>?_;rw [hv];rfl
theorem As {Q:Value→Shared→Prop} (hu:A.units+80<cLine) (hg:∀a o,g a=some o→s.heap.get? a=some o) (hb:lr g s.heap d (.dict es)) (hk:nA k es) (hx:PRel g k key)
  (h:∀t,Q (.bool (iQ es k).isSome) {s with toks:=t}):wpN (model prog wd) A (compareOp .In key (.ref d)) Q s:=by
 obtain ⟨h0,⟨i,rfl,o,h1,h2⟩|⟨l,rfl,o,h1,h2⟩⟩:=ii prog wd hb hk
 ·refine e1b (sM.of (prog:=prog) (w:=wd) h1 h2) fun kvs h3 h4=>?_
  refine e1a hx fun t zq1=>?_;clear hx;clear hk hb hu;subst zq1
  refine cQ (wpAny_in_of (knd:=intKind prog wd) (k:=i) (by simp [intKind,Value.isInt]) h0 h3.mapOf ?_)
  rw [ui h4];exact h _
 ·refine e1b (uy.ofH (prog:=prog) (w:=wd) hg h1 h2) fun xs h3 h4=>?_
  refine e1b (ts hx) fun a zq1 ha=>?_;subst zq1
  refine cQ (wpAny_in_heap (knd:=tupleKind (intKind prog wd)) (k:=l) (tupleKind_room_in1 (by lia)) (ha.is hg) h0 h3 ?_)
  rw [uh h4];exact h _
theorem qQ {z:P} {Q:Value→Shared→Prop} (hu:A.units+80<cLine) (hg:∀a o,g a=some o→s.heap.get? a=some o) (hb:lr g s.heap d (.dict es)) (hk:nA k es) (hx:PRel g k key) (hz:iQ es k=some z)
  (h:∀v t,PRel g z v→Q v {s with toks:=t}):wpN (model prog wd) A (getItem (.ref d) key) Q s:=by
 obtain ⟨h0,⟨i,rfl,o,h1,h2⟩|⟨l,rfl,o,h1,h2⟩⟩:=ii prog wd hb hk
 ·refine e1b (sM.of (prog:=prog) (w:=wd) h1 h2) fun kvs h3 h4=>?_
  refine e1a hx fun t zq1=>?_;clear hx;clear hk hb hu h0;subst zq1
  refine e1b (h4.get.1 z hz) fun v hv hr=>?_
  exact cQ (wpAny_getItem_of (knd:=intKind prog wd) (k:=i) (by simp [intKind,Value.isInt]) h3.mapOf hv (h v _ hr))
 ·refine e1b (uy.ofH (prog:=prog) (w:=wd) hg h1 h2) fun xs h3 h4=>?_
  refine e1b (ts hx) fun a zq1 ha=>?_;subst zq1
  refine e2b (h4.get.1 z hz) fun b v hv hr=>?_
  exact cQ (wpAny_getItem_heap (knd:=tupleKind (intKind prog wd)) (k:=l) (tupleKind_room_in1 (by lia)) (ha.is hg) h3 hv (h v _ hr))
theorem qO {z:P} {v:Value} {Q:Unit→Shared→Prop} (hu:A.units+80<cLine) (hg:∀a o,g a=some o→s.heap.get? a=some o) (hgd:g d=none) (hb:lr g s.heap d (.dict es)) (hk:nA k es) (hx:PRel g k key) (hz:PRel g z v) (hsz:es.length≤16777216)
  (h:∀h' t,Heap.SameBut d s.heap h'→lr g h' d (.dict (o5 es k z))→Q () {s with heap:=h',toks:=t}):wpN (model prog wd) A (setItem (.ref d) key v) Q s:=by
 obtain ⟨h0,⟨i,rfl,o,h1,h2⟩|⟨l,rfl,o,h1,h2⟩⟩:=ii prog wd hb hk
 ·refine e1b (sM.of (prog:=prog) (w:=wd) h1 h2) fun kvs h3 h4=>?_
  refine e1a hx fun t zq1=>?_;clear hx;clear hk hb hgd hu;subst zq1
  refine cQ (wpAny_setItem_pairs (knd:=intKind prog wd) (k:=i) (by simp [intKind,Value.isInt]) h3 (fun h' h5 hs=>h h' _ hs ⟨h0,?_⟩) (by rw [h4.length,sizeLine_eq];exact cT [] [_] ab aq 1 [.j 1 ab aq] rfl hsz))
  refine e1b (sM.sD h5 (h4.set hz)) fun o' e1 e2=>?_
  exact ⟨o',e1, .inl e2⟩
 ·refine e1b (uy.ofH (prog:=prog) (w:=wd) hg h1 h2) fun xs h3 h4=>?_
  refine e1b (ts hx) fun a zq1 ha=>?_;subst zq1
  refine cQ (wpAny_setItem_heap (knd:=tupleKind (intKind prog wd)) (k:=l) (tupleKind_room_in1 (by lia)) (ha.is hg) h3 (fun h' h5 hs=>h h' _ hs ⟨h0,?_⟩) (by rw [h4.length,sizeLine_eq];exact cT [] [_] ab aq 1 [.j 1 ab aq] rfl hsz))
  refine e1b (uy.sD h5 (h4.set ha hz)) fun o' e1 e2=>?_
  exact ⟨o',e1, .inr e2⟩
theorem yd {Q:Value→Shared→Prop} (hu:A.units+80<cLine) (hg:∀a o,g a=some o→s.heap.get? a=some o) (hb:lr g s.heap d (.dict es)) (hk:nA k es) (hx:PRel g k key)
  (h:∀v t,PRel g ((iQ es k).getD .none) v→Q v {s with toks:=t}):wpN (model prog wd) A (_root_.PySem.call (.builtin "dict.get") [.ref d,key]) Q s:=by
 obtain ⟨h0,⟨i,rfl,o,h1,h2⟩|⟨l,rfl,o,h1,h2⟩⟩:=ii prog wd hb hk
 ·refine e1b (sM.of (prog:=prog) (w:=wd) h1 h2) fun kvs h3 h4=>?_
  refine e1a hx fun t zq1=>?_;clear hx;clear hk hb hu;subst zq1
  refine cQ (call_meetsIn PySem.F.slot_dict_get h3.mapOf.typeIs PySem.F.entry_dict_get (PySem.F.args_dict_get_2 _ _) (meets_dict_get (intKind prog wd) d (k:=i) (by simp [intKind,Value.isInt]) h0) ⟨_,h3.mapOf,h _ _ ?_⟩)
  clear t;cases q:iQ es (.int i) with
  |none=>rw [h4.get.2 q];rfl
  |some z=>refine e1b (h4.get.1 z q) fun v hv hr=>?_;rw [hv];exact hr
 ·refine e1b (uy.ofH (prog:=prog) (w:=wd) hg h1 h2) fun xs h3 h4=>?_
  refine e1b (ts hx) fun a zq1 ha=>?_;subst zq1
  refine cQ (call_meetsIn PySem.F.slot_dict_get h3.typeIs PySem.F.entry_dict_get (PySem.F.args_dict_get_2 _ _) (meetsH_dict_get (tupleKind (intKind prog wd)) d a h0) ⟨tupleKind_room_in1 (by lia),l,xs,ha.is hg,h3,h _ _ ?_⟩)
  clear h hx hk hb hg hu Q h3 ha h2 h1 o h0 a;cases q:iQ es (kT l) with
  |none=>rw [h4.get.2 q];rfl
  |some z=>refine e2b (h4.get.1 z q) fun b v hv hr=>?_;rw [hv];exact hr
theorem tx {g:Gm} {x:P} {v:Value} (hi:isI x) (h:PRel g x v):∃i t,x=.int i∧v=.int i t:=by
 refine e1a hi fun i zq1=>?_;clear hi;subst zq1
 refine e1a h fun t zq1=>?_;clear h;clear g;subst zq1
 exact ⟨i,t,rfl,rfl⟩
theorem Ak (a b:Int):PyData.eqv (.int a) (.int b)=eqB (.int a) (.int b):=by
 by_cases h:a=b
 ·subst h;rw [x8];simp [PyData.eqv]
 ·rw [y7 (by simpa using h)];simpa [PyData.eqv] using h
theorem qP {ka:List (Int × Value)} {kb:List (Int × Value)} {fs:List (P × P)} (hb:gJ g fs kb) (ib:pE fs):∀{es:List (P × P)} {ka:List (Int × Value)},gJ g es ka→pE es→
  KeqHits A s kb ka (es.all fun x=>match iQ fs x.1 with|some y=>eqB x.2 y|none=>false)
 |[],_,h,_=>by subst h;exact .nil
 |e::es,_,h,ia=>by
  refine e3d h fun k' v r zq3 h1 h2 h3=>?_;clear h;subst zq3
  have ih:=qP (ka:=ka) hb ib h3 fun x hx=>ia x (List.mem_cons_of_mem _ hx)
  rw [List.all_cons,h1]
  cases q:iQ fs (.int k') with
  |none=>exact .miss (hb.get.2 q)
  |some z=>
   refine e1b (hb.get.1 z q) fun y hy hz=>?_
   have hzi:isI z:=by
    unfold iQ at q
    cases q2:fs.find? fun x=>eqB x.1 (.int k') with
    |none=>rw [q2] at q;exact ns q
    |some x=>rw [q2] at q;obtain rfl:=sj q;exact (ib x (List.mem_of_find?_eq_some q2)).2
   refine e2b (tx (ia e List.mem_cons_self).2 h2) fun i t e1 zq3=>?_;clear ka ib hb h3 h2 h1;subst zq3
   refine e2b (tx hzi hz) fun j u zq2 zq3=>?_;clear hzi hz;subst zq2 zq3
   have:=KeqHits.hit (A:=A) (s:=s) (k:=k') hy (keq_flat (A:=A) (s:=s) (.int i t) (.int j u)) ih
   rw [Ak] at this
   dsimp only
   rw [e1];exact this
theorem Aq {a b:Addr} {es fs:List (P × P)} {Q:Value→Shared→Prop} (hu:A.units+80<cLine) (ha:lr g s.heap a (.dict es)) (hb:lr g s.heap b (.dict fs)) (ia:pE es) (ib:pE fs)
  (h:Q (.bool (!eqD es fs)) s):wpN (model prog wd) A (compareOp .NotEq (.ref a) (.ref b)) Q s:=by
 obtain ⟨a0,⟨i,_,oa,a1,a2⟩|⟨l,q,_⟩⟩:=ii prog wd (k:=.int 0) ha (.inl ⟨⟨0,rfl⟩,fun x hx=>(ia x hx).1⟩)
 ·obtain ⟨b0,⟨j,_,ob,b1,b2⟩|⟨l,q,_⟩⟩:=ii prog wd (k:=.int 0) hb (.inl ⟨⟨0,rfl⟩,fun x hx=>(ib x hx).1⟩)
  ·refine e1b (sM.of (prog:=prog) (w:=wd) a1 a2) fun ka a3 a4=>?_
   refine e1b (sM.of (prog:=prog) (w:=wd) b1 b2) fun kb b3 b4=>?_
   refine cQ (keq_ne a0 b0 a3 b3 (by lia) (fun _=>qP (ka:=ka) b4 ib a4 ia) ?_)
   rw [a4.length,b4.length];exact h
  ·clear h ib ia hb;cases q
 ·cases q
theorem rS {a b:Addr} {vs:List Value} {k k':Nat} {Q:Value→Shared→Prop} (hu:A.units+80<cLine) (ha:s.heap.get? a=some (oB vs k)) (hb:s.heap.get? b=some (oB [] k'))
  (h:Q (.bool (!vs.isEmpty)) s):wpN (model prog wd) A (compareOp .NotEq (.ref a) (.ref b)) Q s:=by
 cases vs with
 |nil=>
  exact cQ (richCompare_meets_room (op:=.NotEq) ⟨_,ha,rfl⟩ ⟨_,hb,rfl⟩ F.slot_list_ne F.entry_list_ne (F.args_list_ne_2 _ _) (SeqAt.list_neAt a b _ _ k k' none none #[] #[] rfl fun _=>true)
   ⟨ha,hb,fun j h1=>by simp at h1,show Value.bool (!(List.range ([]:List Value).toArray.size).all fun _=>true)≠Value.notImplemented∧Q (.bool (!(List.range ([]:List Value).toArray.size).all fun _=>true)) s from ⟨(fun x=>nomatch x),h⟩⟩ (by lia))
 |cons v vs=>
  exact cQ (richCompare_meets_room (op:=.NotEq) ⟨_,ha,rfl⟩ ⟨_,hb,rfl⟩ F.slot_list_ne F.entry_list_ne (F.args_list_ne_2 _ _) (SeqAt.list_ne_lengthsAt a b _ _ k k' none none #[] #[] (by simp))
   ⟨ha,hb,show Value.bool true≠Value.notImplemented∧Q (.bool true) s from ⟨(fun x=>nomatch x),h⟩⟩ (by lia))
theorem dJ.append {g:Gm}:∀{xs ys:List P} {vs us:List Value},dJ g xs vs→dJ g ys us→dJ g (xs++ys) (vs++us)
 |[],_,_,_,h,h'=>by subst h;exact h'
 |x::xs,ys,_,us,⟨v,r,e,h1,h2⟩,h'=>by subst e;exact ⟨v,r++us,rfl,h1,dJ.append h2 h'⟩
end
end
section
section
variable {M:Model} {A:Around} {s:Shared} {α:Type}
theorem dC {t t':Sem α} {Q:α→Shared→Prop} (h:t=t') (k:wpN M A t' Q s):wpN M A t Q s:=h▸k
theorem cS {p:Pos} {β:Type} {k:Unit→Sem β} {Q:β→Shared→Prop} (h:wpN M A (k ()) Q s):wpN M A (standAt p>>=k) Q s:=cX (wpAny_standAt h)
theorem d6 {vs:List Value} {m:Sem Value} {Q:Value→Shared→Prop} (h:wpN M A m Q s):wpN M A (operate vs m) Q s:=fun Γ p hΓ hc=>by
 rw [Sem.wp_operate];exact h Γ p hΓ hc
end
noncomputable def dH (H0:Heap) (f:Gm) (e:Env) (nm:List (Option Str)) (G:Gh) (s:Shared) (n:Nat) (Q:V→St→Prop) (v:Value) (s':Shared):Prop:=
 ∃G' st' x,gr s s'∧G.Le G'∧n≤st'.σ.length∧Pre H0 f e nm G' st' s'∧dL G'.g G'.k x v∧Q x st'
noncomputable def kB (H0:Heap) (f:Gm) (e:Env) (nm:List (Option Str)) (G:Gh) (s:Shared) (n:Nat) (Q:Bool→St→Prop) (b:Bool) (s':Shared):Prop:=
 ∃G' st',gr s s'∧G.Le G'∧n≤st'.σ.length∧Pre H0 f e nm G' st' s'∧Q b st'
section
variable {H0:Heap} {f:Gm} {e:Env} {nm:List (Option Str)} {G G₁:Gh} {s s₁ s':Shared} {n n₁:Nat}
theorem yK.el {Q:List V→St→Prop} {vs:List Value} (p:yK H0 f e nm G s n Q vs s') {Z:Prop} (k:∀G' st' xs,gr s s'→G.Le G'→n≤st'.σ.length→Pre H0 f e nm G' st' s'→du G'.g G'.k xs vs→Q xs st'→Z):Z:=e3f p k
theorem dH.step {Q:V→St→Prop} {v:Value} (a:gr s s₁) (b:G.Le G₁) (c:n≤n₁) (h:dH H0 f e nm G₁ s₁ n₁ Q v s'):dH H0 f e nm G s n Q v s':=
 e3d h fun G' st' x h1 h2 h3 h4=>⟨G',st',x,a.trans h1,b.trans h2,Nat.le_trans c h3,h4⟩
theorem kB.step {Q:Bool→St→Prop} {v:Bool} (a:gr s s₁) (b:G.Le G₁) (c:n≤n₁) (h:kB H0 f e nm G₁ s₁ n₁ Q v s'):kB H0 f e nm G s n Q v s':=
 e2d h fun G' st' h1 h2 h3 h4=>⟨G',st',a.trans h1,b.trans h2,Nat.le_trans c h3,h4⟩
theorem dH.leaf {st:St} {x:V} {v:Value} {Q:V→St→Prop} (p:Pre H0 f e nm G st s') (sm:gr s s') (hv:dL G.g G.k x v) (q:Q x st):dH H0 f e nm G s st.σ.length Q v s':=
 ⟨G,st,x,sm, .refl _,Nat.le_refl _,p,hv,q⟩
theorem dH.tok {st:St} {x:V} {v:Value} {Q:V→St→Prop} {t:Nat} (p:Pre H0 f e nm G st s) (hv:dL G.g G.k x v) (q:Q x st):dH H0 f e nm G s st.σ.length Q v {s with toks:=t}:=
 .leaf (p.toks rfl) ⟨rfl,rfl,rfl⟩ hv q
theorem dH.now {st:St} {x:V} {v:Value} {Q:V→St→Prop} (p:Pre H0 f e nm G st s) (hv:dL G.g G.k x v) (q:Q x st):dH H0 f e nm G s st.σ.length Q v s:=
 .leaf p (.refl _) hv q
theorem kB.now {st:St} {b:Bool} {Q:Bool→St→Prop} (p:Pre H0 f e nm G st s) (q:Q b st):kB H0 f e nm G s st.σ.length Q b s:=
 ⟨G,st, .refl _, .refl _,Nat.le_refl _,p,q⟩
end
section
variable {H0:Heap} {f:Gm} {e:Env} {nm:List (Option Str)} {G:Gh} {s s':Shared} {n:Nat} {M:Model} {A:Around}
theorem fP {t:Sem Value} {Q:V→St→Prop} {K:Value→Shared→Prop} (h:wpN M A t (dH H0 f e nm G s n Q) s')
  (k:∀v s₁ G₁ st₁ x,gr s s₁→G.Le G₁→n≤st₁.σ.length→Pre H0 f e nm G₁ st₁ s₁→dL G₁.g G₁.k x v→Q x st₁→K v s₁):wpN M A t K s':=
 cV h fun v s₁ h=>h.elim fun G₁ h=>h.elim fun st₁ h=>h.elim fun x h=>k v s₁ G₁ st₁ x h.1 h.2.1 h.2.2.1 h.2.2.2.1 h.2.2.2.2.1 h.2.2.2.2.2
theorem BC {t:Sem (List Value)} {Q:List V→St→Prop} {K:List Value→Shared→Prop} (h:wpN M A t (yK H0 f e nm G s n Q) s')
  (k:∀v s₁ G₁ st₁ x,gr s s₁→G.Le G₁→n≤st₁.σ.length→Pre H0 f e nm G₁ st₁ s₁→du G₁.g G₁.k x v→Q x st₁→K v s₁):wpN M A t K s':=
 cV h fun v s₁ h=>h.elim fun G₁ h=>h.elim fun st₁ h=>h.elim fun x h=>k v s₁ G₁ st₁ x h.1 h.2.1 h.2.2.1 h.2.2.2.1 h.2.2.2.2.1 h.2.2.2.2.2
theorem yQ {t:Sem Bool} {Q:Bool→St→Prop} {K:Bool→Shared→Prop} (h:wpN M A t (kB H0 f e nm G s n Q) s')
  (k:∀b s₁ G₁ st₁,gr s s₁→G.Le G₁→n≤st₁.σ.length→Pre H0 f e nm G₁ st₁ s₁→Q b st₁→K b s₁):wpN M A t K s':=
 cV h fun b s₁ h=>h.elim fun G₁ h=>h.elim fun st₁ h=>k b s₁ G₁ st₁ h.1 h.2.1 h.2.2.1 h.2.2.2.1 h.2.2.2.2
end
noncomputable def EJ (H0:Heap) (M:Model) (A:Around) (e:Env) (nm:List (Option Str)) (t:Sem Value) (W:St→(List V→St→Prop)→Prop):Prop:=
 ∀f G s st Q,Pre H0 f e nm G st s→W st Q→wpN M A t (dH H0 f e nm G s st.σ.length fun x st=>Q [x] st) s
noncomputable def TJ (H0:Heap) (M:Model) (A:Around) (e:Env) (nm:List (Option Str)) (t:Sem Bool) (W:St→(Bool→St→Prop)→Prop):Prop:=
 ∀f G s st Q,Pre H0 f e nm G st s→W st Q→wpN M A t (kB H0 f e nm G s st.σ.length Q) s
noncomputable def LJ (H0:Heap) (M:Model) (A:Around) (e:Env) (nm:List (Option Str)) (t:Sem (List Value)) (W:St→(List V→St→Prop)→Prop):Prop:=
 ∀f G s st Q,Pre H0 f e nm G st s→W st Q→wpN M A t (yK H0 f e nm G s st.σ.length Q) s
section
variable {prog:Program} {wd:World} {A:Around} {H0:Heap} {e:Env} {nm:List (Option Str)} {Pk:Pg} {f:Gm} {G:Gh} {st:St} {s:Shared}
theorem fZ {x:V} {a:Value} {Q:Bool→Prop} (hx:dL G.g G.k x a) (h:gY x st Q) {K:Bool→Shared→Prop} (hk:∀b,Q b→K b s):wpN (model prog wd) A (truthy a) K s:=by
 cases x with
 |p y=>
  cases y with
  |none=>subst hx;exact cQ fun _ _ _=>hk _ h
  |bool b=>subst hx;exact cQ (wpAny_truthy_bool (hk _ h))
  |int i=>refine e1a hx fun t zq1=>?_;clear hx;subst zq1;exact cQ (PySem.P.truthy_int (hk _ h))
  |_=>exact h.elim
 |_=>exact h.elim
theorem og {g:Gm} {k:lI} {i:Int} {t:Tok}:dL g k (.p (.int i)) (.int i t):=⟨t,rfl⟩
theorem uG {g:Gm} {k:lI} {b:List UInt8} {t:Tok}:dL g k (.p (.bytes b)) (.bytes b.toArray t):=⟨t,rfl⟩
theorem ke {g:Gm} {k:lI} {b:Bool}:dL g k (.p (.bool b)) (.bool b):=rfl
theorem vp {g:Gm} {k:lI} {x:P} {v:Value} (h:PRel g x v):dL g k (.p x) v:=h
theorem rj (a:Int):Builtin.bitNot a=-a-1:=by unfold Builtin.bitNot;exact Int.le_antisymm (lin [_] [] (.s bW ap) (.s bW ap) 1 [] rfl) (lin [_] [] (.s bW ap) (.s bW ap) 1 [] rfl)
theorem lA {g:Gm} {k:lI} {x y:V} {a b:Value} {K:Int→Int→Prop} (h:vT x y K) (hx:dL g k x a) (hy:dL g k y b) (M:Value→Value→Prop) (c:∀i j t u,K i j→M (.int i t) (.int j u)):M a b:=by
 refine e2c (pF h) fun i j zq2 zq3 h=>?_;subst zq2 zq3;refine e1a hx fun t zq1=>?_;clear hx;subst zq1;refine e1a hy fun u zq1=>?_;clear hy;subst zq1;exact c i j t u h
theorem AD {op:Operator} {x y:V} {a b:Value} {Q:V→St→Prop} (p:Pre H0 f e nm G st s) (hx:dL G.g G.k x a) (hy:dL G.g G.k y b) (h:CV op x y st Q) :
  wpN (model prog wd) A (binaryOp op a b) (dH H0 f e nm G s st.σ.length Q) s:=by
 cases op with
 |Add=>
  refine e1b (ic h) fun x zq1 h=>?_;subst zq1
  cases x with
  |int i=>
   refine e1b (fS h) fun j zq1 h=>?_;subst zq1
   refine e1a hx fun t zq1=>?_;clear hx;subst zq1;refine e1a hy fun u zq1=>?_;clear hy;subst zq1;exact cQ (PySem.P.add_int (.tok p og h))
  |_=>exact h.elim
 |Sub=>exact lA h hx hy (fun a b=>wpN _ _ (binaryOp .Sub a b) _ s) fun i j t u h=>cQ (PySem.P.sub_int (.tok p og h))
 |Mult=>
  refine e1b (ic h) fun x zq1 h=>?_;subst zq1
  cases x with
  |int i=>
   refine e1b (fS h) fun j zq1 h=>?_;subst zq1
   refine e1a hx fun t zq1=>?_;clear hx;subst zq1;refine e1a hy fun u zq1=>?_;clear hy;subst zq1;exact cQ (PySem.P.mul_int (.tok p og h.2) (IntMulOk.of_right (intBits_le_64 h.1.1 h.1.2)))
  |bytes l=>
   refine e1c (fS h) fun b zq1 zn1 h3=>?_;subst zq1;refine e0d zn1 fun h1 h2 h4 h5=>?_
   refine e1a hx fun t zq1=>?_;clear hx;subst zq1;refine e1a hy fun u zq1=>?_;clear hy;subst zq1
   exact cQ (PySem.W.bytes_mul_any h1 (by exact lin [_] [] (.n (-1048576)) aa 1 [.i 1 ai aa] rfl h4) h5 h2 fun t' k=>.tok p uG h3)
  |_=>exact h.elim
 |BitAnd=>exact lA h hx hy (fun a b=>wpN _ _ (binaryOp .BitAnd a b) _ s) fun i j t u h=>cQ (PyProof.Rows.and_int (.tok p og h))
 |Mod=>
  refine e2c (pF h) fun a b zq2 zq3 h=>?_;subst zq2 zq3;refine e1a hx fun t zq1=>?_;clear hx;subst zq1;refine e1a hy fun u zq1=>?_;clear hy;subst zq1
  refine cQ (AutoIntOps.mod_1 (by simpa using Int.ne_of_gt h.1) ?_)
  have:a.fmod b=a % b:=Int.fmod_eq_emod_of_nonneg _ (Int.le_of_lt h.1)
  rw [this];exact .tok p og h.2
 |_=>exact h.elim
theorem xT {op:Operator} {x y:V} {a b:Value} {Q:V→St→Prop} (p:Pre H0 f e nm G st s) (hx:dL G.g G.k x a) (hy:dL G.g G.k y b) (h:CV op x y st Q) (hop:op=.Add∨op=.Sub∨op=.Mult∨op=.BitAnd)
  (hi:∃i,x=.p (.int i)) (hj:∃i,y=.p (.int i)):wpN (model prog wd) A (inplaceOp op a b) (dH H0 f e nm G s st.σ.length Q) s:=by
 refine e1a hi fun i zq1=>?_;clear hi;subst zq1
 refine e1a hj fun j zq1=>?_;clear hj;subst zq1
 refine e1a hx fun t zq1=>?_;clear hx;subst zq1;refine e1a hy fun u zq1=>?_;clear hy;subst zq1
 rcases hop with rfl|rfl|rfl|rfl
 ·exact cQ (PySem.P.iadd_int (.tok p og h))
 ·exact cQ (PySem.P.isub_int (.tok p og h))
 ·exact cQ (PySem.P.imul_int (.tok p og h.2) (IntMulOk.of_right (intBits_le_64 h.1.1 h.1.2)))
 ·exact cQ (PyProof.Rows.iand_int (.tok p og h))
theorem nC {x:V} {a:Value} (hx:dL G.g G.k x a):(a==Value.none)=tv x:=by
 cases x with
 |p y=>
  cases y with
  |none=>subst hx;rfl
  |bool b=>subst hx;rfl
  |int i=>refine e1a hx fun t zq1=>?_;clear hx;subst zq1;rfl
  |str i=>refine e1a hx fun t zq1=>?_;clear hx;subst zq1;rfl
  |bytes i=>refine e1a hx fun t zq1=>?_;clear hx;subst zq1;rfl
  |fn b=>subst hx;cases b<;>rfl
  |st a=>subst hx;rfl
  |tup l=>refine e4b hx fun a _ _ _ zq4 _=>?_;clear hx;subst zq4;rfl
  |lst l=>refine e4b hx fun a _ _ _ zq4 _=>?_;clear hx;subst zq4;rfl
 |ref i=>refine e1b hx fun a _ zq2=>?_;clear hx;subst zq2;rfl
 |inn i=>refine e1b hx fun a _ zq2=>?_;clear hx;subst zq2;rfl
 |tup l=>refine e4b hx fun a _ _ _ zq4 _=>?_;clear hx;subst zq4;rfl
 |inst c l=>refine e4b hx fun a _ _ _ zq4 _=>?_;clear hx;subst zq4;rfl
theorem rT {x:V} {a:Value} {K:List P→Prop} (p:Pre H0 f e nm G st s) (hx:dL G.g G.k x a) (h:dQ st.σ x fun l=>ou x∧K l) :
  ∃ad l vs k,a=.ref ad∧s.heap.get? ad=some (oB vs k)∧dJ G.g l vs∧K l:=by
 have key:dE st.σ x (fun b=>match b with|.lst l=>ou x∧K l|_=>False)→∃ad l vs k,a=.ref ad∧s.heap.get? ad=some (oB vs k)∧dJ G.g l vs∧K l:=fun h=>by
  refine e3e (p.box hx h) fun d bx key zq3 _ hb hr hup=>?_;subst zq3
  clear hup;cases bx with
  |lst l=>refine e2b hr fun vs n h1 h2=>?_;exact ⟨d,l,vs,n,rfl,h1,h2,hb.2⟩
  |_=>exact hb.elim
 cases x with
 |p y=>
  cases y with
  |lst l=>refine e4d hx fun ad o vs n zq4 h1 zq6 h2=>?_;clear hx;subst zq4 zq6;exact ⟨ad,l,vs,n,rfl,p.inv.gg _ _ h1,h2,h.2⟩
  |tup l=>exact h.1.elim
  |_=>exact h.elim
 |ref i=>exact key h
 |inn i k n=>exact key h
 |tup l=>exact key h
 |inst c l=>exact key h
theorem qR {x:V} {a:Value} {K:List (P × P)→Prop} (p:Pre H0 f e nm G st s) (hx:dL G.g G.k x a) (h:o6 st x K):∃ad es,a=.ref ad∧lr G.g s.heap ad (.dict es)∧K es:=by
 cases x with
 |ref i=>
  unfold o6 at h
  dsimp only at h
  cases q:st.σ[i]? with
  |none=>rw [q] at h;exact h.elim
  |some o=>
   rw [q] at h
   cases o with
   |bx b=>cases b with
    |dict es=>
     refine e1c (p.inv.obj _ _ q) fun ad e1 e2 e3=>?_
     refine e1b hx fun ad' e7 zq2=>?_;clear hx;subst zq2
     rw [e1] at e7;clear p e2 e1;obtain rfl:=sj e7
     exact ⟨ad,es,rfl,e3,h⟩
    |_=>exact h.elim
   |_=>exact h.elim
 |_=>exact h.elim
theorem BR {x y:V} {a b:Value} {K:Bool→Prop} (p:Pre H0 f e nm G st s) (hy:dL G.g G.k y b) (h:inV x y st K):∃k bd es,x=.p k∧b=.ref bd∧lr G.g s.heap bd (.dict es)∧nA k es∧K (iQ es k).isSome:=by
 refine e1b (ic h) fun k zq1 h=>?_;subst zq1
 refine e3e (p.box hy h) fun d bx key zq3 _ hb hr hup=>?_;subst zq3
 clear h hy p a hup;cases bx with
 |dict es=>exact ⟨k,d,es,rfl,rfl,hr,hb.1,hb.2⟩
 |_=>exact hb.elim
theorem lG {op:CmpOp} {x y:V} {a b:Value} {Q:V→St→Prop} (hu:A.units+80<cLine) (p:Pre H0 f e nm G st s) (hx:dL G.g G.k x a) (hy:dL G.g G.k y b) (h:Av op x y st Q) :
  wpN (model prog wd) A (compareOp op a b) (dH H0 f e nm G s st.σ.length Q) s:=by
 cases op with
 |Is=>
  refine e1b (ic h) fun y zq1 h=>?_;subst zq1
  cases y with
  |none=>subst hy;refine cQ (is_none ?_);rw [nC hx];exact .now p ke h
  |st c=>
   refine e1b (ic h) fun x zq1 h2=>?_;subst zq1
   cases x with
   |st d=>
    subst hx;subst hy
    revert h2;intro zh;refine e0b zh fun zq0 h2=>?_;clear zh;subst zq0
    exact cQ (wpAny_is_ref_self (.now p ke h2))
   |_=>exact h2.elim
  |_=>exact h.elim
 |IsNot=>
  refine e1b (ic h) fun y zq1 h=>?_;subst zq1
  cases y with
  |none=>subst hy;refine cQ (isNot_none ?_);rw [nC hx];exact .now p ke h
  |_=>exact h.elim
 |Lt=>exact lA h hx hy (fun a b=>wpN _ _ (compareOp .Lt a b) _ s) fun i j t u h=>cQ (PySem.P.lt_int (.now p ke h))
 |LtE=>exact lA h hx hy (fun a b=>wpN _ _ (compareOp .LtE a b) _ s) fun i j t u h=>cQ (PySem.P.le_int (.now p ke h))
 |Gt=>exact lA h hx hy (fun a b=>wpN _ _ (compareOp .Gt a b) _ s) fun i j t u h=>cQ (PySem.P.gt_int (.now p ke h))
 |GtE=>exact lA h hx hy (fun a b=>wpN _ _ (compareOp .GtE a b) _ s) fun i j t u h=>cQ (PySem.P.ge_int (.now p ke h))
 |Eq=>
  refine e1b (ic h) fun x zq1 h=>?_;subst zq1
  refine e1b (ic h) fun y zq1 h=>?_;subst zq1
  cases x with
  |int a=>cases y with
   |int b=>refine e1a hx fun t zq1=>?_;clear hx;subst zq1;refine e1a hy fun u zq1=>?_;clear hy;subst zq1;exact cQ (PySem.P.eq_int (.now p ke h))
   |_=>exact h.elim
  |bytes a=>cases y with
   |bytes b=>
    refine e1a hx fun t zq1=>?_;clear hx;subst zq1;refine e1a hy fun u zq1=>?_;clear hy;subst zq1
    refine cQ (PySem.W.eq_bytes (.now p ke ?_))
    have:(a.toArray.toList==b.toArray.toList)=decide (a=b):=by by_cases q:a=b<;>simp [q]
    rw [this];exact h
   |_=>exact h.elim
  |_=>exact h.elim
 |NotEq=>
  have dd:(∀z,y≠.p z)→o6 st x (fun a=>o6 st y fun b=>(pE a∧pE b)∧Q (.p (.bool (!eqD a b))) st)→wpN (model prog wd) A (compareOp .NotEq a b) (dH H0 f e nm G s st.σ.length Q) s:=fun _ h=>by
   refine e2c (qR p hx h) fun ad es zq2 e3 h=>?_;subst zq2
   refine e2c (qR p hy h) fun bd es' zq2 e6 h=>?_;subst zq2
   exact Aq hu e3 e6 h.1.1 h.1.2 (.now p ke h.2)
  have nn:∀z,y=.p z→p1 x (fun x=>DQ x z fun b=>Q (.p (.bool b)) st)→wpN (model prog wd) A (compareOp .NotEq a b) (dH H0 f e nm G s st.σ.length Q) s:=fun z hz h3=>by
   clear dd h
   subst hz
   refine e1b (ic h3) fun x zq1 h=>?_;subst zq1
   cases x with
   |int c=>cases z with
    |int d=>
     refine e1a hx fun t zq1=>?_;clear hx;subst zq1;refine e1a hy fun u zq1=>?_;clear hy;subst zq1
     refine cQ (PySem.P.ne_int (.now p ke ?_))
     have:(c != d)=decide (c≠d):=by by_cases q:c=d<;>simp [q]
     rw [this];exact h
    |_=>exact h.elim
   |_=>exact h.elim
  cases y with
  |p z=>cases z with
   |lst l=>cases l with
    |nil=>
     refine e4d (rT p hx h) fun ad l vs k zq4 h1 h2 q=>?_;subst zq4
     refine e4d hy fun bd o us k' zq4 h3 zq6 h4=>?_;clear hy;subst zq4 zq6
     subst h4
     refine rS hu h1 (p.inv.gg _ _ h3) (.now p ke ?_)
     have:vs.isEmpty=l.isEmpty:=by clear h3 k';cases l with|nil=>subst h2;rfl|cons y l=>refine e2b h2 fun v r zq2 _=>?_;clear h2;subst zq2;rfl
     rw [this];exact q
    |cons c l=>exact nn _ rfl h
   |_=>exact nn _ rfl h
  |_=>exact dd (fun _ q=>nomatch q) h
 |In=>
  refine e3e (BR (a:=a) (K:=fun b=>Q (.p (.bool b)) st) p hy h) fun k bd es zq3 zq4 hr h1 h2=>?_;subst zq3 zq4
  exact As hu p.inv.gg hr h1 hx fun t=>.tok p ke h2
 |NotIn=>exact h.elim
theorem oZ {c:Const} {x:P} {k:Nat} {pos:Pos} (hc:(c=.none∧x=.none)∨(∃b,c=.bool b∧x=.bool b)∨(∃b,c=.int b∧x=.int b)∨(∃b,c=.str b∧x=.str b)∨(∃b,c=.bytes b∧x=.bytes b)) :
  EJ H0 (model prog wd) A e nm (eval (.Constant c k pos) e) (w Pk (.lit x)):=fun f G s st Q p h=>by
 rw [eval_Constant]
 clear pos k;rcases hc with ⟨rfl,rfl⟩|⟨b,rfl,rfl⟩|⟨b,rfl,rfl⟩|⟨b,rfl,rfl⟩|⟨b,rfl,rfl⟩
 ·exact fun _ _ _ _=>.now (Q:=fun x st=>Q [x] st) p (vp (x:=.none) rfl) h
 ·exact fun _ _ _ _=>.now (Q:=fun x st=>Q [x] st) p ke h
 ·exact fun _ _ _ _=>.tok (Q:=fun x st=>Q [x] st) p og h
 ·exact fun _ _ _ _=>.tok (Q:=fun x st=>Q [x] st) p (vp (x:=.str _) ⟨_,rfl⟩) h
 ·exact fun _ _ _ _=>.tok (Q:=fun x st=>Q [x] st) p uG h
theorem B5 {n:Str} {pos:Pos} {i:Nat} (hn:nm[i]? = some (some n)) (h1:(n==("__debug__" : Str))=false) (h2:(n==("__classdict__" : Str))=false) :
  EJ H0 (model prog wd) A e nm (eval (.Name n pos) e) (w Pk (.var i)):=fun f G s st Q p h=>by
 refine e1b (tB h) fun v hv h=>?_
 exact cQ (wpAny_Name (p.load hn hv h2 fun a ha=>.now p ha h) h1)
noncomputable def rp (H0:Heap) (n:Str) (x:P):Prop:=∃mg mb v,H0.Ns mainGlobals mg∧H0.Ns builtinsNs mb∧(mg n=some v∨(mg n=none∧mb n=some v))∧PRel H0.get? x v
theorem Pre.h0 (p:Pre H0 f e nm G st s):∀b o,H0.get? b=some o→s.heap.get? b=some o:=fun b o h=>p.inv.gg b o (p.inv.base b o h)
theorem Pre.prel (p:Pre H0 f e nm G st s) {x:P} {v:Value} (h:PRel H0.get? x v):PRel G.g x v:=h.mono p.inv.base
theorem sd {n:Str} {pos:Pos} {x:P} (hk:e.kindOf n=some .globalImplicit) (hg:e.globals=mainGlobals) (hb:e.builtins=builtinsNs) (h1:(n==("__debug__" : Str))=false) (hx:rp H0 n x) :
  EJ H0 (model prog wd) A e nm (eval (.Name n pos) e) (w Pk (.glob x)):=fun f G s st Q p h=>by
 refine e3d hx fun mg mb v g1 g2 g3 g4=>?_
 refine cQ (Name_function_global p.fr.kind hk ?_ h1)
 clear hx h1 hk pos;rcases g3 with g3|⟨g3,g5⟩
 ·exact loadGlobal_global (by rw [hg];exact g1.keeps p.h0) g3 (.now p (vp (p.prel g4)) h)
 ·exact loadGlobal_builtin (by rw [hg];exact g1.keeps p.h0) g3 (by rw [hb];exact g2.keeps p.h0) g5 (.now p (vp (p.prel g4)) h)
end
end
section
section
variable {prog:Program} {wd:World} {A:Around} {H0:Heap} {e:Env} {nm:List (Option Str)} {Pk:Pg} {f:Gm} {G:Gh} {st:St} {s:Shared}
variable {l r t:PySem.Expr} {cl cr ct:C} {pos:Pos}
theorem mK {M:Model} {β:Type} {vs kp:List Value} {k:Unit→Sem β} {Q:β→Shared→Prop} (h:wpN M A (k ()) Q s):wpN M A (release vs kp>>=k) Q s:=
 cO fun Γ p hΓ hc=>by rw [Sem.wp_release];exact h
theorem Ce {op:Operator} (hl:EJ H0 (model prog wd) A e nm (eval l e) (w Pk cl)) (hr:EJ H0 (model prog wd) A e nm (eval r e) (w Pk cr)) :
  EJ H0 (model prog wd) A e nm (eval (.BinOp l op r pos) e) (w Pk (.bin op cl cr)):=fun f G s st Q p h=>by
 refine dC (eval_BinOp ..) ?_
 refine cO (fP (hl f G s st _ p h) fun a s₁ G₁ st₁ x sm₁ le₁ n₁ p₁ v₁ q₁=>?_)
 refine cO (cR (fP (hr f G₁ s₁ st₁ _ p₁ q₁) fun b s₂ G₂ st₂ y sm₂ le₂ n₂ p₂ v₂ q₂=>?_))
 refine cS (d6 (cV (AD p₂ (v₁.le le₂) v₂ (jG (jG q₂ :) :)) fun v s₃ P₃=>P₃.step (sm₁.trans sm₂) (le₁.trans le₂) (Nat.le_trans n₁ n₂)))
theorem B6 {op:UnaryOp} (hop:op=.USub∨op=.Invert) (hl:EJ H0 (model prog wd) A e nm (eval l e) (w Pk cl)) :
  EJ H0 (model prog wd) A e nm (eval (.UnaryOp op l pos) e) (w Pk (.un op cl)):=fun f G s st Q p h=>by
 refine dC (arm_eval_UnaryOp ..) ?_
 refine cO (fP (hl f G s st _ p h) fun a s₁ G₁ st₁ x sm₁ le₁ n₁ p₁ v₁ q₁=>?_)
 refine cS (cR ?_)
 refine e1b (fS (jG q₁)) fun i zq1 q₁=>?_;subst zq1
 refine e1a v₁ fun t zq1=>?_;clear v₁;subst zq1
 clear hl h p;rcases hop with rfl|rfl
 ·exact cQ (PySem.P.neg_int (dH.step sm₁ le₁ n₁ (.tok (Q:=fun x st=>Q [x] st) p₁ og q₁)))
 ·exact cQ (PyProof.Rows.invert_int (by rw [rj];exact dH.step sm₁ le₁ n₁ (.tok (Q:=fun x st=>Q [x] st) p₁ og q₁)))
theorem B9 (hl:EJ H0 (model prog wd) A e nm (eval l e) (w Pk cl)) :
  EJ H0 (model prog wd) A e nm (eval (.UnaryOp .Not l pos) e) (w Pk (.not cl)):=fun f G s st Q p h=>by
 refine dC (arm_eval_UnaryOp ..) ?_
 refine cO (fP (hl f G s st _ p h) fun a s₁ G₁ st₁ x sm₁ le₁ n₁ p₁ v₁ q₁=>?_)
 refine cS (cR ?_)
 unfold unaryOp
 refine cR ?_
 refine (?_:wpN _ _ (truthy a>>=fun b=>pure (Value.bool (!b))) _ _)
 exact cO (fZ v₁ (jG q₁ :) fun b hb=>wpN_pure (dH.step sm₁ le₁ n₁ (.now (Q:=fun x st=>Q [x] st) p₁ ke hb)))
theorem Cf (hl:EJ H0 (model prog wd) A e nm (eval l e) (w Pk cl)) (hr:EJ H0 (model prog wd) A e nm (eval r e) (w Pk cr)) :
  EJ H0 (model prog wd) A e nm (eval (.BoolOp .And [l,r] pos) e) (w Pk (.and cl cr)):=fun f G s st Q p h=>by
 show wpN _ _ (do
  let v ←eval l e
  standAt pos
  let t ←holding [v] (truthy v)
  match BoolOp.And,t with
  |.And,false|.Or,true=>pure v
  |_,_=>boolOp pos .And [eval r e]) _ _
 refine cO (fP (hl f G s st _ p h) fun a s₁ G₁ st₁ x sm₁ le₁ n₁ p₁ v₁ q₁=>?_)
 refine cS (cO (cR (fZ v₁ (jG q₁ :) fun b hb=>?_)))
 clear q₁ hl h p;cases b with
 |false=>exact wpN_pure (dH.step sm₁ le₁ n₁ (.now (Q:=fun x st=>Q [x] st) p₁ v₁ (hb.f rfl)))
 |true=>exact cV (hr f G₁ s₁ st₁ _ p₁ (hb.t rfl)) fun v s₃ P₃=>P₃.step sm₁ le₁ n₁
theorem Dt (hl:EJ H0 (model prog wd) A e nm (eval l e) (w Pk cl)) (hr:EJ H0 (model prog wd) A e nm (eval r e) (w Pk cr)) :
  EJ H0 (model prog wd) A e nm (eval (.BoolOp .Or [l,r] pos) e) (w Pk (.or cl cr)):=fun f G s st Q p h=>by
 show wpN _ _ (do
  let v ←eval l e
  standAt pos
  let t ←holding [v] (truthy v)
  match BoolOp.Or,t with
  |.And,false|.Or,true=>pure v
  |_,_=>boolOp pos .Or [eval r e]) _ _
 refine cO (fP (hl f G s st _ p h) fun a s₁ G₁ st₁ x sm₁ le₁ n₁ p₁ v₁ q₁=>?_)
 refine cS (cO (cR (fZ v₁ (jG q₁ :) fun b hb=>?_)))
 clear q₁ hl h p;cases b with
 |true=>exact wpN_pure (dH.step sm₁ le₁ n₁ (.now (Q:=fun x st=>Q [x] st) p₁ v₁ (hb.t rfl)))
 |false=>exact cV (hr f G₁ s₁ st₁ _ p₁ (hb.f rfl)) fun v s₃ P₃=>P₃.step sm₁ le₁ n₁
theorem Cd (hu:A.units+80<cLine) {op:CmpOp} (hm:behindInMarks op r=false) (hl:EJ H0 (model prog wd) A e nm (eval l e) (w Pk cl)) (hr:EJ H0 (model prog wd) A e nm (eval r e) (w Pk cr)) :
  EJ H0 (model prog wd) A e nm (eval (.Compare l [op] [r] pos) e) (w Pk (.cmp op cl cr)):=fun f G s st Q p h=>by
 refine dC (eval_Compare1 ..) ?_
 rw [markedBehindIn_of_false hm]
 refine cO (fP (hl f G s st _ p h) fun a s₁ G₁ st₁ x sm₁ le₁ n₁ p₁ v₁ q₁=>?_)
 refine cO (cR (fP (hr f G₁ s₁ st₁ _ p₁ q₁) fun b s₂ G₂ st₂ y sm₂ le₂ n₂ p₂ v₂ q₂=>?_))
 exact cS (d6 (cV (lG hu p₂ (v₁.le le₂) v₂ (jG (jG q₂ :) :)) fun v s₃ P₃=>P₃.step (sm₁.trans sm₂) (le₁.trans le₂) (Nat.le_trans n₁ n₂)))
theorem Bj (hu:A.units+80<cLine) {op:CmpOp} {whole:Sem Value} (hm:behindInMarks op r=false) (hl:EJ H0 (model prog wd) A e nm (eval l e) (w Pk cl)) (hr:EJ H0 (model prog wd) A e nm (eval r e) (w Pk cr)) :
  TJ H0 (model prog wd) A e nm (isTrue (.Compare l [op] [r] pos) e whole) (wt Pk (.cmp op cl cr)):=fun f G s st Q p h=>by
 refine dC (isTrue_Compare1 ..) ?_
 rw [markedBehindIn_of_false hm]
 refine cO (fP (hl f G s st _ p h) fun a s₁ G₁ st₁ x sm₁ le₁ n₁ p₁ v₁ q₁=>?_)
 refine cO (cR (fP (hr f G₁ s₁ st₁ _ p₁ q₁) fun b s₂ G₂ st₂ y sm₂ le₂ n₂ p₂ v₂ q₂=>?_))
 refine cS (cO (d6 (fP (lG hu p₂ (v₁.le le₂) v₂ (jG (jG q₂ :) :)) fun v s₃ G₃ st₃ z sm₃ le₃ n₃ p₃ v₃ q₃=>?_)))
 exact cR (fZ v₃ q₃ fun b hb=>kB.step (((sm₁.trans sm₂).trans sm₃)) ((le₁.trans le₂).trans le₃) (Nat.le_trans (Nat.le_trans n₁ n₂) n₃) (.now p₃ hb))
theorem yc (hu:A.units+80<cLine) {o1 o2:CmpOp} (h1:behindInMarks o1 r=false) (h2:behindInMarks o2 t=false) (hl:EJ H0 (model prog wd) A e nm (eval l e) (w Pk cl)) (hr:EJ H0 (model prog wd) A e nm (eval r e) (w Pk cr))
  (ht:EJ H0 (model prog wd) A e nm (eval t e) (w Pk ct)):EJ H0 (model prog wd) A e nm (eval (.Compare l [o1,o2] [r,t] pos) e) (w Pk (.chain o1 o2 cl cr ct)):=fun f G s st Q p h=>by
 have e0:eval (.Compare l [o1,o2] [r,t] pos) e=(do
   let a ←eval l e
   let rv ←holding [a] (eval r e)
   standAt pos
   let c ←holding [a,rv] (compareOp o1 a rv)
   release [a,rv] [c]
   if ←holding [c,rv] (truthy c) then (do let z ←holding [rv] (markedBehindIn o2 t (eval t e));standAt pos;operate [rv,z] (compareOp o2 rv z)) else pure c):=rfl
 refine dC e0 ?_
 rw [markedBehindIn_of_false h2]
 refine cO (fP (hl f G s st _ p h) fun a s₁ G₁ st₁ x sm₁ le₁ n₁ p₁ v₁ q₁=>?_)
 refine cO (cR (fP (hr f G₁ s₁ st₁ _ p₁ q₁) fun b s₂ G₂ st₂ y sm₂ le₂ n₂ p₂ v₂ q₂=>?_))
 refine cS (cO (cR (fP (lG hu p₂ (v₁.le le₂) v₂ (jG (jG q₂ :) :)) fun c s₃ G₃ st₃ z sm₃ le₃ n₃ p₃ v₃ q₃=>?_)))
 refine mK (cO (cR (fZ v₃ q₃ fun b hb=>?_)))
 have fin:∀{v' s' Q'},dH H0 f e nm G₃ s₃ st₃.σ.length Q' v' s'→dH H0 f e nm G s st.σ.length Q' v' s':=dH.step ((sm₁.trans sm₂).trans sm₃) ((le₁.trans le₂).trans le₃) (Nat.le_trans (Nat.le_trans n₁ n₂) n₃)
 clear q₂ hr hl h2 h1 e0 q₃ n₃ sm₃ p₂ n₂ le₂ sm₂ st₂ s₂ q₁ v₁ p₁ n₁ le₁ sm₁;cases b with
 |false=>exact wpN_pure (fin (.now (Q:=fun x st=>Q [x] st) p₃ v₃ (hb.f rfl)))
 |true=>
  refine cO (cR (fP (ht f G₃ s₃ st₃ _ p₃ (hb.t rfl)) fun c s₄ G₄ st₄ y' sm₄ le₄ n₄ p₄ v₄ q₄=>?_))
  exact cS (d6 (cV (lG hu p₄ (v₂.le (le₃.trans le₄)) v₄ (jG q₄ :)) fun v s₅ P₅=>fin (P₅.step sm₄ le₄ n₄)))
theorem xj (hu:A.units+80<cLine) {o1 o2:CmpOp} {whole:Sem Value} (h1:behindInMarks o1 r=false) (h2:behindInMarks o2 t=false) (hl:EJ H0 (model prog wd) A e nm (eval l e) (w Pk cl)) (hr:EJ H0 (model prog wd) A e nm (eval r e) (w Pk cr))
  (ht:EJ H0 (model prog wd) A e nm (eval t e) (w Pk ct)):TJ H0 (model prog wd) A e nm (isTrue (.Compare l [o1,o2] [r,t] pos) e whole) (wt Pk (.chain o1 o2 cl cr ct)):=fun f G s st Q p h=>by
 have e0:isTrue (.Compare l [o1,o2] [r,t] pos) e whole=(do
   let a ←eval l e
   let rv ←holding [a] (eval r e)
   standAt pos
   let c ←holding [a,rv] (compareOp o1 a rv)
   release [a,rv] [c]
   if ←holding [c,rv] (truthy c) then (do let z ←holding [rv] (markedBehindIn o2 t (eval t e));standAt pos;let c ←operate [rv,z] (compareOp o2 rv z);holding [c] (truthy c)) else pure false):=rfl
 refine dC e0 ?_
 rw [markedBehindIn_of_false h2]
 refine cO (fP (hl f G s st _ p h) fun a s₁ G₁ st₁ x sm₁ le₁ n₁ p₁ v₁ q₁=>?_)
 refine cO (cR (fP (hr f G₁ s₁ st₁ _ p₁ q₁) fun b s₂ G₂ st₂ y sm₂ le₂ n₂ p₂ v₂ q₂=>?_))
 refine cS (cO (cR (fP (lG hu p₂ (v₁.le le₂) v₂ (jG (jG q₂ :) :)) fun c s₃ G₃ st₃ z sm₃ le₃ n₃ p₃ v₃ q₃=>?_)))
 refine mK (cO (cR (fZ v₃ q₃ fun b hb=>?_)))
 have fin:∀{v' s' Q'},kB H0 f e nm G₃ s₃ st₃.σ.length Q' v' s'→kB H0 f e nm G s st.σ.length Q' v' s':=kB.step ((sm₁.trans sm₂).trans sm₃) ((le₁.trans le₂).trans le₃) (Nat.le_trans (Nat.le_trans n₁ n₂) n₃)
 clear q₂ hr hl h2 h1 e0 q₃ v₃ n₃ sm₃ z p₂ n₂ le₂ sm₂ st₂ s₂ q₁ v₁ p₁ n₁;cases b with
 |false=>exact wpN_pure (fin (.now p₃ (hb.f rfl)))
 |true=>
  refine cO (cR (fP (ht f G₃ s₃ st₃ _ p₃ (hb.t rfl)) fun c s₄ G₄ st₄ y' sm₄ le₄ n₄ p₄ v₄ q₄=>?_))
  refine cS (cO (d6 (fP (lG hu p₄ (v₂.le (le₃.trans le₄)) v₄ (jG q₄ :)) fun v s₅ G₅ st₅ y5 sm₅ le₅ n₅ p₅ v₅ q₅=>?_)))
  exact cR (fZ v₅ q₅ fun b hb=>fin (kB.step (sm₄.trans sm₅) (le₄.trans le₅) (Nat.le_trans n₄ n₅) (.now p₅ hb)))
theorem Bg {whole:Sem Value} (hl:TJ H0 (model prog wd) A e nm (isTrue l e (eval l e)) (wt Pk cl)):TJ H0 (model prog wd) A e nm (isTrue (.UnaryOp .Not l pos) e whole) (wt Pk (.not cl)):=fun f G s st Q p h=>by
 refine dC (arm_isTrue_UnaryOp ..) ?_
 exact cO (cV (hl f G s st _ p h) fun b s₁ P=>wpN_pure P)
theorem Bk {whole:Sem Value} (hl:TJ H0 (model prog wd) A e nm (isTrue l e (eval l e)) (wt Pk cl)) (hr:TJ H0 (model prog wd) A e nm (isTrue r e (eval r e)) (wt Pk cr)) :
  TJ H0 (model prog wd) A e nm (isTrue (.BoolOp .And [l,r] pos) e whole) (wt Pk (.and cl cr)):=fun f G s st Q p h=>by
 have e0:isTrue (.BoolOp .And [l,r] pos) e whole=(do
  match BoolOp.And,←isTrue l e (eval l e) with
  |.And,false=>pure false
  |.Or,true=>pure true
  |_,_=>(do match BoolOp.And,←isTrue r e (eval r e) with
   |.And,false=>pure false
   |.Or,true=>pure true
   |_,_=>pure true)):=rfl
 refine dC e0 ?_
 refine cO (yQ (hl f G s st _ p h) fun b s₁ G₁ st₁ sm₁ le₁ n₁ p₁ q₁=>?_)
 clear hl e0 h p;cases b with
 |false=>exact wpN_pure (kB.step sm₁ le₁ n₁ (.now p₁ (q₁.f rfl)))
 |true=>
  refine cO (cV (hr f G₁ s₁ st₁ _ p₁ (q₁.t rfl)) fun b s₂ P=>?_)
  clear hr whole q₁ p₁;cases b<;>exact wpN_pure (P.step sm₁ le₁ n₁)
theorem CZ {whole:Sem Value} (hl:TJ H0 (model prog wd) A e nm (isTrue l e (eval l e)) (wt Pk cl)) (hr:TJ H0 (model prog wd) A e nm (isTrue r e (eval r e)) (wt Pk cr)) :
  TJ H0 (model prog wd) A e nm (isTrue (.BoolOp .Or [l,r] pos) e whole) (wt Pk (.or cl cr)):=fun f G s st Q p h=>by
 have e0:isTrue (.BoolOp .Or [l,r] pos) e whole=(do
  match BoolOp.Or,←isTrue l e (eval l e) with
  |.And,false=>pure false
  |.Or,true=>pure true
  |_,_=>(do match BoolOp.Or,←isTrue r e (eval r e) with
   |.And,false=>pure false
   |.Or,true=>pure true
   |_,_=>pure false)):=rfl
 refine dC e0 ?_
 refine cO (yQ (hl f G s st _ p h) fun b s₁ G₁ st₁ sm₁ le₁ n₁ p₁ q₁=>?_)
 clear hl e0 h p;cases b with
 |true=>exact wpN_pure (kB.step sm₁ le₁ n₁ (.now p₁ (q₁.t rfl)))
 |false=>
  refine cO (cV (hr f G₁ s₁ st₁ _ p₁ (q₁.f rfl)) fun b s₂ P=>?_)
  clear hr whole q₁ p₁;cases b<;>exact wpN_pure (P.step sm₁ le₁ n₁)
theorem Cb (ht:TJ H0 (model prog wd) A e nm (isTrue t e (eval t e)) (wt Pk ct)) (hl:EJ H0 (model prog wd) A e nm (eval l e) (w Pk cl)) (hr:EJ H0 (model prog wd) A e nm (eval r e) (w Pk cr)) :
  EJ H0 (model prog wd) A e nm (eval (.IfExp t l r pos) e) (w Pk (.ite ct cl cr)):=fun f G s st Q p h=>by
 refine dC (arm_eval_IfExp ..) ?_
 refine cO (yQ (ht f G s st _ p h) fun b s₁ G₁ st₁ sm₁ le₁ n₁ p₁ q₁=>?_)
 clear ht h p;cases b with
 |true=>exact dW rfl (cV (hl f G₁ s₁ st₁ _ p₁ (q₁.t rfl)) fun v s₂ P=>P.step sm₁ le₁ n₁)
 |false=>exact cW rfl (cV (hr f G₁ s₁ st₁ _ p₁ (q₁.f rfl)) fun v s₂ P=>P.step sm₁ le₁ n₁)
theorem Bh {whole:Sem Value} (ht:TJ H0 (model prog wd) A e nm (isTrue t e (eval t e)) (wt Pk ct)) (hl:TJ H0 (model prog wd) A e nm (isTrue l e (eval l e)) (wt Pk cl)) (hr:TJ H0 (model prog wd) A e nm (isTrue r e (eval r e)) (wt Pk cr)) :
  TJ H0 (model prog wd) A e nm (isTrue (.IfExp t l r pos) e whole) (wt Pk (.ite ct cl cr)):=fun f G s st Q p h=>by
 refine dC (arm_isTrue_IfExp ..) ?_
 refine cO (yQ (ht f G s st _ p h) fun b s₁ G₁ st₁ sm₁ le₁ n₁ p₁ q₁=>?_)
 clear ht whole h p;cases b with
 |true=>exact dW rfl (cV (hl f G₁ s₁ st₁ _ p₁ (q₁.t rfl)) fun v s₂ P=>P.step sm₁ le₁ n₁)
 |false=>exact cW rfl (cV (hr f G₁ s₁ st₁ _ p₁ (q₁.f rfl)) fun v s₂ P=>P.step sm₁ le₁ n₁)
theorem sN {W:St→(List V→St→Prop)→Prop} {W':St→(Bool→St→Prop)→Prop} (he:isTrue t e (eval t e)=(do let v ←eval t e;standAt t.pos;holding [v] (truthy v)))
  (hW:∀st Q,W' st Q→W st fun vs st=>one vs fun x=>gY x st fun b=>Q b st) (hl:EJ H0 (model prog wd) A e nm (eval t e) W):TJ H0 (model prog wd) A e nm (isTrue t e (eval t e)) W':=fun f G s st Q p h=>by
 rw [he]
 refine cO (fP (hl f G s st _ p (hW _ _ h)) fun v s₁ G₁ st₁ x sm₁ le₁ n₁ p₁ v₁ q₁=>?_)
 exact cS (cR (fZ v₁ (jG q₁ :) fun b hb=>kB.step sm₁ le₁ n₁ (.now p₁ hb)))
theorem zu {k:Nat} {b:Bool}:TJ H0 (model prog wd) A e nm (isTrue (.Constant (.bool b) k pos) e (eval (.Constant (.bool b) k pos) e)) (wt Pk (.lit (.bool b))):=
 sN (W:=w Pk (.lit (.bool b))) rfl (fun st Q h=>h) (oZ (.inr (.inl ⟨b,rfl,rfl⟩)))
theorem BJ:LJ H0 (model prog wd) A e nm (spliced (backTo pos (starEach [] e))) (w Pk .nil):=fun f G s st Q p h=>
 wpN_pure ⟨G,st,[], .refl _, .refl _,Nat.le_refl _,p,rfl,h⟩
theorem z8 {rest:List PySem.Expr} (he:starEach (l::rest) e=(false,eval l e)::starEach rest e) (hl:EJ H0 (model prog wd) A e nm (eval l e) (w Pk cl)) (hr:LJ H0 (model prog wd) A e nm (spliced (backTo pos (starEach rest e))) (w Pk cr)) :
  LJ H0 (model prog wd) A e nm (spliced (backTo pos (starEach (l::rest) e))) (w Pk (.cons cl cr)):=fun f G s st Q p h=>by
 rw [he]
 show wpN _ _ (do
  let v ←eval l e
  let here ←(pure [v]:Sem (List Value))
  return here++(←holding here (spliced (backTo pos (starEach rest e))))) _ _
 refine cO (fP (hl f G s st _ p h) fun v s₁ G₁ st₁ x sm₁ le₁ n₁ p₁ v₁ q₁=>?_)
 refine cO (wpN_pure (cO (cR (BC (hr f G₁ s₁ st₁ _ p₁ q₁) fun vs s₂ G₂ st₂ xs sm₂ le₂ n₂ p₂ v₂ q₂=>wpN_pure ?_))))
 exact ⟨G₂,st₂,x::xs,sm₁.trans sm₂,le₁.trans le₂,Nat.le_trans n₁ n₂,p₂,⟨v,vs,rfl,v₁.le le₂,v₂⟩,q₂⟩
end
end
section
section
variable {prog:Program} {wd:World} {A:Around} {H0:Heap} {e:Env} {nm:List (Option Str)} {Pk:Pg} {f:Gm} {G:Gh} {st:St} {s:Shared}
variable {l r t:PySem.Expr} {cl cr ct:C} {pos:Pos}
theorem du.length {g:Gm} {k:lI}:∀{xs:List V} {vs:List Value},du g k xs vs→vs.length=xs.length
 |[],_,h=>by subst h;rfl
 |_::_,_,⟨v,r,e,_,h⟩=>by subst e;simp [h.length]
theorem dJ.length {g:Gm}:∀{xs:List P} {vs:List Value},dJ g xs vs→vs.length=xs.length
 |[],_,h=>by subst h;rfl
 |_::_,_,⟨v,r,e,_,h⟩=>by subst e;simp [h.length]
theorem du.ps {g:Gm} {k:lI}:∀{xs:List V} {vs:List Value} {ps:List P},du g k xs vs→ps? xs=some ps→dJ g ps vs
 |[],_,_,h,h'=>by subst h;clear k;obtain rfl:=sj h';rfl
 |.p x::r,_,ps,⟨v,r',e,h1,h⟩,h'=>by
  subst e
  simp only [ps?] at h'
  split at h'
  ·rename_i l hl;obtain rfl:=sj h';exact ⟨v,r',rfl,h1,h.ps hl⟩
  ·exact ns h'
 |.ref _::_,_,_,_,h'=>by exact ns h'
 |.inn _ _ _::_,_,_,_,h'=>by exact ns h'
 |.tup _::_,_,_,_,h'=>by exact ns h'
 |.inst _ _::_,_,_,_,h'=>by exact ns h'
theorem Pre.pushG (p:Pre H0 f e nm G st s) (o:Obj) (hf:o.isFreed=false) :
  ∃G',G.Le G'∧Pre H0 f e nm G' st {s with heap:=s.heap.push o}∧G'.g s.heap.objs.size=some o∧G'.k=G.k∧G'.ow=G.ow:=
 (p.keeps (s':={s with heap:=s.heap.push o}) fun a o h=>Heap.get?_push_of_some _ h).freeze (Heap.get?_push_size _ hf) (p.fresh (Nat.le_refl _)).2.2 (p.fresh (Nat.le_refl _)).2.1
theorem Bb {xs:List V} {vs:List Value} {Q:V→St→Prop} (p:Pre H0 f e nm G st s) (hv:du G.g G.k xs vs) (hl:xs.length≤1000) (h:Q (zo xs) st) :
  wpN (model prog wd) A (newTuple vs) (dH H0 f e nm G s st.σ.length Q) s:=by
 refine cQ (wpAny_newObj_type ?_ (by refine (?_:vs.toArray.size≤sizeLine);rw [List.size_toArray,hv.length,sizeLine_eq];exact cT [] [_] ab aq 1 [.j 1 ab aI] rfl hl))
 refine e1e (p.pushG {cls:=.type "tuple",data:=.seq vs.toArray} rfl) fun G' le p' g' k' _=>?_
 refine ⟨G',st,zo xs,⟨rfl,rfl,rfl⟩,le,Nat.le_refl _,p',?_,h⟩
 unfold zo
 clear h hl p Q p' k';split
 ·rename_i ps hps
  exact ⟨_,_,vs,0,rfl,g',rfl,(hv.ps hps).mono le.g⟩
 ·exact ⟨_,_,vs,0,rfl,g',rfl,hv.le le⟩
theorem B7 {elts:List PySem.Expr} {k:Nat} (hl:LJ H0 (model prog wd) A e nm (spliced (backTo pos (starEach elts e))) (w Pk cl)) :
  EJ H0 (model prog wd) A e nm (eval (.Tuple elts k pos) e) (w Pk (.tup cl)):=fun f G s st Q p h=>by
 refine dC (arm_eval_Tuple ..) ?_
 refine cS (cO (BC (hl f G s st _ p h) fun vs s₁ G₁ st₁ xs sm₁ le₁ n₁ p₁ v₁ q₁=>?_))
 exact cV (Bb p₁ v₁ q₁.1 q₁.2) fun v s₂ P=>P.step sm₁ le₁ n₁
theorem jJ {own:Bool} {ps:List P} {vs:List Value} {Q:V→St→Prop} (p:Pre H0 f e nm G st s) (hv:dJ G.g ps vs)
  (h:match own with|true=>Q (.ref st.σ.length) {st with σ:=st.σ++[.bx (.lst ps)]}|false=>Q (.p (.lst ps)) st) :
  dH H0 f e nm G s st.σ.length Q (.ref s.heap.objs.size) {s with heap:=s.heap.push {cls:=.type "list",data:=.seq vs.toArray}}:=by
 cases own with
 |false=>
  refine e1e (p.pushG {cls:=.type "list",data:=.seq vs.toArray} rfl) fun G' le p' g' k' _=>?_
  exact ⟨G',st,_,⟨rfl,rfl,rfl⟩,le,Nat.le_refl _,p',vp (x:=.lst ps) ⟨_,_,vs,0,rfl,g',rfl,hv.mono le.g⟩,h⟩
 |true=>
  have p₁:Pre H0 f e nm G st {s with heap:=s.heap.push {cls:=.type "list",data:=.seq vs.toArray}}:=
   p.keeps fun a o h=>Heap.get?_push_of_some _ h
  refine e0c (p.fresh (Nat.le_refl _)) fun f1 f2 f3=>?_
  refine e1d (p₁.adopt (b:=.lst ps) (a:=s.heap.objs.size) ⟨vs,0,Heap.get?_push_size _ rfl,hv⟩ f1 f2 f3) fun G' le p' i' g'=>?_
  exact ⟨G',_, .ref st.σ.length,⟨rfl,rfl,rfl⟩,le,by simp,p',⟨_,i',rfl⟩,h⟩
theorem Ca {own:Bool} {elts:List PySem.Expr} (hl:LJ H0 (model prog wd) A e nm (spliced (backTo pos (starEach elts e))) (w Pk cl)) :
  EJ H0 (model prog wd) A e nm (eval (.List elts pos) e) (w Pk (.lst own cl)):=fun f G s st Q p h=>by
 refine dC (arm_eval_List ..) ?_
 refine cS (cO (BC (hl f G s st _ p h) fun vs s₁ G₁ st₁ xs sm₁ le₁ n₁ p₁ v₁ q₁=>?_))
 split at q₁
 ·rename_i ps hps
  have hp:=v₁.ps hps
  have hlen:=hp.length
  refine cQ (wpAny_newObj_type (dH.step sm₁ le₁ n₁ (jJ (own:=own) p₁ hp ?_)) (by refine (?_:vs.toArray.size≤sizeLine);rw [List.size_toArray,hlen,sizeLine_eq];exact cT [] [_] ab aq 1 [.j 1 ab aI] rfl (And.left q₁)))
  clear hl elts hlen hp v₁ p₁ n₁ le₁ sm₁ G₁ s₁ vs h p st s G f;cases own<;>exact q₁.2
 ·exact q₁.elim
end
end
section
section
variable {prog:Program} {wd:World} {A:Around} {H0:Heap} {e:Env} {nm:List (Option Str)} {Pk:Pg} {f:Gm} {G:Gh} {st:St} {s:Shared}
variable {l r t:PySem.Expr} {cl cr ct:C} {pos:Pos}
theorem vq {l:Addr} {items:Array Value} {k:Nat} {x:Int} {u:Tok} {E:Value→Shared→Prop} {Q:Value→Shared→Prop}
  (hl:s.heap.get? l=some {cls:=.type "list",dict:=none,data:=.seq items k,slots:=#[]})
  (hlo : -(2 ^ 63:Int)≤x) (hhi:x<2 ^ 63) (hsz:items.size*x.toNat≤2 ^ 24)
  (h:Q (.ref s.heap.objs.size) {s with heap:=s.heap.push {cls:=.type "list",data:=.seq (List.replicate x.toNat items.toList).flatten.toArray}}) :
  wpAny (model prog wd) A (binaryOp .Mult (.ref l) (.int x u)) Q E s:=
 wpAny_binaryOp_repeat_ref (T:="list") (U:="int") (by decide) ⟨_,hl,rfl⟩ (fun s'=>typeIs_int s' x u) noFill_list_mul F.fills_int_mul F.slot_int_rmul repeat_list F.slot_int_index.lookup
  (call_meets F.slot_int_rmul (typeIs_int s x u) F.entry_int_rmul (F.args_int_rmul_2 _ _) (int___rmul___int_list x u l items k)
   ⟨hl,rfl,⟨_,hl,rfl⟩,call_meets F.slot_list_mul ⟨_,hl,rfl⟩ F.entry_list_mul (F.args_list_mul_2 _ _)
    (AutoListH.list___mul___list_int_3 l items k x u (by simp [Builtin.List.listFitsIndex];lia) (by lia) (by simp [Builtin.List.listTooLong,sizeLine];lia))
    ⟨hl,by rw [listMul_foldl_if];exact h⟩⟩)
theorem dJ.rep {g:Gm} {l:List P} {vs:List Value} (h:dJ g l vs):∀n,dJ g (List.replicate n l).flatten (List.replicate n vs).flatten
 |0=>rfl
 |n+1=>by simp only [List.replicate_succ,List.flatten_cons];exact h.append (dJ.rep h n)
theorem Al {own:Bool} {x:PySem.Expr} {p2:Pos} (hl:EJ H0 (model prog wd) A e nm (eval l e) (w Pk cl)) (hr:EJ H0 (model prog wd) A e nm (eval r e) (w Pk cr)) :
  EJ H0 (model prog wd) A e nm (eval (.BinOp l .Mult r pos) e) (w Pk (.repl own cl cr)):=fun f G s st Q p h=>by
 refine dC (eval_BinOp ..) ?_
 refine cO (fP (hl f G s st _ p h) fun a s₁ G₁ st₁ x sm₁ le₁ n₁ p₁ v₁ q₁=>?_)
 refine cO (cR (fP (hr f G₁ s₁ st₁ _ p₁ q₁) fun b s₂ G₂ st₂ y sm₂ le₂ n₂ p₂ v₂ q₂=>?_))
 refine cS (d6 ?_)
 refine e1b (z4 (jG (jG q₂ :) :)) fun ps zq1 q₂=>?_;clear hr hl p2 q₁ p₁ h p;subst zq1
 clear x;obtain ⟨n,rfl,zn1,q₂⟩:=fS q₂;obtain ⟨h1,h2,h3⟩:=zn1
 refine e4d (v₁.le le₂) fun a' o vs k zq4 ho zq6 hv=>?_;subst zq4 zq6
 refine e1a v₂ fun u zq1=>?_;clear v₂;subst zq1
 have hlen:=hv.length
 refine cQ (vq (p₂.inv.gg _ _ ho) (by lia) (by lia) ?_ ?_)
 ·simp only [List.size_toArray,hlen]
  have:ps.length*n.toNat≤16*n.toNat:=Nat.mul_le_mul_right _ h1
  lia
 ·refine dH.step (sm₁.trans sm₂) (le₁.trans le₂) (Nat.le_trans n₁ n₂) (jJ (own:=own) (ps:=(List.replicate n.toNat ps).flatten) p₂ ?_ ?_)
  ·simpa using hv.rep n.toNat
  ·clear h3 h2 h1 hlen u hv ho k vs p₂ n₂ le₂;cases own<;>exact q₂
theorem yS:∀{xs:List V} {ps:List P},ps? xs=some ps→xs=ps.map .p
 |[],ps,h=>by obtain rfl:=sj h;rfl
 |.p x::r,ps,h=>by
  simp only [ps?] at h
  split at h
  ·rename_i l hl;obtain rfl:=sj h;rw [yS hl];rfl
  ·exact ns h
 |.ref _::_,_,h=>by exact ns h
 |.inn _ _ _::_,_,h=>by exact ns h
 |.tup _::_,_,h=>by exact ns h
 |.inst _ _::_,_,h=>by exact ns h
theorem xg {g:Gm} {k:lI} {xs:List V} {v:Value} (h:dL g k (.tup xs) v):dL g k (zo xs) v:=by
 unfold zo
 split
 ·rename_i ps hps
  refine e4d h fun a o vs n e h1 h2 h3=>?_
  exact ⟨a,o,vs,n,e,h1,h2,h3.ps hps⟩
 ·exact h
theorem Pre.freezeBox (p:Pre H0 f e nm G st s) {i:Nat} {l:List P} {a:Value} (hi:st.σ[i]? = some (.bx (.lst l))) (hv:dL G.g G.k (.ref i) a) :
  ∃G',G.Le G'∧Pre H0 f e nm G' {st with σ:=st.σ.set i .dead} s∧dL G'.g G'.k (.p (.lst l)) a:=by
 refine e1c (p.inv.obj i _ hi) fun ad h1 h2 zr=>e2b zr fun vs n h3 h4=>?_
 refine e1b hv fun ad' h5 zq2=>?_;clear hv;clear hi zr;subst zq2
 rw [h1] at h5;obtain rfl:=sj h5
 refine e0c (p.inv.own _ _ h2) fun g1 g2 g3=>?_
 let G₁:Gh:={G with ow:=fun b=>if b=ad then none else G.ow b}
 have ow0:∀b j,G.ow b=some (0,j)→G₁.ow b=some (0,j):=fun b j hb=>by
  have:b≠ad:=fun q=>by clear g3 g1 h5 h1;subst q;rw [h2] at hb;cases hb
  exact (if_neg this).trans hb
 have p₁:Pre H0 f e nm G₁ {st with σ:=st.σ.set i .dead} s:=by
  refine ⟨⟨p.inv.base,p.inv.gg,p.inv.ff,p.inv.fg,fun b x h=>?_,fun j o h=>?_,fun j h=>p.inv.dom j (by simpa using h)⟩,p.fr.le ⟨fun _ _ h=>h,fun _ _ h=>h,fun _ _ _ _ h=>h⟩ ow0,p.len⟩
  ·change (if b=ad then none else G.ow b)=some x at h
   split at h
   ·exact ns h
   ·exact p.inv.own b x h
  ·dsimp only at h
   rw [List.getElem?_set] at h
   split at h
   ·split at h
    ·clear h1;obtain rfl:=sj h;trivial
    ·exact ns h
   ·rename_i q
    refine nX.mono (G:=G) (fun _ _ h=>h) (fun _ h=>h) (fun _ _=>rfl) (fun b k hb=>⟨?_,fun _ h=>h⟩) (p.inv.obj j o h)
    have:b≠ad:=fun q'=>by clear p h ow0 o g3 g1 h5;subst q';rw [h2] at hb;cases hb;exact q rfl
    exact (if_neg this).trans hb
 refine e1e (p₁.freeze (a:=ad) h3 (if_pos rfl) g2) fun G' le p' g' k' _=>?_
 refine ⟨G',⟨le.g,le.id,le.inn⟩,p',⟨ad,_,vs,n,rfl,g',rfl,h4.mono le.g⟩⟩
theorem Pre.frz (p:Pre H0 f e nm G st s) {v:V} {a:Value} (hv:dL G.g G.k v a) :
  ∃G',G.Le G'∧st.σ.length≤(oX v st.σ).2.length∧Pre H0 f e nm G' {st with σ:=(oX v st.σ).2} s∧dL G'.g G'.k (oX v st.σ).1 a:=by
 have key:∀v:V,∀(G:Gh) (st:St) (a:Value),Pre H0 f e nm G st s→dL G.g G.k v a→∃G',G.Le G'∧st.σ.length≤(oX v st.σ).2.length∧Pre H0 f e nm G' {st with σ:=(oX v st.σ).2} s∧dL G'.g G'.k (oX v st.σ).1 a:=by
  intro v
  apply V.rec (motive_1:=fun v=>∀(G:Gh) (st:St) (a:Value),Pre H0 f e nm G st s→dL G.g G.k v a→∃G',G.Le G'∧st.σ.length≤(oX v st.σ).2.length∧Pre H0 f e nm G' {st with σ:=(oX v st.σ).2} s∧dL G'.g G'.k (oX v st.σ).1 a)
   (motive_2:=fun vs=>∀(G:Gh) (st:St) (as:List Value),Pre H0 f e nm G st s→du G.g G.k vs as→∃G',G.Le G'∧st.σ.length≤(r6 vs st.σ).2.length∧Pre H0 f e nm G' {st with σ:=(r6 vs st.σ).2} s∧du G'.g G'.k (r6 vs st.σ).1 as)
  ·intro x G st a p hv;exact ⟨G, .refl _,Nat.le_refl _,p,hv⟩
  ·intro i G st a p hv
   simp only [oX]
   split
   ·rename_i l hl
    refine e1c (p.freezeBox hl hv) fun G' le p' v'=>?_
    exact ⟨G',le,by simp,p',v'⟩
   ·exact ⟨G, .refl _,Nat.le_refl _,p,hv⟩
  ·intro i k n G st a p hv;exact ⟨G, .refl _,Nat.le_refl _,p,hv⟩
  ·intro l ih G st a p hv
   refine e4d hv fun b o vs n zq4 h1 h2 h3=>?_;clear hv;subst zq4
   refine e1d (ih G st vs p h3) fun G' le h4 p' v'=>?_
   exact ⟨G',le,h4,p',xg ⟨b,o,vs,n,rfl,le.g _ _ h1,h2,v'⟩⟩
  ·intro c fs _ G st a p hv;exact ⟨G, .refl _,Nat.le_refl _,p,hv⟩
  ·intro G st as p hv;exact ⟨G, .refl _,Nat.le_refl _,p,hv⟩
  ·intro v vs ih1 ih2 G st as p hv
   refine e2c hv fun u r zq2 h1 h2=>?_;clear hv;subst zq2
   refine e1d (ih1 G st u p h1) fun G₁ le₁ n₁ p₁ v₁=>?_
   refine e1d (ih2 G₁ _ r p₁ (h2.le le₁)) fun G₂ le₂ n₂ p₂ v₂=>?_
   exact ⟨G₂,le₁.trans le₂,Nat.le_trans n₁ n₂,p₂,u,r,rfl,v₁.le le₂,v₂⟩
 exact key v G st a p hv
noncomputable def AW (g:Gm) (k:lI):Fl→Flow→Prop
 |.next,fl=>fl=.next
 |.brk,fl=>fl=.brk
 |.cont,fl=>fl=.cont
 |.ret x,fl=>∃v,fl=.ret v∧dL g k x v
noncomputable def fk (H0:Heap) (f:Gm) (e:Env) (nm:List (Option Str)) (G:Gh) (s:Shared) (m:Nat) (Q:Fl→St→Prop) (fl:Flow) (s':Shared):Prop:=
 ∃G' st' x,gr s s'∧G.LeN m G'∧m≤st'.σ.length∧Pre H0 f e nm G' st' s'∧AW G'.g G'.k x fl∧Q x st'
theorem fk.step {m:Nat} {s₁ s':Shared} {G₁:Gh} {Q:Fl→St→Prop} {v:Flow} (a:gr s s₁) (b:G.LeN m G₁) (h:fk H0 f e nm G₁ s₁ m Q v s'):fk H0 f e nm G s m Q v s':=
 e3d h fun G' st' x h1 h2 h3 h4=>⟨G',st',x,a.trans h1,b.trans h2,h3,h4⟩
theorem fk.now {m:Nat} {fl:Fl} {v:Flow} {Q:Fl→St→Prop} (p:Pre H0 f e nm G st s) (hm:m≤st.σ.length) (hv:AW G.g G.k fl v) (q:Q fl st):fk H0 f e nm G s m Q v s:=
 ⟨G,st,fl, .refl _,(Gh.Le.refl _).toN _,hm,p,hv,q⟩
noncomputable def SJ (H0:Heap) (M:Model) (A:Around) (e:Env) (nm:List (Option Str)) (t:Sem Flow) (W:St→(Fl→St→Prop)→Prop):Prop:=
 ∀f G s st Q m,Pre H0 f e nm G st s→m≤st.σ.length→W st Q→wpN M A t (fk H0 f e nm G s m Q) s
theorem Da {t:Sem Flow} {m:Nat} {Q:Fl→St→Prop} {K:Flow→Shared→Prop} {s':Shared} (h:wpN (model prog wd) A t (fk H0 f e nm G s m Q) s')
  (k:∀v s₁ G₁ st₁ x,gr s s₁→G.LeN m G₁→m≤st₁.σ.length→Pre H0 f e nm G₁ st₁ s₁→AW G₁.g G₁.k x v→Q x st₁→K v s₁):wpN (model prog wd) A t K s':=
 cV h fun v s₁ h=>h.elim fun G₁ h=>h.elim fun st₁ h=>h.elim fun x h=>k v s₁ G₁ st₁ x h.1 h.2.1 h.2.2.1 h.2.2.2.1 h.2.2.2.2.1 h.2.2.2.2.2
variable {sa sb:S} {x:Stmt} {rest body:List Stmt}
theorem zD:SJ H0 (model prog wd) A e nm (execs [] e) (wS Pk .skip):=fun f G s st Q m p hm h=>wpN_pure (.now p hm (fl:=.next) rfl h)
theorem Bo (ha:SJ H0 (model prog wd) A e nm (exec x e) (wS Pk sa)) (hb:SJ H0 (model prog wd) A e nm (execs rest e) (wS Pk sb)) :
  SJ H0 (model prog wd) A e nm (execs (x::rest) e) (wS Pk (.seq sa sb)):=fun f G s st Q m p hm h=>by
 refine dC (execs_cons ..) ?_
 refine cO (Da (ha f G s st _ m p hm h) fun fl s₁ G₁ st₁ y sm₁ le₁ n₁ p₁ v₁ q₁=>?_)
 cases y with
 |next=>clear ha h hm p st;subst v₁;exact cV (hb f G₁ s₁ st₁ _ m p₁ n₁ q₁) fun v s₂ P=>P.step sm₁ le₁
 |brk=>clear hb ha h hm p st;subst v₁;exact wpN_pure (fk.step sm₁ le₁ (.now p₁ n₁ (fl:=.brk) rfl q₁))
 |cont=>clear hb ha h hm p st;subst v₁;exact wpN_pure (fk.step sm₁ le₁ (.now p₁ n₁ (fl:=.cont) rfl q₁))
 |ret y=>refine e1b v₁ fun v zq1 hv=>?_;clear v₁;clear hb ha h hm p st;subst zq1;exact wpN_pure (fk.step sm₁ le₁ (.now p₁ n₁ (fl:=.ret y) ⟨v,rfl,hv⟩ q₁))
theorem zI:SJ H0 (model prog wd) A e nm (exec (.Pass pos) e) (wS Pk .skip):=fun f G s st Q m p hm h=>cS (wpN_pure (.now p hm (fl:=.next) rfl h))
theorem Br:SJ H0 (model prog wd) A e nm (exec (.Break pos) e) (wS Pk .brk):=fun f G s st Q m p hm h=>cS (wpN_pure (.now p hm (fl:=.brk) rfl h))
theorem zK:SJ H0 (model prog wd) A e nm (exec (.Continue pos) e) (wS Pk .cont):=fun f G s st Q m p hm h=>cS (wpN_pure (.now p hm (fl:=.cont) rfl h))
theorem xu {exc cause:Option PySem.Expr}:SJ H0 (model prog wd) A e nm (exec (.Raise exc cause pos) e) (wS Pk .raise):=fun f G s st Q m p hm h=>h.elim
theorem Bp (hl:EJ H0 (model prog wd) A e nm (eval l e) (w Pk cl)):SJ H0 (model prog wd) A e nm (exec (.Return (some l) pos) e) (wS Pk (.ret cl)):=fun f G s st Q m p hm h=>by
 refine dC (exec_Return_some ..) ?_
 refine cS (cO (fP (hl f G s st _ p h) fun v s₁ G₁ st₁ y sm₁ le₁ n₁ p₁ v₁ q₁=>wpN_pure ?_))
 refine e1d (p₁.frz v₁) fun G₂ le₂ n₂ p₂ v₂=>?_
 exact fk.step sm₁ ((le₁.trans le₂).toN _) (.now p₂ (Nat.le_trans (Nat.le_trans hm n₁) n₂) (fl:=.ret _) ⟨v,rfl,v₂⟩ q₁)
theorem zH:SJ H0 (model prog wd) A e nm (exec (.Return none pos) e) (wS Pk (.ret (.lit .none))):=fun f G s st Q m p hm h=>
 cS (wpN_pure (.now p hm (fl:=.ret (.p .none)) ⟨.none,rfl,vp (x:=.none) rfl⟩ h))
theorem pk {v:Value} {Q:Flow→Shared→Prop} (h:Q .next s):wpN (model prog wd) A (dropValue l pos v) Q s:=by
 exact cQ (wpAny_dropValue h)
noncomputable def fC (x:PySem.Expr):Bool:=Nat.beq x.ctorIdx 8||Nat.beq x.ctorIdx 9||Nat.beq x.ctorIdx 10
theorem kD {v:PySem.Expr} {t:Option PySem.Expr} {k:Nat} (h:fC v=false):swapsWith v t k e=pure false:=by cases v<;>first|rfl|exact tf h
theorem zJ (hc:fC l=false) (hi:e.scope.kind=.function) (hl:EJ H0 (model prog wd) A e nm (eval l e) (w Pk cl)):SJ H0 (model prog wd) A e nm (exec (.Expr l pos) e) (wS Pk (.expr cl)):=fun f G s st Q m p hm h=>by
 rw [exec_Expr e l pos (by unfold interactive;rw [hi];rfl) (kD hc)]
 refine cS (cO (fP (hl f G s st _ p h) fun v s₁ G₁ st₁ y sm₁ le₁ n₁ p₁ v₁ q₁=>pk ?_))
 exact fk.step sm₁ (le₁.toN _) (.now p₁ (Nat.le_trans hm n₁) (fl:=.next) rfl q₁)
noncomputable def uc (x:PySem.Expr):Bool:=Nat.beq x.ctorIdx 24||Nat.beq x.ctorIdx 25
noncomputable def A8 (e:Env) (nm:List (Option Str)) (n:Str) (i:Nat):Prop:=nm[i]? = some (some n)∧(e.kindOf n=some .local∨e.kindOf n=some .cell)
theorem zM {n:Str} {p2:Pos} {i:Nat} (hc:fC l=false) (hn:A8 e nm n i) (hl:EJ H0 (model prog wd) A e nm (eval l e) (w Pk cl)) :
  SJ H0 (model prog wd) A e nm (exec (.Assign [.Name n p2] l pos) e) (wS Pk (.asg (.var i) cl)):=fun f G s st Q m p hm h=>by
 refine dC (exec_Assign_Name e n p2 l pos (kD hc)) ?_
 refine cS (cO (fP (hl f G s st _ p h) fun v s₁ G₁ st₁ y sm₁ le₁ n₁ p₁ v₁ q₁=>cS (cO (cQ (wpAny_bindName (p₁.store hn.1 hn.2 v₁ fun s₂ sm₂ p₂=>wpN_pure ?_))))))
 exact fk.step (sm₁.trans sm₂) (le₁.toN _) (.now p₂ (Nat.le_trans hm n₁) (fl:=.next) rfl q₁)
theorem Bs {n:Str} {p2:Pos} {i:Nat} {op:Operator} (hop:op=.Add∨op=.Sub∨op=.Mult∨op=.BitAnd) (hn:A8 e nm n i) (hd:(n==("__classdict__" : Str))=false) (hl:EJ H0 (model prog wd) A e nm (eval l e) (w Pk cl)) :
  SJ H0 (model prog wd) A e nm (exec (.AugAssign (.Name n p2) op l pos) e) (wS Pk (.aug i op cl)):=fun f G s st Q m p hm h=>by
 refine dC (exec_AugAssign_Name ..) ?_
 refine e1b (tB h) fun x hx h=>?_
 refine cS (cO (cQ (p.load hn.1 hx hd fun a ha=>?_)))
 refine cO (cR (fP (hl f G s st _ p h) fun v s₁ G₁ st₁ y sm₁ le₁ n₁ p₁ v₁ q₁=>?_))
 refine cS (cO (d6 ?_))
 refine e2c (pF (jG q₁ :)) fun xa xb zq2 zq3 q₁=>?_;clear hl hd h hx p;subst zq2 zq3
 refine fP (xT p₁ (dL.le le₁ ha) v₁ q₁ hop ⟨_,rfl⟩ ⟨_,rfl⟩) fun v s₂ G₂ st₂ z sm₂ le₂ n₂ p₂ v₂ q₂=>?_
 refine cS (cO (cQ (wpAny_bindName (p₂.store hn.1 hn.2 v₂ fun s₃ sm₃ p₃=>wpN_pure ?_))))
 exact fk.step ((sm₁.trans sm₂).trans sm₃) ((le₁.trans le₂).toN _) (.now p₃ (Nat.le_trans hm (Nat.le_trans n₁ n₂)) (fl:=.next) rfl q₂)
theorem C5 (ht:TJ H0 (model prog wd) A e nm (isTrue t e (eval t e)) (wt Pk ct)) (ha:SJ H0 (model prog wd) A e nm (execs body e) (wS Pk sa)) (hb:SJ H0 (model prog wd) A e nm (execs rest e) (wS Pk sb)) :
  SJ H0 (model prog wd) A e nm (exec (.If t body rest pos) e) (wS Pk (.ite ct sa sb)):=fun f G s st Q m p hm h=>by
 refine dC (exec_If ..) ?_
 refine cS (cO (yQ (ht f G s st _ p h) fun b s₁ G₁ st₁ sm₁ le₁ n₁ p₁ q₁=>?_))
 clear ht h p;cases b with
 |true=>exact dW rfl (cV (ha f G₁ s₁ st₁ _ m p₁ (Nat.le_trans hm n₁) (q₁.t rfl)) fun v s₂ P=>P.step sm₁ (le₁.toN _))
 |false=>exact cW rfl (cV (hb f G₁ s₁ st₁ _ m p₁ (Nat.le_trans hm n₁) (q₁.f rfl)) fun v s₂ P=>P.step sm₁ (le₁.toN _))
theorem uT {msg:Option PySem.Expr} (ht:TJ H0 (model prog wd) A e nm (isTrue t e (eval t e)) (wt Pk ct)):SJ H0 (model prog wd) A e nm (exec (.Assert t msg pos) e) (wS Pk (.assert ct)):=fun f G s st Q m p hm h=>by
 refine dC (arm_exec_Assert ..) ?_
 refine cS (cO (yQ (ht f G s st _ p h) fun b s₁ G₁ st₁ sm₁ le₁ n₁ p₁ q₁=>?_))
 revert q₁;intro zh;refine e0b zh fun zq0 q₁=>?_;clear zh;clear ht h p;subst zq0
 exact dW rfl (wpN_pure (fk.step sm₁ (le₁.toN _) (.now p₁ (Nat.le_trans hm n₁) (fl:=.next) rfl q₁)))
end
end
section
section
variable {H0:Heap} {e:Env} {nm:List (Option Str)} {f:Gm} {G:Gh} {st:St} {s:Shared}
noncomputable def w7 (n:Nat) (G:Gh):Gh:=⟨G.g,⟨fun i=>if i<n then G.k.id i else none,fun i m v=>if i<n then G.k.inn i m v else none⟩,
 fun a=>match G.ow a with|some (i,j)=>if i≤n then some (i,j) else none|none=>none⟩
theorem dL.sub {g:Gm} {k k':lI} {n:Nat} (hk:∀i,i<n→∀a,k.id i=some a→k'.id i=some a) (hk2:∀i,i<n→∀m v a,k.inn i m v=some a→k'.inn i m v=some a) (x:V):scp n x=true→∀{v},dL g k x v→dL g k' x v:=by
 refine V.rec (motive_1:=fun x=>scp n x=true→∀{v},dL g k x v→dL g k' x v) (motive_2:=fun xs=>CO n xs=true→∀{vs},du g k xs vs→du g k' xs vs) (fun x _ _ h=>h) ?_ ?_ ?_ ?_ (fun _ _ h=>h) ?_ x
 case refine_1=>exact fun i hs _ h=>h.elim fun a h=>⟨a,hk _ (of_decide_eq_true hs) _ h.1,h.2⟩
 case refine_2=>exact fun i m n hs _ h=>h.elim fun a h=>⟨a,hk2 _ (of_decide_eq_true hs) _ _ _ h.1,h.2⟩
 case refine_3=>exact fun l ih hs _ h=>h.elim fun a h=>h.elim fun o h=>h.elim fun vs h=>h.elim fun n h=>⟨a,o,vs,n,h.1,h.2.1,h.2.2.1,ih hs h.2.2.2⟩
 case refine_4=>exact fun c l ih hs _ h=>h.elim fun a h=>h.elim fun o h=>h.elim fun dx h=>h.elim fun vs h=>⟨a,o,dx,vs,h.1,h.2.1,h.2.2.1,h.2.2.2.1,ih hs h.2.2.2.2⟩
 case refine_5=>exact fun x xs i1 i2 hs _ h=>h.elim fun v h=>h.elim fun r h=>⟨v,r,h.1,i1 (Bool.and_eq_true_iff.mp hs).1 h.2.1,i2 (Bool.and_eq_true_iff.mp hs).2 h.2.2⟩
theorem dL.inScope {g:Gm} {k:lI} {n:Nat} {x:V} {v:Value} (h:dL g k x v) (hs:scp n x=true):dL g ⟨fun i=>if i<n then k.id i else none,fun i m v=>if i<n then k.inn i m v else none⟩ x v:=
 dL.sub (fun _ q _ h=>(if_pos q).trans h) (fun _ q _ _ _ h=>(if_pos q).trans h) x hs h
theorem pN (n:Nat) (G:Gh):G.LeN n (w7 n G):=⟨fun _ _ h=>h,fun i a h x=>(if_pos h).trans x,fun i m v a h x=>(if_pos h).trans x⟩
theorem se {n i j:Nat} {a:Addr} {G:Gh} (h:G.ow a=some (i,j)) (hi:i≤n):(w7 n G).ow a=some (i,j):=by simp only [w7,h,if_pos hi]
theorem Inv.cut {σ:List O} {h:Heap} {n:Nat} (I:Inv H0 f G σ h):Inv H0 f (w7 n G) (σ.take n) h where
 base:=I.base
 gg:=I.gg
 ff:=I.ff
 fg:=I.fg
 own:=fun a x y=>by
  cases q:G.ow a with
  |none=>simp only [w7,q] at y;exact ns y
  |some z=>exact I.own a z q
 obj:=fun i o x=>by
  by_cases hi:i<n
  ·rw [List.getElem?_take_of_lt hi] at x
   exact nX.mono (G:=G) (fun _ _ h=>h) (fun a h=>(if_pos hi).trans h) (fun m v=>if_pos hi) (fun a j h=>⟨se h hi,fun _ h=>h⟩) (I.obj i o x)
  ·rw [List.getElem?_eq_none (by simp;exact cT [] [_,_,_] ab ae 1 [.j 1 ak ae,.j 1 ab ak] rfl (Nat.not_lt.mp hi) (Nat.min_le_left _ _))] at x;exact ns x
 dom:=fun i hi=>by
  by_cases q:i<n
  ·have:σ.length≤i:=by rw [List.length_take] at hi;lia
   exact ⟨(if_pos q).trans (I.dom i this).1,fun m v=>(if_pos q).trans ((I.dom i this).2 m v)⟩
  ·exact ⟨if_neg q,fun m v=>if_neg q⟩
theorem Pre.cut (p:Pre H0 f e nm G st s) (n:Nat):Pre H0 f e nm (w7 n G) (iT n st) s where
 inv:=p.inv.cut
 fr:={
  kind:=p.fr.kind
  loc:=by
   refine e1b p.fr.loc fun m hm hl=>?_
   refine ⟨m,hm,fun i n' x h1 h2=>?_⟩
   have h3:st.env[i]? = some (some x)∧scp n x=true:=by
    simp only [iT,List.getElem?_map] at h2
    cases q:st.env[i]? with
    |none=>rw [q] at h2;exact ns h2
    |some y=>
     rw [q] at h2
     cases y with
     |none=>cases h2
     |some y=>
      simp only [Option.map_some,Option.some.injEq] at h2
      split at h2
      ·rename_i hs;obtain rfl:=sj h2;exact ⟨rfl,hs⟩
      ·exact ns h2
   rcases hl i n' x h1 h3.1 with ⟨z,v,z1,z2⟩|⟨z,c,v,h4,h5,h6⟩
   ·exact .inl ⟨z,v,z1,z2.inScope h3.2⟩
   ·exact .inr ⟨z,c,v,h4,h5,h6.inScope h3.2⟩
  own:=se p.fr.own (Nat.zero_le _)
  cells:=fun n' c hc=>⟨se (p.fr.cells n' c hc).1 (Nat.zero_le _),(p.fr.cells n' c hc).2⟩
  apart:=p.fr.apart
  cellsAll:=p.fr.cellsAll
  inj:=p.fr.inj}
 len:=by simp [iT,p.len]
end
section
variable {prog:Program} {wd:World} {A:Around} {H0:Heap} {e:Env} {nm:List (Option Str)} {Pk:Pg} {f:Gm} {G:Gh} {st:St} {s:Shared}
variable {l r t:PySem.Expr} {cl cr ct:C} {pos:Pos} {sa sb:S} {body:List Stmt}
theorem qC (A:Around):A.mark none=A:=by cases A;rfl
theorem oF {c:PySem.Code} {Q:Flow→Shared→Prop} (h:eW (model prog wd) A c Q s):wpN (model prog wd) A (runOwn c e) Q s:=by
 unfold runOwn
 exact dU (uC (by rw [qC];exact h) (by intro x;cases x))
theorem nM (ht:TJ H0 (model prog wd) A e nm (isTrue t e (eval t e)) (wt Pk ct)) (ha:SJ H0 (model prog wd) A e nm (execs body e) (wS Pk sa)) :
  ∀(n:Nat) (f:Gm) (G:Gh) (s:Shared) (st:St) (Q:Fl→St→Prop) (n0 m:Nat),Pre H0 f e nm G st s→m≤n0→n0≤st.σ.length→zm n0 (wt Pk ct) (wS Pk sa) n st Q→
   eW (model prog wd) A (.whileLoop t body [] e) (fk H0 f e nm G s m Q) s
 |0,_,_,_,_,_,_,_,_,_,_,h=>h.elim
 |n+1,f,G,s,st,Q,n0,m,p,hm,hn,h=>by
  refine dj rfl ?_
  refine (?_:wpN _ A ((whileTurn t body [] e).onRaise _) _ s)
  refine dU ?_
  unfold whileTurn
  refine cO (yQ (ht f G s st _ p h) fun b s₁ G₁ st₁ sm₁ le₁ n₁ p₁ q₁=>?_)
  cases b with
  |false=>exact cW rfl (cO (wpN_pure (wpN_pure (fk.step sm₁ (le₁.toN _) (.now p₁ (Nat.le_trans (Nat.le_trans hm hn) n₁) (fl:=.next) rfl (q₁.f rfl))))))
  |true=>
   refine dW rfl (cO (Da (ha f G₁ s₁ st₁ _ n0 p₁ (Nat.le_trans hn n₁) (q₁.t rfl)) fun fl s₂ G₂ st₂ y sm₂ le₂ n₂ p₂ v₂ q₂=>?_))
   have go:zm n0 (wt Pk ct) (wS Pk sa) n (iT n0 st₂) Q→eW (model prog wd) A (.whileLoop t body [] e) (fk H0 f e nm G s m Q) s₂:=fun z=>
    dY (nM ht ha n f (w7 n0 G₂) s₂ (iT n0 st₂) Q n0 m (p₂.cut n0) hm (by simp [iT];exact cT [] [_,_] ab ae 1 [.j 1 ab ae] rfl (Nat.le_of_eq (Eq.symm (Nat.min_eq_left (cT [] [_,_] ab ae 1 [.j 1 ab ae] rfl n₂))))) z) fun fl s₃ P=>
     P.step (sm₁.trans sm₂) (((le₁.toN _).trans (le₂.mono hm)).trans ((pN n0 G₂).mono hm))
   cases y with
   |next=>subst v₂;exact wpN_pure ⟨rfl,go q₂⟩
   |cont=>subst v₂;exact wpN_pure ⟨rfl,go q₂⟩
   |brk=>subst v₂;exact wpN_pure (fk.step (sm₁.trans sm₂) ((le₁.toN _).trans (le₂.mono hm)) (.now p₂ (Nat.le_trans hm n₂) (fl:=.next) rfl q₂))
   |ret y=>refine e1b v₂ fun v zq1 hv=>?_;clear v₂;subst zq1;exact wpN_pure (fk.step (sm₁.trans sm₂) ((le₁.toN _).trans (le₂.mono hm)) (.now p₂ (Nat.le_trans hm n₂) (fl:=.ret y) ⟨v,rfl,hv⟩ q₂))
theorem xt (ht:TJ H0 (model prog wd) A e nm (isTrue t e (eval t e)) (wt Pk ct)) (ha:SJ H0 (model prog wd) A e nm (execs body e) (wS Pk sa)) :
  SJ H0 (model prog wd) A e nm (exec (.While t body [] pos) e) (wS Pk (.whl ct sa)):=fun f G s st Q m p hm h=>by
 refine dC (exec_While ..) ?_
 refine e1a h fun n h=>?_
 exact cS (oF (nM ht ha n f G s st Q st.σ.length m p hm (Nat.le_refl _) h))
end
end
section
structure p6 (n:Nat) (A:Around):Prop where
 guards:A.guards=some []
 handled:A.handled=none
 depth:A.depth+n≤900
 units:A.units+8*n≤9000
noncomputable def yL (g:Gm):List (Str × P)→List (Str × Value)→Prop
 |[],l=>l=[]
 |(n,x)::r,l=>∃v t,l=(n,v)::t∧PRel g x v∧yL g r t
structure nY (H0:Heap) (prog:Program) (wd:World) (n:Nat) (fa:Addr) (ctr:Ctr):Prop where
 keep:∃kp,Looks (model prog wd) H0 (keeperOf (.ref fa)) kp
 call:∀(A:Around) (f:Gm) (G:Gh) (s:Shared) (σ:List O) (args:List V) (kws:List (Str × P)) (vs:List Value) (kvs:List (Str × Value)) (Q:V→List O→Prop),
  p6 n A→Inv H0 f G σ s.heap→(∀a j,G.ow a≠some (0,j))→du G.g G.k args vs→yL G.g kws kvs→ctr args kws σ Q→
  eW (model prog wd) A (.call (.ref fa) ⟨vs,kvs⟩) (fun fl s'=>∃v,fl=.ret v∧∃G' σ' x,gr s s'∧G.LeN σ.length G'∧σ.length≤σ'.length∧Inv H0 f G' σ' s'.heap∧dL G'.g G'.k x v∧Q x σ') s
theorem p6.mono {n m:Nat} {A:Around} (h:p6 n A) (hm:m≤n):p6 m A:=⟨h.1,h.2,by have:=h.3;exact (cT [] [_,_,_] a9 (.n 900) 1 [.j 1 ae ak,.j 1 bI (.n 900)] rfl hm this),by have:=h.4;exact cT [] [_,_,_] (.a ab (.m 8 ae)) (.n 9000) 1 [.j 8 ae ak,.j 1 (.a ab (.m 8 ak)) (.n 9000)] rfl hm this⟩
mutual
theorem u5:∀(v:V) (l:List Nat) (i:Nat),i∈l→i∈nf v l
 |.ref j,l,i,h=>by simp only [nf];split<;>simp [h]
 |.inn j _ _,l,i,h=>by simp only [nf];split<;>simp [h]
 |.inst _ fs,l,i,h=>jE fs l i h
 |.tup fs,l,i,h=>jE fs l i h
 |.p _,l,i,h=>h
theorem jE:∀(vs:List V) (l:List Nat) (i:Nat),i∈l→i∈f8 vs l
 |[],l,i,h=>h
 |v::vs,l,i,h=>jE vs _ i (u5 v l i h)
end
mutual
theorem rJ:∀(v:V) (l:List Nat),l.Nodup→(nf v l).Nodup
 |.ref j,l,h=>by
  simp only [nf];split
  ·exact h
  ·rename_i q;exact List.nodup_append.mpr ⟨h,by simp,by simp at q ⊢;exact fun a ha e=>q (e▸ha)⟩
 |.inn j _ _,l,h=>by
  simp only [nf];split
  ·exact h
  ·rename_i q;exact List.nodup_append.mpr ⟨h,by simp,by simp at q ⊢;exact fun a ha e=>q (e▸ha)⟩
 |.inst _ fs,l,h=>gO fs l h
 |.tup fs,l,h=>gO fs l h
 |.p _,l,h=>h
theorem gO:∀(vs:List V) (l:List Nat),l.Nodup→(f8 vs l).Nodup
 |[],l,h=>h
 |v::vs,l,h=>gO vs _ (rJ v l h)
end
mutual
theorem dL.ren {g g':Gm} {k k':lI} {φ:Nat→Nat} (hg:∀a o,g a=some o→g' a=some o):∀(x:V) (l:List Nat) {v:Value},(∀i,i∈nf x l→(∀a,k.id i=some a→k'.id (φ i)=some a)∧∀m n a,k.inn i m n=some a→k'.inn (φ i) m n=some a)→dL g k x v→dL g' k' (A0 φ x) v
 |.ref j,l,v,hk,⟨a,h1,h2⟩=>⟨a,(hk j (by simp only [nf];split<;>simp_all)).1 a h1,h2⟩
 |.inn j _ _,l,v,hk,⟨a,h1,h2⟩=>⟨a,(hk j (by simp only [nf];split<;>simp_all)).2 _ _ a h1,h2⟩
 |.inst c fs,l,v,hk,⟨a,o,dx,vs,h1,h2,h3,h4,h5⟩=>⟨a,o,dx,vs,h1,hg _ _ h2,h3,hg _ _ h4,du.ren hg fs l hk h5⟩
 |.tup fs,l,v,hk,⟨a,o,vs,n,h1,h2,h3,h5⟩=>⟨a,o,vs,n,h1,hg _ _ h2,h3,du.ren hg fs l hk h5⟩
 |.p x,l,v,hk,h=>PRel.mono hg h
theorem du.ren {g g':Gm} {k k':lI} {φ:Nat→Nat} (hg:∀a o,g a=some o→g' a=some o):∀(xs:List V) (l:List Nat) {vs:List Value},(∀i,i∈f8 xs l→(∀a,k.id i=some a→k'.id (φ i)=some a)∧∀m n a,k.inn i m n=some a→k'.inn (φ i) m n=some a)→du g k xs vs→du g' k' (py φ xs) vs
 |[],l,vs,hk,h=>h
 |x::xs,l,vs,hk,⟨v,r,h1,h2,h3⟩=>⟨v,r,h1,dL.ren hg x l (fun i hi=>hk i (jE xs _ i hi)) h2,du.ren hg xs (nf x l) hk h3⟩
end
theorem mE:∀{ι:List Nat} {σ objs:List O},qI σ ι=some objs→objs.length=ι.length∧∀(j i:Nat),ι[j]? = some i→∃o,objs[j]? = some o∧σ[i]? = some o
 |[],σ,objs,h=>by obtain rfl:=sj h;exact ⟨rfl,fun j i h=>by simp at h⟩
 |i::r,σ,objs,h=>by
  simp only [qI] at h
  split at h
  ·rename_i o l h1 h2
   obtain rfl:=sj h
   refine e0b (mE h2) fun h3 h4=>?_
   refine ⟨by simp [h3],fun j i' hj=>?_⟩
   cases j with
   |zero=>simp at hj;subst hj;exact ⟨o,rfl,h1⟩
   |succ j=>simp at hj ⊢;exact h4 j i' hj
  ·exact ns h
theorem mA:∀{ι:List Nat} {σ objs:List O},ι.length≤objs.length→(mU σ ι objs).length=σ.length+(objs.length-ι.length)
 |[],σ,objs,h=>by simp [mU]
 |i::r,σ,[],h=>by simp at h
 |i::r,σ,o::os,h=>by simp only [mU];rw [mA (by simpa using h)];simp
theorem sR:∀{ι:List Nat} {σ objs:List O} {k:Nat},ι.length≤objs.length→(∀i∈ι,i<σ.length)→(mU σ ι objs)[σ.length+k]? = objs[ι.length+k]?
 |[],σ,objs,k,h,_=>by simp [mU,List.getElem?_append_right]
 |i::r,σ,[],k,h,_=>by simp at h
 |i::r,σ,o::os,k,h,hi=>by
  simp only [mU]
  have:=sR (ι:=r) (σ:=σ.set i o) (objs:=os) (k:=k) (by simpa using h) (fun i' h'=>by simp;exact hi i' (List.mem_cons_of_mem _ h'))
  simp only [List.length_set] at this
  rw [this]
  simp only [List.length_cons]
  rw [show r.length+1+k=(r.length+k)+1 by exact (Nat.le_antisymm (cT [] [_,_] cH cK 1 [] rfl) (cT [] [_,_] cK cH 1 [] rfl)),List.getElem?_cons_succ]
theorem lv:∀{ι:List Nat} {σ objs:List O} {i:Nat},i∉ι→i<σ.length→ι.length≤objs.length→(mU σ ι objs)[i]? = σ[i]?
 |[],σ,objs,i,_,h,_=>by simp [mU,List.getElem?_append_left h]
 |i'::r,σ,[],i,_,_,h=>by simp at h
 |i'::r,σ,o::os,i,hi,h,hl=>by
  simp only [mU]
  rw [lv (fun q=>hi (List.mem_cons_of_mem _ q)) (by simpa using h) (by simpa using hl)]
  exact List.getElem?_set_ne fun q=>hi (by rw [←q];exact List.mem_cons_self)
theorem uU:∀{ι:List Nat} {σ objs:List O} {j i:Nat},ι.Nodup→(∀i∈ι,i<σ.length)→ι.length≤objs.length→ι[j]? = some i→(mU σ ι objs)[i]? = objs[j]?
 |[],σ,objs,j,i,_,_,_,h=>by simp at h
 |i'::r,σ,[],j,i,_,_,h,_=>by simp at h
 |i'::r,σ,o::os,j,i,hn,hi,hl,h=>by
  simp only [mU]
  refine e0b (List.nodup_cons.mp hn) fun h1 h2=>?_
  have hi':∀i∈r,i<(σ.set i' o).length:=fun x hx=>by simp;exact hi x (List.mem_cons_of_mem _ hx)
  cases j with
  |zero=>
   simp at h;subst h
   rw [lv h1 (by simp;exact hi _ List.mem_cons_self) (by simpa using hl)]
   simp [hi i' List.mem_cons_self]
  |succ j=>simp at h ⊢;exact uU h2 hi' (by simpa using hl) h
theorem y4 {ι:List Nat} (hn:ι.Nodup) {j i:Nat} (h:ι[j]? = some i):i∈ι∧ι.idxOf i=j:=by
 refine e1a (List.getElem?_eq_some_iff.mp h) fun hj zq1=>?_;subst zq1
 exact ⟨List.getElem_mem hj,hn.idxOf_getElem j hj⟩
theorem pb {ι:List Nat} {i:Nat} (h:i∈ι):ι[ι.idxOf i]? = some i:=by
 rw [List.getElem?_eq_getElem (List.idxOf_lt_length_of_mem h),List.getElem_idxOf]
noncomputable def uA (ι:List Nat) (G:Gh):Gh:=⟨G.g,⟨fun j=>match ι[j]? with|some i=>G.k.id i|none=>none,fun j m v=>match ι[j]? with|some i=>G.k.inn i m v|none=>none⟩,
 fun a=>match G.ow a with|some (i+1,m)=>if i∈ι then some (ι.idxOf i+1,m) else none|_=>none⟩
noncomputable def rR (ι:List Nat) (G:Gh) (f:Gm) (h:Heap):Gm:=fun a=>match f a with
 |some o=>some o
 |none=>match G.ow a with
  |some (0,_)=>h.get? a
  |some (i+1,_)=>if i∈ι then none else h.get? a
  |none=>none
noncomputable def ru (ι:List Nat) (N i:Nat):Option Nat:=if i∈ι then some (ι.idxOf i) else if i<N then none else some (ι.length+(i-N))
noncomputable def nZ (ι:List Nat) (N:Nat) (G G':Gh) (fl:Gm):Gh:=⟨G'.g,⟨fun i=>match ru ι N i with|some j=>G'.k.id j|none=>G.k.id i,fun i m v=>match ru ι N i with|some j=>G'.k.inn j m v|none=>G.k.inn i m v⟩,
 fun a=>match fl a with|some _=>G.ow a|none=>match G'.ow a with|some (j+1,m)=>some (sD ι N j+1,m)|_=>none⟩
theorem nX.ren {G G':Gh} {h h':Heap} {i i':Nat} {o:O} (hg:∀a o,G.g a=some o→G'.g a=some o)
  (hid:∀a,G.k.id i=some a→G'.k.id i'=some a) (hi:∀m v,G'.k.inn i' m v=G.k.inn i m v) (ho:∀a j,G.ow a=some (i+1,j)→G'.ow a=some (i'+1,j)∧∀o,h.get? a=some o→h'.get? a=some o)
  (y:nX G h i o):nX G' h' i' o:=by
 cases o with
 |bx b=>refine e1c y fun a e1 e2 e3=>?_;exact ⟨a,hid _ e1,(ho _ _ e2).1,e3.mono hg (ho _ _ e2).2⟩
 |cinst c fs ver=>
  refine e3f y fun a dx sl e1 e2 e3 e4 e5 e6=>?_
  refine ⟨a,dx,sl,hid _ e1,(ho _ _ e2).1,(ho _ _ e2).2 _ e3,hg _ _ e4,fun m x hx=>?_,fun m n a=>by rw [hi];exact e6 m n a⟩
  have:=e5 m x hx
  clear y hid hx e4 e3 e2 e1 dx c e6 e5;cases x with
  |unset=>exact this
  |v p=>refine e1b this fun v e z=>?_;exact ⟨v,e,z.mono hg⟩
  |bx b=>refine e1d this fun a e z1 z2 z3=>?_;exact ⟨a,e,(hi _ _).trans z1,(ho _ _ z2).1,z3.mono hg (ho _ _ z2).2⟩
 |dead=>trivial
section
variable {H0:Heap} {f:Gm} {e:Env} {nm:List (Option Str)} {G:Gh} {st:St} {s:Shared}
theorem Pre.locI (p:Pre H0 f e nm G st s) {ι:List Nat} {objs:List O} (hn:ι.Nodup) (hg:qI st.σ ι=some objs):Inv H0 (rR ι G f s.heap) (uA ι G) objs s.heap:=by
 refine e0b (mE hg) fun hl hat=>?_
 have lf:∀a o,rR ι G f s.heap a=some o→s.heap.get? a=some o∧G.g a=none:=fun a o h=>by
  unfold rR at h
  split at h
  ·rename_i o' q;clear hg;obtain rfl:=sj h;exact ⟨p.inv.ff a _ q,p.inv.fg a _ q⟩
  ·split at h
   ·rename_i q;exact ⟨h,(p.inv.own a _ q).1⟩
   ·rename_i q
    split at h
    ·exact ns h
    ·exact ⟨h,(p.inv.own a _ q).1⟩
   ·exact ns h
 refine ⟨p.inv.base,p.inv.gg,fun a o h=>(lf a o h).1,fun a o h=>(lf a o h).2,fun a x h=>?_,fun j o h=>?_,fun j h=>?_⟩
 ·simp only [uA] at h
  split at h
  ·rename_i i m q
   split at h
   ·rename_i hi
    refine e0c (p.inv.own a _ q) fun h1 h2 h3=>?_
    exact ⟨h1,by simp only [rR,h2,q,if_pos hi],h3⟩
   ·exact ns h
  ·exact ns h
 ·have hj:j<ι.length:=by rw [←hl];exact (List.getElem?_eq_some_iff.mp h).1
  have hi:=List.getElem?_eq_getElem hj
  refine e1b (hat j _ hi) fun o' h1 h2=>?_
  rw [h] at h1;clear hg lf hat;obtain rfl:=sj h1
  refine e0b (y4 hn hi) fun hm hx=>?_
  refine nX.ren (G:=G) (fun _ _ h=>h) (fun a ha=>by simp only [uA,hi];exact ha) (fun m v=>by simp only [uA,hi]) (fun a j' ha=>⟨?_,fun _ h=>h⟩) (p.inv.obj _ _ h2)
  simp only [uA,ha,if_pos hm,hx]
 ·have:ι[j]? = none:=List.getElem?_eq_none (by exact cT [] [_,_,_] ab ae 1 [.j 1 ab ak,.j 1 ak ae] rfl (Nat.le_of_eq (Eq.symm hl)) h)
  simp only [uA,this];exact ⟨trivial,fun _ _=>trivial⟩
theorem yt {ι:List Nat} {N:Nat} (hn:ι.Nodup) (hi:∀i∈ι,i<N) (j:Nat):ru ι N (sD ι N j)=some j:=by
 unfold sD ru
 cases h:ι[j]? with
 |some i=>refine e0b (y4 hn h) fun h1 h2=>?_;simp only [if_pos h1,h2]
 |none=>
  have hl:ι.length≤j:=by
   clear hn;rcases Nat.lt_or_ge j ι.length with q|q
   ·rw [List.getElem?_eq_getElem q] at h;exact sn h
   ·exact q
  dsimp only
  rw [if_neg (fun q=>by have:=hi _ q;exact y3 [] [_,_] [.j 1 (.a (.a (.v 0) (.v 1)) (.n 1)) (.v 0)] rfl this),if_neg (by exact Nat.not_lt.mpr (cT [] [_,_] ab a9 1 [] rfl))]
  congr 1;exact Nat.le_antisymm (cT [] [_,_,_,_,_] a9 ak 1 [.j 1 bS (.a av az),.j 1 (.a az ab) ak] rfl (Nat.le_of_eq (Nat.sub_add_cancel (cT [] [_,_] ab a9 1 [] rfl))) (Nat.le_of_eq (Nat.sub_add_cancel (cT [] [_,_] ab ae 1 [.j 1 ab ae] rfl hl)))) (cT [] [_,_,_,_,_] ab bp 1 [.j 1 (.a av az) bB,.j 1 ab (.a az ae)] rfl (Nat.le_of_eq (Eq.symm (Nat.sub_add_cancel (cT [] [_,_] ab a9 1 [] rfl)))) (Nat.le_of_eq (Eq.symm (Nat.sub_add_cancel (cT [] [_,_] ab ae 1 [.j 1 ab ae] rfl hl)))))
theorem xG {ι:List Nat} {N i j:Nat} (h:ru ι N i=some j):sD ι N j=i:=by
 unfold ru at h
 split at h
 ·rename_i hi;obtain rfl:=sj h;unfold sD;rw [pb hi]
 ·split at h
  ·exact ns h
  ·obtain rfl:=sj h
   unfold sD
   rw [List.getElem?_eq_none (by exact cT [] [_,_] ab a9 1 [] rfl)]
   dsimp only;exact Nat.le_antisymm (cT [] [_,_,_,_,_] a9 ak 1 [.j 1 bS (.a av az),.j 1 (.a az ab) ak] rfl (Nat.le_of_eq (Nat.sub_add_cancel (cT [] [_,_] ab a9 1 [] rfl))) (Nat.le_of_eq (Nat.sub_add_cancel (cT [] [_,_] ab ae 1 [.j 1 ab ae] rfl (Nat.not_lt.mp (by assumption)))))) (cT [] [_,_,_,_,_] ab bp 1 [.j 1 (.a av az) bB,.j 1 ab (.a az ae)] rfl (Nat.le_of_eq (Eq.symm (Nat.sub_add_cancel (cT [] [_,_] ab a9 1 [] rfl)))) (Nat.le_of_eq (Eq.symm (Nat.sub_add_cancel (cT [] [_,_] ab ae 1 [.j 1 ab ae] rfl (Nat.not_lt.mp (by assumption)))))))
theorem Pre.comeBack (p:Pre H0 f e nm G st s) {ι:List Nat} {objs:List O} {G':Gh} {σ':List O} {s':Shared} (hn:ι.Nodup) (hg:qI st.σ ι=some objs)
  (le:(uA ι G).LeN objs.length G') (hlen:objs.length≤σ'.length) (I:Inv H0 (rR ι G f s.heap) G' σ' s'.heap) :
  G.Le (nZ ι st.σ.length G G' (rR ι G f s.heap))∧Pre H0 f e nm (nZ ι st.σ.length G G' (rR ι G f s.heap)) {st with σ:=mU st.σ ι σ'} s'∧
   ∀x v,dL G'.g G'.k x v→dL (nZ ι st.σ.length G G' (rR ι G f s.heap)).g (nZ ι st.σ.length G G' (rR ι G f s.heap)).k (A0 (sD ι st.σ.length) x) v:=by
 refine e0b (mE hg) fun hl hat=>?_
 have hlt:∀i∈ι,i<st.σ.length:=fun i hi=>by
  refine e1b (hat _ _ (pb hi)) fun o _ h=>?_
  exact (List.getElem?_eq_some_iff.mp h).1
 clear hg hat;generalize hN:st.σ.length=N at *
 generalize hfl:rR ι G f s.heap=fl at *
 have hle:∀i a,G.k.id i=some a→(nZ ι N G G' fl).k.id i=some a:=fun i a h=>by
  have hi:i<N:=by
   rcases Nat.lt_or_ge i N with q|q
   ·exact q
   ·rw [(p.inv.dom i (hN▸q)).1] at h;exact ns h
  simp only [nZ]
  cases q:ru ι N i with
  |none=>exact h
  |some j=>
   unfold ru at q
   split at q
   ·rename_i hm;obtain rfl:=sj q
    exact le.id _ a (by rw [hl];exact List.idxOf_lt_length_of_mem hm) (by simp only [uA,pb hm];exact h)
   ·first|cases q|(rw [if_pos hi] at q;cases q)
 have hle2:∀i m v a,G.k.inn i m v=some a→(nZ ι N G G' fl).k.inn i m v=some a:=fun i m v a h=>by
  have hi:i<N:=by
   rcases Nat.lt_or_ge i N with q|q
   ·exact q
   ·rw [(p.inv.dom i (hN▸q)).2] at h;exact ns h
  simp only [nZ]
  cases q:ru ι N i with
  |none=>exact h
  |some j=>
   unfold ru at q
   split at q
   ·rename_i hm;obtain rfl:=sj q
    exact le.inn _ m v a (by rw [hl];exact List.idxOf_lt_length_of_mem hm) (by simp only [uA,pb hm];exact h)
   ·first|cases q|(rw [if_pos hi] at q;cases q)
 have hLe:G.Le (nZ ι N G G' fl):=⟨le.g,hle,hle2⟩
 have kept:∀a x,G.ow a=some x→(∀i m,x=(i+1,m)→i∉ι)→(∃o,fl a=some o):=fun a x h1 h2=>by
  refine e0c (p.inv.own a x h1) fun _ h3 zr=>e1a zr fun o h4=>?_
  refine ⟨o,?_⟩
  rw [←hfl]
  unfold rR
  rw [h3]
  clear hle2 zr;obtain ⟨i,m⟩:=x
  cases i with
  |zero=>simp only [h1];exact h4
  |succ i=>simp only [h1,if_neg (h2 i m rfl)];exact h4
 have flow:∀a o,fl a=some o→s.heap.get? a=some o∧G.g a=none∧(f a=none→∃x,G.ow a=some x):=fun a o h=>by
  rw [←hfl] at h
  unfold rR at h
  split at h
  ·rename_i o' q;clear hle2;obtain rfl:=sj h;exact ⟨p.inv.ff a _ q,p.inv.fg a _ q,fun q'=>by rw [q] at q';exact sn q'⟩
  ·split at h
   ·rename_i q;exact ⟨h,(p.inv.own a _ q).1,fun _=>⟨_,q⟩⟩
   ·rename_i q
    split at h
    ·exact ns h
    ·exact ⟨h,(p.inv.own a _ q).1,fun _=>⟨_,q⟩⟩
   ·exact ns h
 have owK:∀a x,G.ow a=some x→(∀i m,x=(i+1,m)→i∉ι)→(nZ ι N G G' fl).ow a=some x∧∀o,s.heap.get? a=some o→s'.heap.get? a=some o:=fun a x h1 h2=>by
  refine e1a (kept a x h1 h2) fun o ho=>?_
  refine ⟨by simp only [nZ,ho];exact h1,fun o' h=>?_⟩
  rw [(flow a o ho).1] at h;clear hle2 flow kept;obtain rfl:=sj h
  exact I.ff a _ ho
 have owN:∀a j m,G'.ow a=some (j+1,m)→(nZ ι N G G' fl).ow a=some (sD ι N j+1,m):=fun a j m h=>by
  have:=(I.own a _ h).2.1
  simp only [nZ,this,h]
 refine ⟨hLe,⟨⟨fun a o h=>le.g a o (p.inv.base a o h),I.gg,fun a o h=>I.ff a o ?_,fun a o h=>I.fg a o ?_,fun a x h=>?_,fun i o h=>?_,fun i h=>?_⟩,?_,p.len⟩,fun x v h=>?_⟩
 ·rw [←hfl];simp only [rR,h]
 ·rw [←hfl];simp only [rR,h]
 ·simp only [nZ] at h
  split at h
  ·rename_i o q
   exact ⟨I.fg a o q,(p.inv.own a x h).2.1,o,I.ff a o q⟩
  ·rename_i q
   split at h
   ·rename_i j m q2
    refine e0c (I.own a _ q2) fun h1 h2 h3=>?_
    refine ⟨h1,?_,h3⟩
    clear h3 h1 hle2 flow kept h2;cases q3:f a with
    |none=>rfl
    |some o=>rw [←hfl] at q;simp only [rR,q3] at q;exact sn q
   ·exact ns h
 ·dsimp only at h
  have hi:i<(mU st.σ ι σ').length:=(List.getElem?_eq_some_iff.mp h).1
  rw [mA (by exact cT [] [_,_,_] ab ae 1 [.j 1 ak ae,.j 1 ab ak] rfl hlen (Nat.le_of_eq (Eq.symm hl))),hN] at hi
  clear hfl hle2 flow kept;cases q:Fb.ru ι N i with
  |some j=>
   have hb:=xG q
   have hj:σ'[j]? = some o:=by
    unfold Fb.ru at q
    split at q
    ·rename_i hm;obtain rfl:=sj q
     rw [←h,uU hn (fun i hi=>hN▸hlt i hi) (by exact cT [] [_,_,_] ab ae 1 [.j 1 ak ae,.j 1 ab ak] rfl hlen (Nat.le_of_eq (Eq.symm hl))) (pb hm)]
    ·split at q
     ·exact ns q
     ·obtain rfl:=sj q
      rw [←h,←sR (σ:=st.σ) (by exact cT [] [_,_,_] ab ae 1 [.j 1 ak ae,.j 1 ab ak] rfl hlen (Nat.le_of_eq (Eq.symm hl))) (fun i hi=>hN▸hlt i hi),hN]
      congr 1;exact Nat.le_antisymm (cT [] [_,_,_] a9 ak 1 [.j 1 bT ak] rfl (Nat.le_of_eq (Nat.sub_add_cancel (cT [] [_,_] ab ae 1 [.j 1 ab ae] rfl (Nat.not_lt.mp (by assumption)))))) (cT [] [_,_,_] ab bp 1 [.j 1 ab bC] rfl (Nat.le_of_eq (Eq.symm (Nat.sub_add_cancel (cT [] [_,_] ab ae 1 [.j 1 ab ae] rfl (Nat.not_lt.mp (by assumption)))))))
   refine nX.ren (G:=G') (fun _ _ h=>h) (fun a ha=>by simp only [nZ,q];exact ha) (fun m v=>by simp only [nZ,q]) (fun a j' ha=>⟨?_,fun _ h=>h⟩) (I.obj j o hj)
   rw [owN a j j' ha,hb]
  |none=>
   have hm:i∉ι:=fun hm=>by unfold Fb.ru at q;rw [if_pos hm] at q;exact sn q
   have hiN:i<N:=by
    unfold Fb.ru at q;rw [if_neg hm] at q
    split at q
    ·assumption
    ·exact sn q
   rw [lv hm (hN▸hiN) (by exact cT [] [_,_,_] ab ae 1 [.j 1 ak ae,.j 1 ab ak] rfl hlen (Nat.le_of_eq (Eq.symm hl)))] at h
   exact nX.ren (G:=G) le.g (hle i) (fun m v=>by simp only [nZ,q]) (fun a j' ha=>owK a _ ha fun i' m' e=>by clear hle hi hiN;cases e;exact hm) (p.inv.obj i o h)
 ·dsimp only at h
  rw [mA (by exact cT [] [_,_,_] ab ae 1 [.j 1 ak ae,.j 1 ab ak] rfl hlen (Nat.le_of_eq (Eq.symm hl))),hN] at h
  have hm:i∉ι:=fun hm=>by have:=hlt i hm;exact y3 [] [_,_,_] [.j 1 (.a (.v 0) (.v 1)) (.v 2), .j 1 (.a (.v 2) (.n 1)) (.v 0)] rfl h this
  have q:Fb.ru ι N i=some (ι.length+(i-N)):=by unfold Fb.ru;rw [if_neg hm,if_neg (by exact Nat.not_lt.mpr (cT [] [_,_,_] ab ae 1 [.j 1 bI ae] rfl h))]
  simp only [nZ,q]
  exact I.dom _ (by exact cT [] [_,_,_,_,_,_] ab bp 1 [.j 1 (.a av az) aL,.j 1 ab (.a az ae),.j 1 aL bB] rfl h (Nat.le_of_eq (Eq.symm (Nat.sub_add_cancel (cT [] [_,_,_] ab ae 1 [.j 1 ak ae,.j 1 ab ak] rfl hlen (Nat.le_of_eq (Eq.symm hl)))))) (Nat.le_of_eq (Eq.symm (Nat.sub_add_cancel (cT [] [_,_,_,_,_,_] ab ae 1 [.j 1 ak av,.j 1 az ak,.j 1 (.a ab aL) ae,.j 1 av (.a aL az)] rfl hlen (Nat.le_of_eq (Eq.symm hl)) h (Nat.le_of_eq (Eq.symm (Nat.sub_add_cancel (cT [] [_,_,_] ab ae 1 [.j 1 ak ae,.j 1 ab ak] rfl hlen (Nat.le_of_eq (Eq.symm hl)))))))))))
 ·have zV:∀a j,G.ow a=some (0,j)→(nZ ι N G G' fl).ow a=some (0,j)∧∀o,s.heap.get? a=some o→s'.heap.get? a=some o:=fun a j h=>owK a _ h fun i m e=>by clear hfl hN I hlen σ';cases e
  exact (p.fr.le hLe fun a j h=>(zV a j h).1).keep fun a j h=>by
   simp only [nZ] at h
   split at h
   ·exact (zV a j h).2
   ·split at h
    ·clear hfl hN I hlen le σ' p;cases h
    ·exact ns h
 ·refine dL.ren (fun _ _ h=>h) x [] (fun i _=>?_) h
  have:=yt (N:=N) hn hlt i
  exact ⟨fun a ha=>by simp only [nZ,this];exact ha,fun m n a ha=>by simp only [nZ,this];exact ha⟩
end
end
section
noncomputable def wU (H0:Heap) (prog:Program) (wd:World) (n:Nat) (Pk:Pg):Prop:=∀fa ctr,Pk.Φ fa=some ctr→nY H0 prog wd n fa ctr
section
variable {prog:Program} {wd:World} {A:Around} {H0:Heap} {e:Env} {nm:List (Option Str)} {Pk:Pg} {f:Gm} {G:Gh} {st:St} {s:Shared} {n:Nat}
theorem yL.mono {g g':Gm} (hg:∀a o,g a=some o→g' a=some o):∀{l:List (Str × P)} {k:List (Str × Value)},yL g l k→yL g' l k
 |[],_,h=>h
 |(_,_)::_,_,⟨v,t,h1,h2,h3⟩=>⟨v,t,h1,h2.mono hg,h3.mono hg⟩
theorem o7 {fa:Addr} {args:List V} {kws:List (Str × P)} {Q:V→St→Prop} (h:fj Pk fa args kws st Q):∃ctr,Pk.Φ fa=some ctr:=by
 unfold fj at h
 refine e1b (eT h) fun ctr hc _=>?_
 exact ⟨ctr,hc⟩
theorem o8 {fa:Addr} {args:List V} {kws:List (Str × P)} {vs:List Value} {kvs:List (Str × Value)} {Q:V→St→Prop} (hP:wU H0 prog wd n Pk) (gd:p6 n A) (p:Pre H0 f e nm G st s)
  (hv:du G.g G.k args vs) (hk:yL G.g kws kvs) (h:fj Pk fa args kws st Q):eW (model prog wd) A (.call (.ref fa) ⟨vs,kvs⟩) (fun fl s'=>match fl with|.ret v=>dH H0 f e nm G s st.σ.length Q v s'|_=>False) s:=by
 unfold fj at h
 refine e1b (eT h) fun ctr hc h=>?_
 refine e1b (eT h) fun objs hg h=>?_
 have hn:(f8 args []).Nodup:=gO args [] List.nodup_nil
 have I:=p.locI hn hg
 refine dY ((hP fa ctr hc).call A _ _ s objs _ kws vs kvs _ gd I ?_ ?_ hk h) fun fl s' hh=>?_
 ·intro a j h0
  simp only [uA] at h0
  split at h0
  ·split at h0
   ·clear hc;cases h0
   ·exact ns h0
  ·exact ns h0
 ·refine du.ren (fun _ _ h=>h) args [] (fun i hi=>?_) hv
  have:=pb hi
  exact ⟨fun a ha=>by simp only [uA,this];exact ha,fun m n a ha=>by simp only [uA,this];exact ha⟩
 ·refine e1b hh fun v hfl zr=>e3f zr fun G' σ' x sm le hl I' hx q=>?_
  clear h hk hv gd hP kvs vs I zr hh;subst hfl
  refine e0b (mE hg) fun hl1 hl2=>?_
  refine e0c (p.comeBack hn hg le hl I') fun h1 h2 h3=>?_
  refine ⟨_,_,_,sm,h1,?_,h2,h3 _ _ hx,q⟩
  dsimp only
  rw [mA (by exact cT [] [_,_,_] ab ae 1 [.j 1 ak ae,.j 1 ab ak] rfl hl (Nat.le_of_eq (Eq.symm hl1)))];exact cT [] [_,_] ab a9 1 [] rfl
theorem tG {fa:Addr} {args:List V} {kws:List (Str × P)} {vs:List Value} {kvs:List (Str × Value)} {Q:V→St→Prop} (hP:wU H0 prog wd n Pk) (gd:p6 n A) (p:Pre H0 f e nm G st s)
  (hv:du G.g G.k args vs) (hk:yL G.g kws kvs) (h:fj Pk fa args kws st Q):wpN (model prog wd) A (_root_.PySem.call (.ref fa) vs kvs) (dH H0 f e nm G s st.σ.length Q) s:=
 wpN_call (o8 hP gd p hv hk h)
theorem fB {pos:Pos} {fv:Value} {first:List Value} {args:List (Bool × Sem Value)} {keywords:List (Option Str × Sem Value)} {Q:Value→Shared→Prop} {R:Args→Shared→Prop}
  (ha:wpN (model prog wd) A (evalArgs fv true args keywords) R s)
  (hk:∀a s',R a s'→(∃kp,Looks (model prog wd) s'.heap (keeperOf fv) kp)∧wpN (model prog wd) A (_root_.PySem.call fv (first++a.pos) a.kw) Q s') :
  wpN (model prog wd) A (callWith pos fv first args keywords) Q s:=by
 unfold callWith
 refine cO (cR (cV ha fun a s' hR=>?_))
 refine e0b (hk a s' hR) fun zn1 hc=>?_;refine e1a zn1 fun kp hkp=>?_
 refine cS ?_
 dsimp only
 refine cX (hkp.here ?_)
 have tail:∀{t:Sem Value},wpN (model prog wd) A t Q s'→wpN (model prog wd) A (t>>=fun r=>holding [r] point>>=fun _=>pure r) Q s':=
  fun ht=>cO (cV ht fun r s₂ hr=>cO (cR (cQ (wpAny_point (wpN_pure hr)))))
 clear hk ha pos hkp zn1 hR;split
 ·exact tail (pi hc)
 ·clear R;split
  ·exact tail hc
  ·exact tail (pi hc)
 ·clear R;split
  ·exact tail hc
  ·exact tail (pi hc)
 ·exact tail hc
 ·exact tail (d6 hc)
theorem fY {fv:Value} {args:List (Bool × Sem Value)} {R:Args→Shared→Prop} (hne:∀x,args≠[(true,x)]) (h:wpN (model prog wd) A (spliced args) (fun vs s'=>R ⟨vs,[]⟩ s') s) :
  wpN (model prog wd) A (evalArgs fv true args []) R s:=by
 have go:∀vs s',R ⟨vs,[]⟩ s'→wpN (model prog wd) A (holding (vs++(none:Option Value).toList) (do
   if ([]:List (Option Str × Sem Value)).all (·.1.isSome) then
    let kw:=(([]:List (Option Str × Sem Value)).filterMap (·.1)).zip (←evalAll (([]:List (Option Str × Sem Value)).map (·.2)))
    return ⟨←(pure vs:Sem (List Value)),kw⟩
   let d ←mergedKeywords fv []
   let pos ←(pure vs:Sem (List Value))
   return ⟨pos,←holding (.ref d::pos) (keywordsIn fv d)⟩)) R s':=fun vs s' hR=>cR (dW rfl (cO (wpN_pure (cO (wpN_pure (wpN_pure hR))))))
 unfold evalArgs
 cases args with
 |nil=>exact cO (m:=spliced []) (cV h fun vs s' hR=>go vs s' hR)
 |cons a r=>
  obtain ⟨b,x⟩:=a
  cases b with
  |false=>exact cO (m:=spliced ((false,x)::r)) (cV h fun vs s' hR=>go vs s' hR)
  |true=>
   cases r with
   |nil=>exact absurd rfl (hne x)
   |cons b r=>exact cO (m:=spliced ((true,x)::b::r)) (cV h fun vs s' hR=>go vs s' hR)
theorem pj {fv:Value} {args:List (Bool × Sem Value)} {kn:Str} {kt:Sem Value} {R:Args→Shared→Prop} (hne:∀x,args≠[(true,x)])
  (h:wpN (model prog wd) A (spliced args) (fun vs s'=>wpN (model prog wd) A kt (fun k s''=>R ⟨vs,[(kn,k)]⟩ s'') s') s) :
  wpN (model prog wd) A (evalArgs fv true args [(some kn,kt)]) R s:=by
 have go:∀vs s',wpN (model prog wd) A kt (fun k s''=>R ⟨vs,[(kn,k)]⟩ s'') s'→wpN (model prog wd) A (holding (vs++(none:Option Value).toList) (do
   if ([(some kn,kt)]:List (Option Str × Sem Value)).all (·.1.isSome) then
    let kw:=(([(some kn,kt)]:List (Option Str × Sem Value)).filterMap (·.1)).zip (←evalAll (([(some kn,kt)]:List (Option Str × Sem Value)).map (·.2)))
    return ⟨←(pure vs:Sem (List Value)),kw⟩
   let d ←mergedKeywords fv [(some kn,kt)]
   let pos ←(pure vs:Sem (List Value))
   return ⟨pos,←holding (.ref d::pos) (keywordsIn fv d)⟩)) R s':=fun vs s' hR=>cR (dW rfl (by
  refine cO ?_
  refine (?_:wpN _ _ (kt>>=fun v=>holding [v] (evalAll [])>>=fun r=>pure (v::r)) _ _)
  refine cO (cV hR fun k s'' hK=>?_)
  exact cO (cR (wpN_pure (wpN_pure (cO (wpN_pure (wpN_pure hK))))))))
 unfold evalArgs
 cases args with
 |nil=>exact cO (m:=spliced []) (cV h fun vs s' hR=>go vs s' hR)
 |cons a r=>
  obtain ⟨b,x⟩:=a
  cases b with
  |false=>exact cO (m:=spliced ((false,x)::r)) (cV h fun vs s' hR=>go vs s' hR)
  |true=>
   cases r with
   |nil=>exact absurd rfl (hne x)
   |cons b r=>exact cO (m:=spliced ((true,x)::b::r)) (cV h fun vs s' hR=>go vs s' hR)
end
end
section
open Builtin Builtin.Bytes
section
variable {prog:Program} {wd:World} {A:Around} {s:Shared}
theorem rF:typeLookup (.type "bytearray") "__bytes__" = pure none:=by rw [typeLookup_type,builtinLookup_eq_fast];kernel_rfl
theorem oi:typeLookup (.type "bytes") "__bytes__" = pure (some (.builtin "bytes.__bytes__")):=by rw [typeLookup_type,builtinLookup_eq_fast];kernel_rfl
theorem vj {v:Value} {b:Array UInt8} {Q:Value→Shared→Prop} (hv:iR s.heap v b) (hz:b.size≤sizeLine)
  (hQ:∀t k,Q (.bytes b t) {s with toks:=k}) :
  codeAny (model prog wd) A (.call (.builtin "bytes.__new__") ⟨[.type "bytes",v],[]⟩) (wants Q noE) s:=by
 refine codeAny_of_tree ?_
 refine (?_:wpAny _ A.in1 (do checkBuiltinCall "bytes.__new__" ⟨[.type "bytes",v],[]⟩;again (.builtin "bytes.__new__" ⟨[.type "bytes",v],[]⟩)) _ _ s)
 refine wpAny_bind (wpAny_of_eq (F.bm_newCall _) (wpAny_pure ⟨plainId_quiet F.bm_plain _,codeAny_builtin F.bm_entry ?_⟩))
 rw [Around.under_plainId F.bm_plain _]
 unfold Builtin.«bytes.__new__»
 refine wpAny_bind (wpAny_of_eq (a:=true) rfl ?_)
 refine bm_if_false rfl ?_
 refine wpAny_bind (wpAny_of_eq F.bm_sub ?_)
 refine bm_if_false rfl ?_
 refine wpAny_bind (wpAny_of_eq (F.bm_bind _) ?_)
 refine wpAny_bind (wpAny_of_eq (a:=()) rfl ?_)
 refine wpAny_bind (wpAny_of_eq (a:=()) rfl ?_)
 refine bm_if_false rfl ?_
 rcases hv with ⟨t,rfl⟩|⟨a,rfl,ha⟩
 ·have T:Looks (model prog wd) s.heap (typeOf (.bytes b t)) (.type "bytes"):=Looks.of_pure rfl
  refine wpAny_bind ((dz T oi).here ?_)
  refine wpAny_bind (wpAny_rule ?_)
  refine wpAny_bind (T.here ?_)
  refine bm_if_true rfl ?_
  exact wpAny_pure (by have:=hQ t s.toks;exact this)
 ·have T:Looks (model prog wd) s.heap (typeOf (.ref a)) (.type "bytearray"):=eF ha rfl
  refine wpAny_bind ((dz T rF).here ?_)
  refine wpAny_bind (wpAny_bind ?_)
  refine (?_:wpAny _ _ (load a>>=_) _ _ _)
  refine wpAny_bind (wpAny_load ha ?_)
  refine wpAny_pure (wpAny_pure ?_)
  refine bm_if_false rfl ?_
  refine wpAny_bind ((dz T mP).here ?_)
  refine bm_if_true rfl ?_
  refine wpAny_bind (m:=Builtin.Bytes.buffer? "bytes.__new__" (.ref a) true) (ri (.inr ⟨a,rfl,ha⟩) ?_)
  refine wpAny_bind (wpAny_rule ?_)
  refine wpAny_bind (m:=mkBytes b) ?_
  unfold mkBytes
  rw [if_neg (by lia)]
  refine wpAny_bind (m:=fresh) (fun _ _ _=>?_)
  exact wpAny_pure (wpAny_pure (hQ _ _))
theorem uk {v:Value} {b:Array UInt8} {Q:Value→Shared→Prop} (hv:iR s.heap v b) (hz:b.size≤sizeLine)
  (hQ:∀t k,Q (.bytes b t) {s with toks:=k}):wpAny (model prog wd) A (PySem.call (.type "bytes") [v]) Q noE s:=by
 refine callType_codes (Q₁:=fun obj s₁=>s₁.TypeIs obj "bytes"∧Q obj s₁) F.bm_called (F.bm_typeCall _) F.entry_object_init
  (vj hv hz fun t k=>⟨PySem.W.typeIs_bytes _ _ _,hQ t k⟩) fun obj s₁ h₁=>?_
 exact ⟨h₁.1,F.args_object_init_2 obj _,object_init_meets F.bm_called.init.lookup F.bm_called.made (by decide) prog wd A.in1 _ s₁ ⟨h₁.1,rfl,h₁.2⟩⟩
theorem mT:Slot "bytearray" "__len__" "bytearray.__len__":=
 .of (owner:="bytearray") (n:="__len__") (by rw [typeLookup_type,builtinLookup_eq_fast];kernel_rfl) (by decide +kernel) (by decide +kernel) (by decide +kernel)
  (by first|exact .inl (by decide +kernel)|exact .inr (by decide +kernel)) (by rw [isSubtype_type];kernel_rfl)
theorem qM:entryFor table "bytearray.__len__" = some Builtin.«bytearray.__len__»:=entryFor_of_tree (by kernel_rfl)
theorem sI (a:Value):argsOk "bytearray.__len__" ⟨[a],[]⟩:=by unfold argsOk;kernel_rfl
theorem sv {a:Addr} {b:Array UInt8} {Q:Value→Shared→Prop} (ha:s.heap.get? a=some (eP b)) (hz:b.size<2 ^ 63)
  (h:Q (.int b.size (s.toks+1)) {s with toks:=s.toks+1+1}):wpAny (model prog wd) A (PySem.call (.builtin "len") [.ref a]) Q noE s:=by
 have hT:s.TypeIs (.ref a) "bytearray":=⟨_,ha,rfl⟩
 refine Calls.call_function_entry kind_len plain_len entry_len (args_len1 _) ?_
 unfold Builtin.«len»
 refine wpAny_bind (m:=oneArg "len" _) (wpAny_pure ?_)
 refine wpAny_bind (m:=callSpecial? _ (Str.ofString "__len__")) (wpAny_callSpecial?_slot (name:=Str.ofString "__len__") hT mT
  (wpAny_call_entry mT hT qM ?_ (sI _)))
 unfold Builtin.«bytearray.__len__»
 refine wpAny_bind (wpAny_pure ?_)
 refine wpAny_bind (m:=payload (.ref a)) ?_
 unfold payload
 refine wpAny_bind (m:=payload? (.ref a)) ?_
 unfold payload?
 refine wpAny_bind (wpAny_load ha ?_)
 refine wpAny_pure (wpAny_pure ?_)
 refine wpAny_bind (wpAny_mkInt (wpAny_pure ⟨_,rfl,?_⟩))
 refine (?_:wpAny _ _ _ _ _ {s with toks:=s.toks+1})
 refine wpAny_bind (wpAny_holding (wpAny_pure ?_))
 refine wpAny_bind (wpAny_letGo ?_)
 refine (?_:wpAny _ _ (if (b.size:Int)<0 then _ else _) _ _ _)
 rw [if_neg (by exact Int.not_lt.mpr (lin [] [_] ai af 1 [] rfl))]
 refine (?_:wpAny _ _ (if (b.size:Int)≥2 ^ 63 then _ else _) _ _ _)
 rw [if_neg (by lia)]
 exact wpAny_bind (wpAny_mkInt (wpAny_pure ⟨_,rfl,h⟩))
end
end
section
section
variable {prog:Program} {wd:World} {A:Around} {H0:Heap} {e:Env} {nm:List (Option Str)} {Pk:Pg} {f:Gm} {G:Gh} {st:St} {s:Shared} {n:Nat}
theorem dN {h:Heap} {a:Addr} {vs:List Value} {k:Nat} (x:h.get? a=some (oB vs k)):h.IsList a vs.toArray:=⟨_,x,rfl,k,rfl⟩
theorem z9 {x:V} {a:Value} {Q:V→St→Prop} (p:Pre H0 f e nm G st s) (hx:dL G.g G.k x a) (h:DS x st Q) :
  wpN (model prog wd) A (_root_.PySem.call (.builtin "len") [a]) (dH H0 f e nm G s st.σ.length Q) s:=by
 have key:dE st.σ x (fun b=>DT b st Q)→wpN (model prog wd) A (_root_.PySem.call (.builtin "len") [a]) (dH H0 f e nm G s st.σ.length Q) s:=fun hw=>by
  refine e3e (p.box hx hw) fun ad b key zq3 _ hb hr _=>?_;subst zq3
  clear hw h
  cases b with
  |lst l=>
   refine e2b hr fun vs k ho hv=>?_
   have hl:=hv.length
   refine cQ (call_len_list (dN ho) (by rw [List.size_toArray,hl];have:=hb.1;lia) ?_)
   rw [List.size_toArray,hl];exact .tok p og hb.2
  |ba l=>exact cQ (sv hr (by rw [List.size_toArray];have:=hb.1;lia) (by rw [List.size_toArray];exact .tok p og hb.2))
  |dict l=>exact hb.elim
 cases x with
 |p x=>
  clear key
  cases x with
  |lst l=>
   refine e4d hx fun ad o vs k zq4 ho zq6 hv=>?_;clear hx;subst zq4 zq6
   have hl:=hv.length
   refine cQ (call_len_list (dN (p.inv.gg _ _ ho)) (by rw [List.size_toArray,hl];have:=h.1;lia) ?_)
   rw [List.size_toArray,hl];exact .tok p og h.2
  |tup l=>
   refine e4d hx fun ad o vs k zq4 ho zq6 hv=>?_;clear hx;subst zq4 zq6
   have hl:=hv.length
   refine cQ (PySem.P.len_tuple (p.inv.gg _ _ ho) (by rw [List.size_toArray,hl];have:=h.1;lia) ?_)
   rw [List.size_toArray,hl];exact .tok p og h.2
  |bytes l=>
   refine e1a hx fun t zq1=>?_;clear hx;subst zq1
   exact cQ (PySem.W.len_bytes (by rw [List.size_toArray];have:=h.1;exact cT [] [_] ab (.n 1099511627776) 1 [.j 1 ab aq] rfl this) (by rw [List.size_toArray];exact .tok p og h.2))
  |_=>exact h.elim
 |_=>exact key h
theorem mM {v:V} {x:Value} {K:List UInt8→Prop} (p:Pre H0 f e nm G st s) (hv:dL G.g G.k v x) (h:uF st.σ v K):∃b,iR s.heap x b.toArray∧K b:=by
 unfold uF at h
 split at h
 ·refine e1a hv fun t zq1=>?_;clear hv;subst zq1;exact ⟨_, .inl ⟨t,rfl⟩,h⟩
 ·exact h.elim
 ·refine e3e (p.box hv h) fun a b key zq3 _ hb hr _=>?_;subst zq3
  clear h hv p;cases b with
  |ba l=>exact ⟨l, .inr ⟨a,rfl,hr⟩,hb⟩
  |_=>exact hb.elim
theorem Pre.vm (p:Pre H0 f e nm G st s) {h':Heap} {b:List UInt8} {Q:V→St→Prop} (hk:∀x o,s.heap.get? x=some o→h'.get? x=some o) (hn:h'.get? s.heap.objs.size=some (eP b.toArray))
  (q:Q (.ref st.σ.length) {st with σ:=st.σ++[.bx (.ba b)]}) {t:Nat}:dH H0 f e nm G s st.σ.length Q (.ref s.heap.objs.size) {s with heap:=h',toks:=t}:=by
 refine e0c (p.fresh (Nat.le_refl _)) fun f1 f2 f3=>?_
 refine e1d ((p.keeps (s':={s with heap:=h',toks:=t}) hk).adopt (b:=.ba b) (a:=s.heap.objs.size) hn f1 f2 f3) fun G' le p' i' g'=>?_
 exact ⟨G',_, .ref st.σ.length,⟨rfl,rfl,rfl⟩,le,by simp,p',⟨_,i',rfl⟩,q⟩
theorem su {a b:Int} {t u:Tok} {Q:V→St→Prop} (hA:A.handled=none) (p:Pre H0 f e nm G st s) (h:Q (.p (.int (min a b))) st) :
  wpN (model prog wd) A (_root_.PySem.call (.builtin "min") [.int a t, .int b u]) (dH H0 f e nm G s st.σ.length Q) s:=by
 refine cQ (min_two_ints hA fun h' tk hk=>?_)
 refine .leaf (p.keeps hk) ⟨rfl,rfl,rfl⟩ (x:=.p (.int (min a b))) ?_ h
 by_cases q:b<a
 ·rw [if_pos q,show min a b=b by exact (Int.le_antisymm (lin [_,_] [] aa an 1 [.i 1 aa an] rfl (Int.le_of_eq (Int.min_eq_right (lin [_,_] [] aa an 1 [.i 1 be an] rfl q)))) (lin [_,_] [] aa an 1 [.i 1 aa an] rfl (Int.le_of_eq (Eq.symm (Int.min_eq_right (lin [_,_] [] aa an 1 [.i 1 be an] rfl q))))))];exact og
 ·rw [if_neg q,show min a b=a by exact (Int.le_antisymm (lin [_,_] [] aa an 1 [.i 1 aa an] rfl (Int.le_of_eq (Int.min_eq_left (lin [_,_] [] aa an 1 [.i 1 aa an] rfl (Int.not_lt.mp q))))) (lin [_,_] [] aa an 1 [.i 1 aa an] rfl (Int.le_of_eq (Eq.symm (Int.min_eq_left (lin [_,_] [] aa an 1 [.i 1 aa an] rfl (Int.not_lt.mp q)))))))];exact og
theorem du.cons {g:Gm} {k:lI} {x:V} {xs:List V} {vs:List Value} (h:du g k (x::xs) vs):∃v r,vs=v::r∧dL g k x v∧du g k xs r:=h
theorem lK {σ:List O} {v:V} {K K':Bx→Prop} (h:dE σ v K) (hK:∀b,K b→K' b):dE σ v K':=by
 cases v with
 |ref i=>
  simp only [dE] at *
  split at h
  ·exact hK _ h
  ·exact h.elim
 |inn i k n=>
  simp only [dE] at *
  split at h
  ·refine e0b h fun h1 h2=>?_
   refine ⟨h1,?_⟩
   split at h2
   ·exact hK _ h2
   ·exact h2.elim
  ·exact h.elim
 |_=>exact h.elim
theorem po {σ:List O} {v:V} {K K':List P→Prop} (h:dQ σ v K) (hK:∀l,K l→K' l):dQ σ v K':=by
 cases v with
 |p x=>cases x<;>first|exact h.elim|exact hK _ h
 |ref i=>exact lK (σ:=σ) (v:=.ref i) h fun b hb=>by cases b<;>first|exact hK _ hb|exact hb
 |inn i k n=>exact lK (σ:=σ) (v:=.inn i k n) h fun b hb=>by cases b<;>first|exact hK _ hb|exact hb
 |_=>exact h.elim
theorem kj (ns:List Int):∀j,j≤ns.length→preSum (fun i=>(ns[i]?).getD 0) j=(ns.take j).sum
 |0,_=>by simp [preSum]
 |j+1,h=>by
  unfold preSum
  rw [kj ns j (by exact cT [] [_,_] ab ae 1 [.j 1 a8 ae] rfl h),List.take_add_one,List.sum_append,List.getElem?_eq_getElem (by exact (cT [] [_,_] a8 ae 1 [.j 1 a8 ae] rfl h):j<ns.length)]
  simp
theorem qe (B:Int):∀(ns:List Int),(∀n∈ns,-B≤n∧n≤B)→-(B*ns.length)≤ns.sum∧ns.sum≤B*ns.length
 |[],_=>by simp
 |n::ns,h=>by
  have h1:=h n List.mem_cons_self
  have h2:=qe B ns fun m hm=>h m (List.mem_cons_of_mem _ hm)
  simp only [List.sum_cons,List.length_cons]
  push_cast
  rw [Int.mul_add];exact And.intro (lin [_,_,_,_] [] (.g (.a aa (.r an 1))) (.a aB aN) 1 [.i 1 (.g an) aB,.i 1 bW aN] rfl (And.left h1) (And.left h2)) (lin [_,_,_,_] [] bl (.a aB (.r aN 1)) 1 [.i 1 aa aN,.i 1 an aB] rfl (And.right h1) (And.right h2))
theorem vS {g:Gm}:∀{ns:List Int} {vs:List Value},dJ g (ns.map .int) vs→∀(i:Nat) (v:Value),vs[i]? = some v→∃t,v=.int ((ns[i]?).getD 0) t
 |[],_,h,i,v,hv=>by subst h;simp at hv
 |n::ns,_,h,i,v,hv=>by
  refine e2c h fun u r zq2 zn1 h2=>?_;clear h;subst zq2;refine e1a zn1 fun t zq1=>?_;clear zn1;subst zq1
  cases i with
  |zero=>simp at hv;subst hv;exact ⟨t,by simp⟩
  |succ i=>simpa using vS h2 i v (by simpa using hv)
theorem sr {ad:Addr} {ns:List Int} {vs:List Value} {k:Nat} {Q:V→St→Prop} (hA:A.handled=none) (p:Pre H0 f e nm G st s) (ho:s.heap.get? ad=some (oB vs k)) (hv:dJ G.g (ns.map .int) vs)
  (hb:∀n∈ns,-(2 ^ 40)≤n∧n≤2 ^ 40) (hl:ns.length≤1048576) (h:Q (.p (.int ns.sum)) st) :
  wpN (model prog wd) A (_root_.PySem.call (.builtin "sum") [.ref ad]) (dH H0 f e nm G s st.σ.length Q) s:=by
 have had:ad<s.heap.objs.size:=Heap.lt_size ho
 have hlen:vs.length=ns.length:=by have:=hv.length;simpa using this
 refine cQ (call_sum_walk (wpAny_pyIter_list (dN ho) ?_))
 refine ⟨s.heap.objs.size,[s.heap.objs.size,ad],[s.heap.objs.size],vs.toArray.size,(fun i v=>vs.toArray[i]? = some v),(fun i h=>h.IsListIter s.heap.objs.size ad i∧h.IsList ad vs.toArray),fun i=>(ns[i]?).getD 0,rfl,Walks.list (A:=A.in1) hA s.heap.objs.size ad (Nat.ne_of_lt had) vs.toArray,
  ⟨⟨_,Heap.get?_push_size _ rfl,rfl,rfl⟩,(dN ho).push _⟩,?_,?_,?_,?_⟩
 ·intro b hb
  refine (?_:b<(s.heap.push _).objs.size)
  rw [Heap.size_push]
  simp at hb
  clear ho hA k;rcases hb with rfl|rfl
  ·exact Nat.lt_succ_self _
  ·exact Nat.lt_succ_of_lt had
 ·intro i v hi
  exact vS hv i v (by simpa using hi)
 ·intro j hj
  rw [List.size_toArray,hlen] at hj
  refine ⟨?_,?_⟩
  ·have:=hb _ (List.getElem_mem hj)
   unfold InLong;dsimp only;rw [List.getElem?_eq_getElem hj];simp only [Option.getD_some];lia
  ·rw [kj ns (j+1) (by exact cT [] [_,_] a8 ae 1 [.j 1 a8 ae] rfl hj)]
   have:=qe (2 ^ 40) (ns.take (j+1)) fun n hn=>hb n (List.mem_of_mem_take hn)
   have h2:(ns.take (j+1)).length≤1048576:=by rw [List.length_take];exact cT [] [_,_,_] ab aC 1 [.j 1 ae aC,.j 1 bt ae,.j 1 ab bt] rfl hl hj (Nat.le_of_eq (Nat.min_eq_left (cT [] [_,_] a8 ae 1 [.j 1 a8 ae] rfl hj)))
   unfold InLong
   lia
 ·intro h' tk t' hk
  rw [List.size_toArray,hlen,kj ns _ (Nat.le_refl _),List.take_length]
  refine .leaf (p.keeps fun b o hb=>?_) ⟨rfl,rfl,rfl⟩ og h
  exact hk b o (by simp;exact Nat.ne_of_lt (Heap.lt_size hb)) (Heap.get?_push_of_some _ hb)
theorem du.head {g:Gm} {k:lI} {x:V} {r:List V} {vs:List Value} (h:du g k (x::r) vs):∃v ws,vs=v::ws∧dL g k x v∧du g k r ws:=h
theorem du.only {g:Gm} {k:lI} {x:V} {vs:List Value} (h:du g k [x] vs):∃v,vs=[v]∧dL g k x v:=by
 refine e2c h fun v ws zq2 hx hr=>?_;clear h;subst zq2
 subst hr
 exact ⟨v,rfl,hx⟩
theorem du.two {g:Gm} {k:lI} {x y:V} {vs:List Value} (h:du g k [x,y] vs):∃v w,vs=[v,w]∧dL g k x v∧dL g k y w:=by
 refine e2c h fun v ws zq2 hx hr=>?_;clear h;subst zq2
 refine e1b hr.only fun w zq1 hy=>?_;subst zq1
 exact ⟨v,w,rfl,hx,hy⟩
theorem xJ {x:V} {v:Value} {Q:V→St→Prop} (gd:p6 n A) (p:Pre H0 f e nm G st s) (hx:dL G.g G.k x v) (h:vm x st Q):wpN (model prog wd) A (_root_.PySem.call (.type "bytearray") [v]) (dH H0 f e nm G s st.σ.length Q) s:=by
 cases x with
 |p x=>cases x with
  |int i=>
   refine e1a hx fun t zq1=>?_;clear hx;subst zq1
   refine sw gd.guards h.1.1 h.1.2 fun h' e1 e2=>?_
   exact p.vm (t:=s.toks) (qA e2) e1 h.2
  |_=>exact h.elim
 |_=>exact h.elim
theorem xf {x:V} {v:Value} {Q:V→St→Prop} (p:Pre H0 f e nm G st s) (hx:dL G.g G.k x v) (h:zn x st fun z=>Q (.p z) st):wpN (model prog wd) A (_root_.PySem.call (.type "type") [v]) (dH H0 f e nm G s st.σ.length Q) s:=by
 cases x with
 |ref i=>
  unfold zn at h
  dsimp only at h
  cases hi:st.σ[i]? with
  |none=>rw [hi] at h;exact h.elim
  |some o=>
   rw [hi] at h
   cases o with
   |cinst c fs ver=>
    refine e3f (p.inv.obj i _ hi) fun a dx sl h1 h2 h3 h4 h5 h6=>?_
    refine e1b hx fun a' h7 zq2=>?_;clear hx;subst zq2
    rw [h1] at h7;clear h6 h5;obtain rfl:=sj h7
    exact cQ (kto_own (C:=c) (od:=some emptyDict) ⟨h3,rfl,rfl,p.inv.gg _ _ h4⟩ (.now p (vp (x:=.st c) rfl) h))
   |_=>exact h.elim
 |inst c fs=>
  refine e4e hx fun ad ob dx us zq4 h1 zq6 h2 h3=>?_;clear hx;subst zq4 zq6
  exact cQ (kto_own (C:=c) (od:=some emptyDict) ⟨p.inv.gg _ _ h1,rfl,rfl,p.inv.gg _ _ h2⟩ (.now p (vp (x:=.st c) rfl) h))
 |_=>exact h.elim
theorem Ci {b:Bi} {args:List V} {vs:List Value} {Q:V→St→Prop} (gd:p6 n A) (p:Pre H0 f e nm G st s) (hv:du G.g G.k args vs) (h:biV b args st Q) :
  wpN (model prog wd) A (_root_.PySem.call b.val vs) (dH H0 f e nm G s st.σ.length Q) s:=by
 cases b with
 |len=>
  refine e1b (gA h) fun x zq1 h=>?_;subst zq1
  refine e1b hv.only fun v zq1 hx=>?_;subst zq1
  exact z9 p hx h
 |int=>
  refine e1b (gA h) fun x zq1 h=>?_;subst zq1
  refine e1b (fS h) fun i zq1 h=>?_;subst zq1
  refine e1b hv.only fun v zq1 zr=>e1a zr fun t zq3=>?_;subst zq1 zq3
  exact cQ (call_int_int (.now p og h))
 |min=>
  refine e2b (ly h) fun x r zq2 h=>?_;subst zq2
  refine e1b (gA h) fun y zq1 h=>?_;subst zq1
  refine e2c (pF h) fun i j zq2 zq3 h=>?_;subst zq2 zq3
  refine e2c hv.two fun v w zq2 zn1 zr=>e1a zr fun u zq5=>?_;subst zq2 zq5;refine e1a zn1 fun t zq1=>?_;clear zn1;subst zq1
  exact su gd.handled p h
 |bytes=>
  refine e1b (gA h) fun x zq1 h=>?_;subst zq1
  refine e1b hv.only fun v zq1 hx=>?_;subst zq1
  refine e1c (mM p hx h) fun b hb hl q=>?_
  exact cQ (uk hb (by rw [List.size_toArray,sizeLine_eq];exact cT [] [_] ab aq 1 [.j 1 ab aq] rfl hl) fun t k=>.tok p uG q)
 |bytearray=>
  refine e1b (gA h) fun x zq1 h=>?_;subst zq1
  refine e1b hv.only fun v zq1 hx=>?_;subst zq1
  exact xJ gd p hx h
 |tuple=>
  refine e1b (gA h) fun x zq1 h=>?_;subst zq1
  refine e1b hv.only fun v zq1 hx=>?_;subst zq1
  refine e4d (rT p hx (K:=fun l=>l.length≤16777216∧Q (.p (.tup l)) st) (po h fun l hl=>⟨hl.1.1,hl.1.2,hl.2⟩)) fun ad l vs k zq4 h1 h2 q=>?_;subst zq4
  refine cQ (call_tuple_list (dN h1) (fun h' hk=>?_) (by rw [List.size_toArray,h2.length,sizeLine_eq];exact q.1))
  have p₁:Pre H0 f e nm G st {s with heap:=h'}:=p.keeps hk
  refine e1e (p₁.pushG {cls:=.type "tuple",data:=.seq vs.toArray} rfl) fun G' le p' g' k' _=>?_
  exact ⟨G',st,_,⟨rfl,rfl,rfl⟩,le,Nat.le_refl _,p',vp (x:=.tup l) ⟨_,_,vs,0,rfl,g',rfl,h2.mono le.g⟩,q.2⟩
 |sum=>
  refine e1b (gA h) fun x zq1 h=>?_;subst zq1
  refine e1b hv.only fun v zq1 hx=>?_;subst zq1
  refine e4d (rT p hx h) fun ad l vs k zq4 h1 h2 zr=>e1b zr fun ns zn1 q=>?_;subst zq4;refine e0c zn1 fun zq0 e1 e2=>?_;clear zn1;subst zq0
  exact sr gd.handled p h1 h2 e1 e2 q
 |type=>
  refine e1b (gA h) fun x zq1 h=>?_;subst zq1
  refine e1b hv.only fun v zq1 hx=>?_;subst zq1
  exact xf p hx h
 |_=>exact h.elim
theorem tF {fx:V} {fv:Value} {args:List V} {vs:List Value} {Q:V→St→Prop} (hP:wU H0 prog wd n Pk) (gd:p6 n A) (p:Pre H0 f e nm G st s) (hf:dL G.g G.k fx fv) (hv:du G.g G.k args vs) (h:wA Pk fx args st Q) :
  (∃kp,Looks (model prog wd) s.heap (keeperOf fv) kp)∧wpN (model prog wd) A (_root_.PySem.call fv vs) (dH H0 f e nm G s st.σ.length Q) s:=by
 refine e1b (ic h) fun g zq1 h=>?_;subst zq1
 cases g with
 |st fa=>
  subst hf
  refine e1a (o7 h) fun ctr hc=>?_
  refine e1a ((hP fa ctr hc).keep) fun kp hkp=>?_
  exact ⟨⟨kp,hkp.keeps p.h0⟩,tG hP gd p hv (kws:=[]) (kvs:=[]) rfl h⟩
 |fn b=>
  subst hf
  refine ⟨?_,Ci gd p hv h⟩
  clear hv p gd hP vs;cases b<;>first|exact h.elim|exact ⟨_,Looks.of_pure rfl⟩
 |_=>exact h.elim
end
end
section
section
variable {prog:Program} {wd:World} {A:Around} {s:Shared}
theorem uj {body:List Stmt} {e:Env} {R:Flow→Shared→Prop} (h:wpN (model prog wd) (A.deeper e) (execs body e) (fun f s'=>R (.ret (match f with|.ret v=>v|_=>.none)) s') s) :
  eW (model prog wd) A (.func body e) R s:=by
 refine dj rfl ?_
 refine (?_:wpN _ (A.deeper e) (do point;match ←(execs body e).onRaise (leaving e) with|.ret v=>ret v|_=>ret .none) _ s)
 refine cX (wpAny_point (cO (dU (cV h fun f s' h'=>?_))))
 cases f<;>exact wpN_pure h'
theorem oD {a:Addr} {o:Obj} {fd:FuncData} {body:List Stmt} {args:Args} {R:Flow→Shared→Prop} {B:List (Str × Value)→Shared→Prop}
  (hroom:A.depth<recursionLimit) (ho:s.heap.get? a=some o) (hdata:o.data=.func fd) (hcd:s.heap.CodeRec fd.code fd.qualname) (hbody:fd.body=.stmts body) (hclo:fd.closure=[])
  (hco:fd.scope.isCoroutine=false) (hgen:fd.scope.isGenerator=false)
  (hb:wpN (model prog wd) A.in1 (bindArgs fd args) B s)
  (henv:∀binds s₁,B binds s₁→wpN (model prog wd) A.in1 (newFunctionEnv fd.scope fd.globals [] binds (fd.qualname ++ ".<locals>.") (some a) fd.code none fd.builtins)
   (fun env s₂=>s₂.heap.NoLimit∧eW (model prog wd) A (.func body env) R s₂) s₁) :
  eW (model prog wd) A (.call (.ref a) args) R s:=by
 refine dj rfl ?_
 refine (?_:wpN _ A.in1 (callAny (.ref a) args) _ s)
 simp only [callAny]
 refine cX (wpAny_load ho ?_)
 refine e4d hcd fun c oc vs tq hc hoc hdc hq=>?_
 simp only [hdata,callFunction,hco,hgen,hbody,hc,hclo]
 rw [hc] at henv
 refine cX (m:=field (.ref c) 1) (wpAny_field hoc hdc hq (cO (wpN_pure ?_)))
 exact cO (cV hb fun binds s₁ h₁=>cO (cV (henv binds s₁ h₁) fun env s₂ h₂=>cX (wpAny_enterFrame h₂.1 hroom (wpN_pure ⟨rfl,h₂.2⟩))))
theorem gp {name:Str}:∀(names:List (Str × NameKind)) (k:Nat) (acc:List (Str × Addr)),(names.lookup name=some .cell∨(acc.lookup name).isSome=true)→((cellsFrom k names acc).lookup name).isSome=true
 |[],k,acc,h=>by
  rcases h with h|h
  ·exact ns h
  ·exact h
 |(n,kind)::r,k,acc,h=>by
  unfold cellsFrom
  by_cases hk:(kind==NameKind.cell)=true
  ·rw [if_pos hk]
   refine gp r _ _ ?_
   rcases h with h|h
   ·rw [List.lookup_cons] at h
    cases q:name==n with
    |true=>exact .inr (by rw [List.lookup_cons,q];rfl)
    |false=>rw [q] at h;exact .inl h
   ·refine .inr ?_
    rw [List.lookup_cons]
    cases q:name==n with
    |true=>rfl
    |false=>exact h
  ·rw [if_neg hk]
   refine gp r _ _ ?_
   rcases h with h|h
   ·rw [List.lookup_cons] at h
    cases q:name==n with
    |true=>rw [q] at h;obtain rfl:=sj h;exact absurd rfl hk
    |false=>rw [q] at h;exact .inl h
   ·exact .inr h
theorem nT (kof:Str→Option NameKind) {n:Str}:∀(b:List (Str × Value)) (m:Str→Option Value),n∉b.map (·.1)→bindL kof b m n=m n
 |[],m,h=>rfl
 |(n',v)::r,m,h=>by
  unfold bindL
  rw [nT kof r _ (fun q=>h (List.mem_cons_of_mem _ q))]
  split
  ·exact if_neg fun q=>h (by subst q;simp)
  ·rfl
theorem nU (kof:Str→Option NameKind) {n:Str}:∀(b:List (Str × Value)) (m:Str→Option Value),n∉b.map (·.1)→bindC kof b m n=m n
 |[],m,h=>rfl
 |(n',v)::r,m,h=>by
  unfold bindC
  rw [nU kof r _ (fun q=>h (List.mem_cons_of_mem _ q))]
  split
  ·rfl
  ·exact if_neg fun q=>h (by subst q;simp)
theorem tJ (kof:Str→Option NameKind) {n:Str} {v:Value} (hk:kof n=some .local):∀(b:List (Str × Value)) (m:Str→Option Value) (i:Nat),(b.map (·.1)).Nodup→b[i]? = some (n,v)→bindL kof b m n=some v
 |[],m,i,_,h=>by simp at h
 |(n',v')::r,m,i,hn,h=>by
  refine e0b (List.nodup_cons.mp (by simpa using hn:(n'::r.map (·.1)).Nodup)) fun h1 h2=>?_
  unfold bindL
  cases i with
  |zero=>
   simp at h;refine e0b h fun zq0 zq1=>?_;clear h;subst zq0 zq1
   rw [nT kof r _ (by simpa using h1),if_pos hk]
   exact if_pos rfl
  |succ i=>exact tJ kof hk r _ i h2 (by simpa using h)
theorem tK (kof:Str→Option NameKind) {n:Str} {v:Value} (hk:kof n≠some .local):∀(b:List (Str × Value)) (m:Str→Option Value) (i:Nat),(b.map (·.1)).Nodup→b[i]? = some (n,v)→bindC kof b m n=some v
 |[],m,i,_,h=>by simp at h
 |(n',v')::r,m,i,hn,h=>by
  refine e0b (List.nodup_cons.mp (by simpa using hn:(n'::r.map (·.1)).Nodup)) fun h1 h2=>?_
  unfold bindC
  cases i with
  |zero=>
   simp at h;refine e0b h fun zq0 zq1=>?_;clear h;subst zq0 zq1
   rw [nU kof r _ (by simpa using h1),if_neg hk]
   exact if_pos rfl
  |succ i=>exact tK kof hk r _ i h2 (by simpa using h)
end
open Classical in
noncomputable def lZ (G:Gh) (e:Env):Gh:=⟨G.g,G.k,fun a=>if a=e.locals then some (0,0) else if ∃n,e.cells.lookup n=some a then some (0,a+1) else G.ow a⟩
section
variable {H0:Heap} {f:Gm} {G:Gh} {σ:List O} {e:Env} {s s':Shared} {binds:List (Str × Value)} {env:List V} {pn ln:List Str}
theorem du.at {g:Gm} {k:lI}:∀{xs:List V} {vs:List Value} {i:Nat} {x:V},du g k xs vs→xs[i]? = some x→∃v,vs[i]? = some v∧dL g k x v
 |[],_,_,_,_,h=>by simp at h
 |y::ys,_,0,x,⟨v,r,rfl,h1,h2⟩,h=>by simp at h;subst h;exact ⟨v,rfl,h1⟩
 |y::ys,_,i+1,x,⟨v,r,rfl,h1,h2⟩,h=>by simp at h;refine e1b (h2.at h) fun v' a b=>?_;exact ⟨v',by simpa using a,b⟩
theorem Pre.ofCall (I:Inv H0 f G σ s.heap) (hno:∀a j,G.ow a≠some (0,j)) (hk:e.scope.kind=.function) (hL:e.locals=s.heap.objs.size) (hcl:∀n,e.kindOf n=some .cell→(e.cells.lookup n).isSome=true)
  (x:InCallC s e.locals (bindL e.kindOf binds fun _=>none) e.cells (bindC e.kindOf binds fun _=>none) s') (hbn:binds.map (·.1)=pn) (hv:du G.g G.k env (binds.map (·.2)))
  (hnd:(pn++ln).Nodup) (hpk:∀n∈pn,e.kindOf n=some .local∨e.kindOf n=some .cell) :
  Pre H0 f e ((pn++ln).map some) (lZ G e) ⟨env.map some++List.replicate ln.length none,σ⟩ s'∧G.Le (lZ G e):=by
 have hnew:∀a,(a=e.locals∨∃n,e.cells.lookup n=some a)→s.heap.objs.size≤a:=fun a h=>by
  rcases h with rfl|h
  ·exact Nat.le_of_eq hL.symm
  ·refine e1a h fun n h1=>?_
   have:=x.above n a (mem_of_lookup h1)
   rw [hL] at this;exact Nat.le_of_lt this
 have hfr:∀a,s.heap.objs.size≤a→G.g a=none∧f a=none∧G.ow a=none:=fun a h=>by
  refine ⟨?_,?_,?_⟩
  ·cases q:G.g a with
   |none=>rfl
   |some o=>exact absurd (Heap.lt_size (I.gg _ _ q)) (Nat.not_lt.mpr h)
  ·cases q:f a with
   |none=>rfl
   |some o=>exact absurd (Heap.lt_size (I.ff _ _ q)) (Nat.not_lt.mpr h)
  ·cases q:G.ow a with
   |none=>rfl
   |some o=>refine e1a ((I.own _ _ q).2.2) fun y hy=>?_;exact absurd (Heap.lt_size hy) (Nat.not_lt.mpr h)
 have how:∀a y,G.ow a=some y→(lZ G e).ow a=some y:=fun a y h=>by
  have h1:a≠e.locals:=fun q=>by rw [(hfr a (hnew a (.inl q))).2.2] at h;exact ns h
  have h2:¬∃n,e.cells.lookup n=some a:=fun q=>by rw [(hfr a (hnew a (.inr q))).2.2] at h;exact ns h
  simp only [lZ,if_neg h1,if_neg h2,h]
 have hkeep:=x.toInCall.keep
 have hcell:∀n c,e.cells.lookup n=some c→(lZ G e).ow c=some (0,c+1):=fun n c h=>by
  have hm:=mem_of_lookup h
  have h1:c≠e.locals:=fun q=>Nat.lt_irrefl _ (q▸x.above n c hm)
  simp only [lZ,if_neg h1]
  exact if_pos ⟨n,h⟩
 have hlen:binds.length=pn.length:=by rw [←hbn,List.length_map]
 have hle2:env.length=pn.length:=by rw [←hlen,←hv.length,List.length_map]
 refine ⟨⟨⟨I.base,fun a o h=>hkeep _ _ (I.gg a o h),fun a o h=>hkeep _ _ (I.ff a o h),I.fg,fun a y h=>?_,fun i o h=>?_,I.dom⟩,⟨hk,⟨_,x.toInCall.ns,fun i n y h1 h2=>?_⟩,by simp [lZ],fun n c hc=>⟨hcell n c hc,_,x.cell n c hc⟩,x.apart,hcl,fun i j n h1 h2=>?_⟩,by simp [hle2]⟩,⟨fun _ _ h=>h,fun _ _ h=>h,fun _ _ _ _ h=>h⟩⟩
 ·simp only [lZ] at h
  split at h
  ·rename_i q
   refine e0c (hfr a (hnew a (.inl q))) fun a1 a2 _=>?_
   refine e3b x.toInCall.ns fun o _ _ ho _=>?_
   exact ⟨a1,a2,o,q▸ho⟩
  ·split at h
   ·rename_i q
    refine e0c (hfr a (hnew a (.inr q))) fun a1 a2 _=>?_
    refine e1a q fun n h1=>?_
    refine e1b (x.cell n a h1) fun o ho _=>?_
    exact ⟨a1,a2,o,ho⟩
   ·refine e0c (I.own a y h) fun a1 a2 zr=>e1a zr fun o a3=>?_
    exact ⟨a1,a2,o,hkeep _ _ a3⟩
 ·exact nX.mono (G:=G) (fun _ _ h=>h) (fun _ h=>h) (fun _ _=>rfl) (fun a j h=>⟨how _ _ h,hkeep a⟩) (I.obj i o h)
 ·dsimp only at h2
  have hi:i<env.length:=by
   rcases Nat.lt_or_ge i env.length with q|q
   ·exact q
   ·rw [List.getElem?_append_right (by simpa using q)] at h2
    simp [List.getElem?_replicate] at h2
  rw [List.getElem?_append_left (by simpa using hi),List.getElem?_map] at h2
  have h2:env[i]? = some y:=by
   cases q:env[i]? with
   |none=>rw [q] at h2;exact ns h2
   |some z=>rw [q] at h2;cases h2;rfl
  refine e1b (hv.at h2) fun v hv1 hv2=>?_
  have h1:pn[i]? = some n:=by
   rw [List.getElem?_map,List.getElem?_append_left (by exact cT [] [_,_,_] a8 ae 1 [.j 1 ak ae,.j 1 a8 ak] rfl (Nat.le_of_eq hle2) hi)] at h1
   cases q:pn[i]? with
   |none=>rw [q] at h1;exact ns h1
   |some z=>rw [q] at h1;cases h1;rfl
  have hb:binds[i]? = some (n,v):=by
   rw [←hbn,List.getElem?_map] at h1
   rw [List.getElem?_map] at hv1
   cases q:binds[i]? with
   |none=>rw [q] at h1;exact ns h1
   |some z=>rw [q] at h1 hv1;obtain ⟨z1,z2⟩:=z;simp at h1 hv1;rw [h1,hv1]
  have hnb:(binds.map (·.1)).Nodup:=by rw [hbn];exact (List.nodup_append.mp hnd).1
  rcases hpk n (List.mem_of_getElem? h1) with hk'|hk'
  ·exact .inl ⟨hk',v,tJ _ hk' binds _ i hnb hb,hv2⟩
  ·refine e1a (Option.isSome_iff_exists.mp (hcl n hk')) fun c hc=>?_
   have:=x.cell n c hc
   rw [tK _ (by rw [hk'];decide) binds _ i hnb hb] at this
   exact .inr ⟨.inl hk',c,v,hc,this,hv2⟩
 ·have e1:(pn++ln)[i]? = some n:=by
   rw [List.getElem?_map] at h1
   cases q:(pn++ln)[i]? with
   |none=>rw [q] at h1;exact ns h1
   |some z=>rw [q] at h1;cases h1;rfl
  have e2:(pn++ln)[j]? = some n:=by
   rw [List.getElem?_map] at h2
   cases q:(pn++ln)[j]? with
   |none=>rw [q] at h2;exact ns h2
   |some z=>rw [q] at h2;cases h2;rfl
  refine e1a (List.getElem?_eq_some_iff.mp e1) fun l1 e1=>?_
  refine e1a (List.getElem?_eq_some_iff.mp e2) fun l2 e2=>?_
  rw [←hnd.idxOf_getElem i l1,←hnd.idxOf_getElem j l2,e1,e2]
end
end
section
noncomputable def retF:Flow→Value|.ret v=>v|_=>.none
noncomputable def w5:Fl→V|.ret v=>v|_=>.p .none
noncomputable def eY (bindf:List V→List (Str × P)→Option (List V)) (k:Nat) (S:S) (G:Pg):Ctr:=fun args kws objs Q=>match bindf args kws with
 |some env=>wS G S ⟨env.map some++List.replicate k none,objs⟩ fun fl st=>∃m,(objs.length≤m∧m≤st.σ.length∧scp m (w5 fl)=true)∧Q (w5 fl) (st.σ.take m)
 |none=>False
structure D0 (H0:Heap) (fa:Addr) (fd:FuncData) (body:List Stmt) (pn ln:List Str):Prop where
 obj:∃o,H0.get? fa=some o∧o.data=.func fd
 body:fd.body=.stmts body
 clo:fd.closure=[]
 cd:H0.CodeRec fd.code fd.qualname
 globals:fd.globals=mainGlobals
 builtins:fd.builtins=builtinsNs
 co:fd.scope.isCoroutine=false
 gen:fd.scope.isGenerator=false
 kind:fd.scope.kind=.function
 nd:(pn++ln).Nodup
 kinds:∀n∈pn,fd.scope.names.lookup n=some .local∨fd.scope.names.lookup n=some .cell
noncomputable def pf (H0:Heap) (prog:Program) (wd:World) (fd:FuncData) (pn:List Str) (bindf:List V→List (Str × P)→Option (List V)):Prop:=
 ∀(A:Around) (f:Gm) (G:Gh) (s:Shared) (σ:List O) (args:List V) (kws:List (Str × P)) (vs:List Value) (kvs:List (Str × Value)) (env:List V),
  Inv H0 f G σ s.heap→(∀a j,G.ow a≠some (0,j))→du G.g G.k args vs→yL G.g kws kvs→bindf args kws=some env→
  wpN (model prog wd) A (bindArgs fd ⟨vs,kvs⟩) (fun binds s'=>∃G',gr s s'∧G.Le G'∧Inv H0 f G' σ s'.heap∧(∀a j,G'.ow a≠some (0,j))∧binds.map (·.1)=pn∧du G'.g G'.k env (binds.map (·.2))) s
theorem nY.of_body {H0:Heap} {prog:Program} {wd:World} {n:Nat} {fa:Addr} {fd:FuncData} {body:List Stmt} {pn ln:List Str} {bindf:List V→List (Str × P)→Option (List V)} {S:S} {Pk:Pg}
  (hlim:H0.NoLimit) (F:D0 H0 fa fd body pn ln) (hb:pf H0 prog wd fd pn bindf)
  (hS:∀A e,p6 n A→e.scope=fd.scope→e.globals=mainGlobals→e.builtins=builtinsNs→SJ H0 (model prog wd) A e ((pn++ln).map some) (execs body e) (wS Pk S)) :
  nY H0 prog wd (n+1) fa (eY bindf ln.length S Pk):=by
 refine e1b F.obj fun o ho hd=>?_
 refine ⟨⟨.frame,?_⟩,fun A f G s σ args kws vs kvs Q gd I hno hv hk h=>?_⟩
 ·unfold keeperOf
  refine (Looks.ld ho).andThen ?_
  rw [hd];exact .now
 ·unfold eY at h
  split at h
  ·rename_i env henv
   have h0:∀b o,H0.get? b=some o→s.heap.get? b=some o:=fun b o h=>I.gg b o (I.base b o h)
   refine (oD (by have:=gd.depth;have:recursionLimit=1000:=rfl;lia) (h0 _ _ ho) hd (F.cd.keeps h0) F.body F.clo F.co F.gen (hb A.in1 f G s σ args kws vs kvs env I hno hv hk henv) fun binds s₁ zp=>e1f zp fun G₁ sm₁ le₁ I₁ hno₁ hbn hv₁=>?_)
   have h1:∀b o,H0.get? b=some o→s₁.heap.get? b=some o:=fun b o h=>I₁.gg b o (I₁.base b o h)
   have hkb:∀x∈binds,fd.scope.names.lookup x.1=some .local∨(fd.scope.names.lookup x.1=some .cell∧((cellsFrom (s₁.heap.objs.size+1) fd.scope.names []).lookup x.1).isSome=true):=fun x hx=>by
    rcases F.kinds x.1 (hbn▸List.mem_map.mpr ⟨x,hx,rfl⟩) with q|q
    ·exact .inl q
    ·exact .inr ⟨q,gp _ _ _ (.inl q)⟩
   refine cQ (wpAny_newFunctionEnv_cells F.kind hkb fun e he s₂ x=>?_)
   have hsc:e.scope=fd.scope:=by rw [he];rfl
   have hL:e.locals=s₁.heap.objs.size:=by rw [he];rfl
   obtain ⟨p,le₂⟩:=Pre.ofCall (ln:=ln) (e:=e) I₁ hno₁ (by rw [hsc];exact F.kind) hL (fun n hn=>by
    rw [he];exact gp _ _ _ (.inl (by unfold Env.kindOf at hn;rw [hsc] at hn;exact hn))) x hbn hv₁ F.nd (fun n hn=>by unfold Env.kindOf;rw [hsc];exact F.kinds n hn)
   have sm₂:gr s₁ s₂:=by refine e2a x.toInCall.same fun h' tk zq2=>?_;subst zq2;exact ⟨rfl,rfl,rfl⟩
   refine ⟨(hlim.keeps h1).keeps x.toInCall.keep,uj ?_⟩
   refine cV (hS (A.deeper e) e ⟨gd.guards,gd.handled,by have:=gd.depth;refine (?_:A.depth+1+n≤900);exact (cT [] [_,_] cH (.n 900) 1 [.j 1 cC (.n 900)] rfl this),by have:=gd.units;refine (?_:A.units+3+8*n≤9000);exact cT [] [_,_] (.a (.a ab aM) (.m 8 ae)) (.n 9000) 1 [.j 1 (.a ab (.m 8 bc)) (.n 9000)] rfl this⟩ hsc (by rw [he];exact F.globals) (by rw [he];exact F.builtins) f _ s₂ _ _ σ.length p (Nat.le_refl _) h)
    fun fl s₃ zp=>e3f zp fun G₃ st₃ y sm₃ le₃ n₃ p₃ v₃ ⟨m,⟨m1,m2,m3⟩,q⟩=>?_
   have hres:dL G₃.g G₃.k (w5 y) (retF fl):=by
    cases y with
    |next=>subst v₃;exact vp (x:=.none) rfl
    |brk=>subst v₃;exact vp (x:=.none) rfl
    |cont=>subst v₃;exact vp (x:=.none) rfl
    |ret y=>refine e1b v₃ fun v zq1 hv=>?_;clear v₃;subst zq1;exact hv
   refine ⟨_,rfl,w7 m G₃,st₃.σ.take m,w5 y,(sm₁.trans sm₂).trans sm₃,(((le₁.toN _).trans (le₂.toN _)).trans le₃).trans ((pN m G₃).mono m1),?_,p₃.inv.cut,by cases fl<;>exact hres.inScope m3,q⟩
   rw [List.length_take];exact cT [] [_,_,_] ab ae 1 [.j 1 ab ak,.j 1 ak ae] rfl m1 (Nat.le_of_eq (Eq.symm (Nat.min_eq_left (cT [] [_,_] ab ae 1 [.j 1 ab ae] rfl m2))))
  ·exact h.elim
theorem nY.weaken {H0:Heap} {prog:Program} {wd:World} {n m:Nat} {fa:Addr} {c c':Ctr} (h:nY H0 prog wd n fa c) (hm:n≤m) (hc:∀args kws objs Q,c' args kws objs Q→c args kws objs Q):nY H0 prog wd m fa c':=
 ⟨h.keep,fun A f G s σ args kws vs kvs Q gd I hno hv hk hq=>h.call A f G s σ args kws vs kvs Q (gd.mono hm) I hno hv hk (hc _ _ _ _ hq)⟩
end
section
section
variable {prog:Program} {wd:World} {A:Around} {H0:Heap} {e:Env} {nm:List (Option Str)} {Pk:Pg} {f:Gm} {G:Gh} {st:St} {s:Shared} {n:Nat}
variable {o fe:PySem.Expr} {cf ca co:C} {pos apos p2:Pos} {args:List PySem.Expr} {name:Str}
noncomputable def eI (x:PySem.Expr):Bool:=Nat.beq x.ctorIdx 22
theorem rH {x:PySem.Expr} {xs:List PySem.Expr} {e:Env} (h:eI x=false):starEach (x::xs) e=(false,eval x e)::starEach xs e:=by cases x<;>first|rfl|exact tf h
theorem xp {x:PySem.Expr} {xs:List PySem.Expr} {e:Env} (h:eI x=true):∃t r,starEach (x::xs) e=(true,t)::r:=by
 cases x<;>first|exact ft h|exact ⟨_,_,rfl⟩
noncomputable def dG (xs:List PySem.Expr):Bool:=xs.all fun x=>!eI x
theorem ol (h:dG args=true):starEach args e=args.map fun x=>(false,eval x e):=by
 induction args with
 |nil=>rfl
 |cons x r ih=>exact (rH ((Bool.not_eq_true' _).mp (Bool.and_eq_true_iff.mp h).1)).trans (congrArg _ (ih (Bool.and_eq_true_iff.mp h).2))
theorem jA (h:dG args=true):backTo pos (starEach args e)=args.map fun x=>(false,eval x e):=by
 rw [ol h];unfold backTo;rw [List.map_map];rfl
theorem kN (h:dG args=true) (x:Sem Value):backTo pos (starEach args e)≠[(true,x)]:=by
 rw [jA h]
 clear h;cases args with
 |nil=>intro q;exact nc q
 |cons a r=>intro q;simp at q
theorem Ao {id:Str} (hP:wU H0 prog wd n Pk) (gd:p6 n A) (hpl:dG args=true) (hf:EJ H0 (model prog wd) A e nm (eval (.Name id p2) e) (w Pk cf)) (ha:LJ H0 (model prog wd) A e nm (spliced (backTo pos (starEach args e))) (w Pk ca)) :
  EJ H0 (model prog wd) A e nm (eval (.Call (.Name id p2) args [] pos) e) (w Pk (.call cf ca)):=fun f G s st Q p h=>by
 refine dC (arm_eval_Call_Name' ..) ?_
 refine cO (fP (hf f G s st _ p h) fun fv s₁ G₁ st₁ fx sm₁ le₁ n₁ p₁ v₁ q₁=>?_)
 refine fB (fY (R:=fun a s'=>a.kw=[]∧yK H0 f e nm G₁ s₁ st₁.σ.length (fun xs st=>wA Pk fx xs st fun v st=>Q [v] st) a.pos s') (kN hpl) (cV (ha f G₁ s₁ st₁ _ p₁ q₁) fun vs s₂ P=>⟨rfl,P⟩)) ?_
 refine fun as s₂ hh=>e0b hh fun ekw hh=>hh.el fun G₂ st₂ xs sm₂ le₂ n₂ p₂ v₂ q₂=>?_
 obtain ⟨vs,kw⟩:=as
 have ekw:kw=[]:=ekw
 have v₂:du G₂.g G₂.k xs vs:=v₂
 clear ha hf hpl id hh q₁ p₁ h p;subst ekw
 refine e0b (tF hP gd p₂ (v₁.le le₂) v₂ q₂) fun h1 h2=>?_
 exact ⟨h1,cV h2 fun v s₃ P=>P.step (sm₁.trans sm₂) (le₁.trans le₂) (Nat.le_trans n₁ n₂)⟩
noncomputable def wY (H0:Heap) (prog:Program) (wd:World) (nme:Str) (c:Addr) (k:Nat):Prop:=∀(A:Around) (s:Shared) (a dx:Addr) (sl:Array (Option Value)) (v:Value) (Q:Value→Shared→Prop),
 (∀b o,H0.get? b=some o→s.heap.get? b=some o)→s.heap.get? a=some (kX c dx sl)→s.heap.get? dx=some emptyDict→(sl[k]?).join=some v→handedIn v=true→
 (∀t,Q v {s with toks:=t})→wpN (model prog wd) A (getAttr (.ref a) nme true) Q s
noncomputable def wX (H0:Heap) (prog:Program) (wd:World) (nme:Str) (c:Addr) (x:P):Prop:=∀(A:Around) (s:Shared) (Q:Value→Shared→Prop),
 (∀b o,H0.get? b=some o→s.heap.get? b=some o)→(∀v t,PRel H0.get? x v→Q v {s with toks:=t})→wpN (model prog wd) A (getAttr (.ref c) nme true) Q s
structure w0 (H0:Heap) (prog:Program) (wd:World) (nme:Str) (i:AI):Prop where
 slot:∀c k,i.slots.lookup c=some k→wY H0 prog wd nme c k
 stat:∀c x,i.stat.lookup c=some x→wX H0 prog wd nme c x
noncomputable def fq (x:PySem.Expr):Bool:=!(Nat.beq x.ctorIdx 16)
theorem pZ (h:fq o=true) (whole:Sem Value):attributeBase o name e whole=whole:=by cases o<;>first|rfl|exact ft h
theorem ty {l:List PySem.Expr} {φ:PySem.Expr→Sem Value}:(l.map fun x=>(false,φ x)).all (!·.1)=true:=by
 induction l with
 |nil=>rfl
 |cons _ _ ih=>exact ih
theorem PRel.handed {g:Gm} {x:P} {v:Value} (h:PRel g x v):handedIn v=true:=by
 cases x with
 |none=>subst h;rfl
 |bool b=>subst h;rfl
 |int i=>refine e1a h fun t zq1=>?_;clear h;clear g;subst zq1;rfl
 |str i=>refine e1a h fun t zq1=>?_;clear h;clear g;subst zq1;rfl
 |bytes i=>refine e1a h fun t zq1=>?_;clear h;clear g;subst zq1;rfl
 |fn b=>subst h;clear g;cases b<;>first|rfl|decide +kernel
 |st a=>subst h;rfl
 |tup l=>refine e4b h fun a _ _ _ zq4 _=>?_;clear h;subst zq4;rfl
 |lst l=>refine e4b h fun a _ _ _ zq4 _=>?_;clear h;subst zq4;rfl
theorem dL.handed {g:Gm} {k:lI} {x:V} {v:Value} (h:dL g k x v):handedIn v=true:=by
 cases x with
 |p x=>exact PRel.handed h
 |ref i=>refine e1b h fun a _ zq2=>?_;clear h;clear g;subst zq2;rfl
 |inn i=>refine e1b h fun a _ zq2=>?_;clear h;clear g;subst zq2;rfl
 |tup l=>refine e4b h fun a _ _ _ zq4 _=>?_;clear h;subst zq4;rfl
 |inst c l=>refine e4b h fun a _ _ _ zq4 _=>?_;clear h;subst zq4;rfl
theorem yC {i:AI} {x:V} {a:Value} {Q:V→St→Prop} (hA:w0 H0 prog wd name i) (p:Pre H0 f e nm G st s) (hx:dL G.g G.k x a) (h:AO i x st Q) :
  wpN (model prog wd) A (getAttr a name true) (dH H0 f e nm G s st.σ.length Q) s:=by
 cases x with
 |ref j=>
  refine e1b (eT h) fun o hj h=>?_
  refine e3b (mD h) fun c fs ver zq3 h=>?_;subst zq3
  refine e1b (eT h) fun k hk h=>?_
  refine e1b (eT h) fun y hy h=>?_
  refine e3f (p.inv.obj j _ hj) fun ad dx sl h1 h2 h3 h4 h5 h6=>?_
  refine e1b hx fun ad' h7 zq2=>?_;clear hx;clear h6 hj;subst zq2
  rw [h1] at h7;obtain rfl:=sj h7
  clear h7;cases y with
  |v y=>
   refine e1b (h5 k _ hy) fun v e1 e2=>?_
   exact hA.slot c k hk A s ad dx sl v _ p.h0 h3 (p.inv.gg _ _ h4) e1 e2.handed fun t=>.tok p (vp e2) h
  |bx b=>
   refine e1d (h5 k _ hy) fun v e1 e2 e3 e4=>?_
   exact hA.slot c k hk A s ad dx sl _ _ p.h0 h3 (p.inv.gg _ _ h4) e1 rfl fun t=>.tok (x:=.inn j k ver) p ⟨_,e2,rfl⟩ h
  |unset=>exact h.elim
 |inst c fs=>
  refine e1b (eT h) fun k hk h=>?_
  refine e1b (eT h) fun y hy h=>?_
  refine e4e hx fun ad ob dx vs zq4 h1 zq6 h2 h3=>?_;clear hx;subst zq4 zq6
  refine e1b (h3.at hy) fun v h4 h5=>?_
  exact hA.slot c k hk A s ad dx _ v _ p.h0 (p.inv.gg _ _ h1) (p.inv.gg _ _ h2) (by simp [h4]) h5.handed fun t=>.tok p h5 h
 |p x=>
  refine e1b (yO h) fun c zq1 h=>?_;subst zq1
  refine e1b (xo h) fun y hy h=>?_
  subst hx
  exact hA.stat c y hy A s _ p.h0 fun v t hv=>.tok p (vp (p.prel hv)) h
 |_=>exact h.elim
theorem Ap {i:AI} (hA:w0 H0 prog wd name i) (hb:fq o=true) (hl:EJ H0 (model prog wd) A e nm (eval o e) (w Pk co)) :
  EJ H0 (model prog wd) A e nm (eval (.Attribute o name pos) e) (w Pk (.attr co i)):=fun f G s st Q p h=>by
 refine dC (arm_eval_Attribute ..) ?_
 rw [pZ hb]
 refine cO (fP (hl f G s st _ p h) fun a s₁ G₁ st₁ x sm₁ le₁ n₁ p₁ v₁ q₁=>?_)
 refine cS (cO (cR (cV (yC hA p₁ v₁ (jG q₁ :)) fun v s₂ P=>?_)))
 exact cO (cQ (wpAny_letTemporaryGo (wpN_pure (P.step sm₁ le₁ n₁))))
noncomputable def zi (H0:Heap) (prog:Program) (wd:World) (nme:Str) (c fa:Addr):Prop:=∀(A:Around) (s:Shared) (a dx:Addr) (sl:Array (Option Value)) (pl:Sem Bool) (Q:Value × List Value→Shared→Prop),
 (∀b o,H0.get? b=some o→s.heap.get? b=some o)→s.heap.get? a=some (kX c dx sl)→s.heap.get? dx=some emptyDict→Q (.ref fa,[.ref a]) s→wpN (model prog wd) A (getMethod (.ref a) nme pl) Q s
noncomputable def tI:Bm→Str
 |.none=>"" | .append=>"append" | .get=>"get" | .encode=>"encode" | .pack_into=>"pack_into" | .unpack_from=>"unpack_from"
noncomputable def wW (H0:Heap) (prog:Program) (wd:World) (nme:Str) (c:Addr) (x:P):Prop:=∀(A:Around) (s:Shared) (pl:Sem Bool) (Q:Value × List Value→Shared→Prop),
 (∀b o,H0.get? b=some o→s.heap.get? b=some o)→(∀v t,PRel H0.get? x v→Q (v,[]) {s with toks:=t})→wpN (model prog wd) A (getMethod (.ref c) nme pl) Q s
noncomputable def CI (H0:Heap) (prog:Program) (wd:World) (nme:Str) (c fa:Addr):Prop:=∀(A:Around) (s:Shared) (a dx:Addr) (sl:Array (Option Value)) (Q:Value→Shared→Prop),
 (∀b o,H0.get? b=some o→s.heap.get? b=some o)→s.heap.get? a=some (kX c dx sl)→s.heap.get? dx=some emptyDict→
 (∀t,Q (.ref s.heap.objs.size) {s with heap:=s.heap.push (methodObj (.ref fa) (.ref a)),toks:=t})→wpN (model prog wd) A (getAttr (.ref a) nme true) Q s
structure pe (H0:Heap) (prog:Program) (wd:World) (nme:Str) (m:MI):Prop where
 fn:∀c fa,m.fn.lookup c=some fa→zi H0 prog wd nme c fa
 val:∀c x,m.val.lookup c=some x→wW H0 prog wd nme c x
 bnd:m.bd=true→∀c fa,m.fn.lookup c=some fa→CI H0 prog wd nme c fa∧∃o fd,H0.get? fa=some o∧o.data=.func fd
 bm:m.bm≠.none→nme=tI m.bm
end
end
section
section
variable {prog:Program} {wd:World} {A:Around} {H0:Heap} {e:Env} {nm:List (Option Str)} {Pk:Pg} {f:Gm} {G:Gh} {st:St} {s:Shared} {n:Nat}
variable {o fe:PySem.Expr} {cf ca co:C} {pos apos p2:Pos} {args:List PySem.Expr} {name:Str}
theorem hM:PlainAttrs "_struct.Struct":=
 ⟨⟨"_struct.Struct.__getattribute__",by rw [typeLookup_type,builtinLookup_eq_fast];kernel_rfl,by decide +kernel⟩,by rw [typeLookup_type,builtinLookup_eq_fast];kernel_rfl⟩
theorem p9:typeOf (.builtin "_struct.Struct.pack_into")=pure (.type "method_descriptor"):=by refine (?_:builtinType _=_);rw [builtinType_eq_fast];kernel_rfl
theorem qa:typeOf (.builtin "_struct.Struct.unpack_from")=pure (.type "method_descriptor"):=by refine (?_:builtinType _=_);rw [builtinType_eq_fast];kernel_rfl
theorem lY {l:Addr} {vs:List Value} {k:Nat} {x:Value} {E:Value→Shared→Prop} {Q:Value→Shared→Prop} (ho:s.heap.get? l=some (oB vs k)) (hsz:vs.length<sizeLine)
  (hQ:∀h' k',h'.get? l=some (oB (vs++[x]) k')→Heap.SameBut l s.heap h'→Q .none {s with heap:=h'}) :
  wpAny (model prog wd) A (_root_.PySem.call (.builtin "list.append") [.ref l,x]) Q E s:=by
 refine wpAny_call_entry slot_list_append (dN ho).typeIs entry_list_append ?_ (args_list_append _ _)
 refine (?_:wpAny _ _ (updateSeq l (·.push x)>>=fun _=>ret .none) _ _ s)
 refine wpAny_bind ?_
 refine wpAny_updateSeq ho rfl (wpAny_pure ⟨.none,rfl,?_⟩) (by rw [List.size_toArray];lia)
 have h1:=Heap.get?_update_self (Obj.mapSeq (·.push x)) ho rfl
 refine hQ _ (if (vs.toArray.push x).size==vs.toArray.size then k else k+1) (h1.trans ?_) (Heap.SameBut.update ..)
 refine (?_:some _=some _)
 simp only [Obj.mapSeq,oB]
 simp
theorem i9 (σ:List O) (v:V) (b:Bx):(ki σ v b).length=σ.length:=by
 unfold ki
 split
 ·simp
 ·split<;>simp
 ·rfl
noncomputable def mJ (H0:Heap) (S:Addr) (F:Fm):Prop:=∃t,H0.get? S=some (g7 F t)
noncomputable def ux (H0:Heap) (Pk:Pg):Prop:=∀S F,Pk.fmt S=some F→mJ H0 S F
noncomputable def rq (H0:Heap) (c:Cal) (a fv:Value) (first:List Value):Prop:=match c with
 |.fn fa=>fv=.ref fa∧first=[a]
 |.app=>fv=.builtin "list.append"∧first=[a]
 |.get=>fv=.builtin "dict.get"∧first=[a]
 |.into F=>fv=.builtin "_struct.Struct.pack_into"∧first=[a]∧∃S,a=.ref S∧mJ H0 S F
 |.frm F=>fv=.builtin "_struct.Struct.unpack_from"∧first=[a]∧∃S,a=.ref S∧mJ H0 S F
 |.val x=>first=[]∧PRel H0.get? x fv
theorem pH {g:Gm} {d:Addr} {es:List (P × P)} {pl:Sem Bool} {R:Value × List Value→Shared→Prop} (hb:lr g s.heap d (.dict es)) (h:R (.builtin "dict.get",[.ref d]) s):wpN (model prog wd) A (getMethod (.ref d) "get" pl) R s:=by
 refine e0b hb fun _ zr=>e1b zr fun o h1 h2=>?_
 have hx:o.ExactDict:=by
  clear hb pl zr;rcases h2 with ⟨kvs,h3,_⟩|⟨xs,es',ep,h3,_⟩
  ·refine e2b (h3 prog wd) fun _ _ h4 _=>?_;exact h4
  ·exact h3
 exact cQ (getMethod_builtin (T:="dict") ⟨o,h1,hx.1⟩ PySem.F.plainAttrs_dict PySem.F.slot_dict_get PySem.F.type_dict_get (fun b e=>by injection e with e;subst e;exact ⟨o,h1,hx.2.1⟩) h)
theorem pX {m:MI} {b:Bm} (hm:pe H0 prog wd name m) (h:m.bm=b) (hb:b≠.none):name=tI b:=by
 have:=hm.bm (by rw [h];exact hb)
 rw [h] at this
 exact this
theorem th {m:MI} {x:V} {a:Value} {K:Cal→Prop} {pl:Sem Bool} {R:Value × List Value→Shared→Prop} (hF:ux H0 Pk) (hm:pe H0 prog wd name m) (p:Pre H0 f e nm G st s) (hx:dL G.g G.k x a) (h:methK Pk m x st K)
  (hR:∀c fv first t,rq H0 c a fv first→K c→R (fv,first) {s with toks:=t}):wpN (model prog wd) A (getMethod a name pl) R s:=by
 have get:∀{d:Addr} {es:List (P × P)},a=.ref d→lr G.g s.heap d (.dict es)→m.bm=.get→K .get→wpN (model prog wd) A (getMethod a name pl) R s:=fun {d es} ha hb hbm h=>by
  subst ha
  have hn:=pX hm hbm (fun q=>nomatch q)
  subst hn
  exact pH hb (hR .get _ _ s.toks ⟨rfl,rfl⟩ h)
 cases x with
 |ref j=>
  refine e1b hx fun ad h7 zq2=>?_;clear hx;subst zq2
  refine e1b (eT h) fun o hj h=>?_
  cases o with
  |cinst c fs ver=>
   clear get
   refine e1b (eT h) fun fa hfa h=>?_
   refine e3f (p.inv.obj j _ hj) fun ad' dx sl h1 h2 h3 h4 h5 h6=>?_
   rw [h1] at h7;clear h6 h5;cases h7
   exact hm.fn c fa hfa A s ad dx sl pl R p.h0 h3 (p.inv.gg _ _ h4) (hR (.fn fa) _ _ s.toks ⟨rfl,rfl⟩ h)
  |bx b=>
   refine e1c (p.inv.obj j _ hj) fun ad' h1 h2 hb=>?_
   rw [h1] at h7;obtain rfl:=sj h7
   unfold BH bmB at h
   dsimp only at h
   cases b with
   |lst l=>
    clear get
    refine e2b hb fun vs k ho hv=>?_
    cases hbm:m.bm with
    |append=>
     rw [hbm] at h
     have hn:=pX hm hbm (fun q=>nomatch q)
     clear hj h7;subst hn
     exact cQ (getMethod_list_append ho rfl rfl (hR .app _ _ s.toks ⟨rfl,rfl⟩ h))
    |_=>rw [hbm] at h;exact h.elim
   |dict es=>
    dsimp only at h
    clear hj h7;cases hbm:m.bm with
    |get=>rw [hbm] at h;exact get rfl hb hbm h
    |_=>rw [hbm] at h;exact h.elim
   |ba l=>exact h.elim
  |dead=>exact h.elim
 |inn j k n=>
  refine e3e (p.box hx h) fun ad b key zq3 _ hb hr _=>?_;subst zq3
  unfold inD at hb
  cases b with
  |dict es=>
   dsimp only at hb
   cases hbm:m.bm with
   |get=>rw [hbm] at hb;exact get rfl hr hbm hb
   |_=>rw [hbm] at hb;exact hb.elim
  |_=>exact hb.elim
 |inst c fs=>
  clear get
  refine e1b (eT h) fun fa hfa h=>?_
  refine e4e hx fun ad ob dx vs zq4 h1 zq6 h2 h3=>?_;clear hx;clear h3;subst zq4 zq6
  exact hm.fn c fa hfa A s ad dx _ pl R p.h0 (p.inv.gg _ _ h1) (p.inv.gg _ _ h2) (hR (.fn fa) _ _ s.toks ⟨rfl,rfl⟩ h)
 |p y=>
  clear get
  refine e1b (yO h) fun S zq1 h=>?_;subst zq1
  subst hx
  change vF Pk m S K at h
  unfold vF at h
  cases hS:Pk.fmt S with
  |some F=>
   rw [hS] at h
   unfold fmM at h
   dsimp only at h
   have hs:=hF S F hS
   refine e1a hs fun t ht=>?_
   have ht':=p.h0 _ _ ht
   clear hs;cases hbm:m.bm with
   |pack_into=>
    rw [hbm] at h
    have hn:=pX hm hbm (fun q=>nomatch q)
    clear hF;subst hn
    exact cQ (getMethod_builtin (T:="_struct.Struct") ⟨_,ht',rfl⟩ hM iW p9 (fun a q=>by cases q;exact ⟨_,ht',rfl⟩) (hR (.into F) _ _ s.toks ⟨rfl,rfl,S,rfl,t,ht⟩ h))
   |unpack_from=>
    rw [hbm] at h
    have hn:=pX hm hbm (fun q=>nomatch q)
    clear hF;subst hn
    exact cQ (getMethod_builtin (T:="_struct.Struct") ⟨_,ht',rfl⟩ hM iX qa (fun a q=>by cases q;exact ⟨_,ht',rfl⟩) (hR (.frm F) _ _ s.toks ⟨rfl,rfl,S,rfl,t,ht⟩ h))
   |_=>rw [hbm] at h;exact h.elim
  |none=>
   rw [hS] at h
   refine e1b (eT h) fun x hx h=>?_
   exact hm.val S x hx A s pl R p.h0 fun v t hv=>hR (.val x) v [] t ⟨rfl,hv⟩ h
 |_=>exact h.elim
theorem CF {x:V} {a:Value} {args:List V} {vs:List Value} {Q:V→St→Prop} (p:Pre H0 f e nm G st s) (hx:dL G.g G.k x a) (hv:du G.g G.k args vs) (h:yh Pk .app x args [] st Q) :
  wpN (model prog wd) A (_root_.PySem.call (.builtin "list.append") (a::vs)) (dH H0 f e nm G s st.σ.length Q) s:=by
 refine e1b (gA h) fun y zq1 h=>?_;subst zq1
 refine e1b hv.only fun v zq1 hy=>?_;clear hv;subst zq1
 refine e1d (p.frz hy) fun G₁ le₁ n₁ p₁ hy₁=>?_
 refine e1b (ic h) fun y₂ ey h=>?_
 rw [ey] at hy₁
 generalize (oX y st.σ).2=σ₁ at h n₁ p₁
 refine e3e (p₁.box (hx.le le₁) h) fun ad b key zq3 _ hb hr hup=>?_;clear h hx p ey p₁ hy;subst zq3
 clear h;cases b with
 |lst l=>
  refine e2b hr fun us k ho hl=>?_
  refine cQ (lY ho (by rw [hl.length,sizeLine_eq];exact hb.1) fun h' k' e1 e2=>?_)
  have fin:=dH.leaf (Q:=Q) (st:={st with σ:=ki σ₁ x (.lst (l++[y₂]))}) (s:=s) (hup h' (.lst (l++[y₂])) e2.extBut ⟨_,k',e1,hl.append ⟨v,[],rfl,hy₁,rfl⟩⟩) ⟨rfl,rfl,rfl⟩ (vp (x:=.none) rfl) hb.2
  exact dH.step (.refl _) le₁ (by rw [i9];exact n₁) fin
 |_=>exact hb.elim
theorem BY {x:V} {a:Value} {args:List V} {vs:List Value} {Q:V→St→Prop} (gd:p6 n A) (p:Pre H0 f e nm G st s) (hx:dL G.g G.k x a) (hv:du G.g G.k args vs) (h:yh Pk .get x args [] st Q) :
  wpN (model prog wd) A (_root_.PySem.call (.builtin "dict.get") (a::vs)) (dH H0 f e nm G s st.σ.length Q) s:=by
 refine e1b (gA h) fun y zq1 h=>?_;subst zq1
 refine e1b (ic h) fun y zq1 h=>?_;subst zq1
 refine e1b hv.only fun v zq1 hy=>?_;clear hv;subst zq1
 refine e3e (p.box hx h) fun ad b key zq3 _ hb hr hup=>?_;clear h hx hup;subst zq3
 clear h;cases b with
 |dict es=>exact yd (by have:=gd.units;have:cLine=9900:=rfl;lia) p.inv.gg hr hb.1 hy fun z t hz=>.tok p (vp hz) hb.2
 |_=>exact hb.elim
theorem Ad {x:V} {F:Fm} {S:Addr} {t:Tok} {args:List V} {vs:List Value} {Q:V→St→Prop} (p:Pre H0 f e nm G st s) (ht:H0.get? S=some (g7 F t)) (hv:du G.g G.k args vs) (h:yh Pk (.into F) x args [] st Q) :
  wpN (model prog wd) A (_root_.PySem.call (.builtin "_struct.Struct.pack_into") (.ref S::vs)) (dH H0 f e nm G s st.σ.length Q) s:=by
 refine e2b (ly h) fun buf r zq2 h=>?_;subst zq2
 refine e2b (ly h) fun off r zq2 h=>?_;subst zq2
 refine e1b (gA h) fun m zq1 h=>?_;subst zq1
 refine e1b (fS h) fun off zq1 h=>?_;subst zq1
 refine e1b (fS h) fun m zq1 h=>?_;subst zq1
 refine e2c hv.head fun vb r q hbuf hv1=>e2c hv1.two fun v w q1 A B=>e1a A fun ot q2=>e1a B fun nt q3=>?_;clear hv hv1 A B;subst q q1 q2 q3
 refine e3e (p.box hbuf h) fun ad b key q _ hb hr hup=>?_;clear h hbuf;subst q
 clear h;cases b with
 |ba l=>
  refine e0b hb fun zn1 q=>e0e zn1 fun b1 b2 b3 b4 b5=>?_
  refine cQ (oo (p.h0 _ _ ht) hr b1 b2 (by rw [sizeLine_eq];exact b3) b4 b5 fun h' e1 e2=>?_)
  have fin:=dH.leaf (Q:=Q) (st:={st with σ:=ki st.σ buf (.ba (put l off.toNat (le F.w m)))}) (s:=s) (hup h' (.ba (put l off.toNat (le F.w m))) e2.extBut e1) ⟨rfl,rfl,rfl⟩ (vp (x:=.none) rfl) q
  exact dH.step (.refl _) (.refl _) (by rw [i9];exact Nat.le_refl _) fin
 |_=>exact hb.elim
theorem BZ {x:V} {F:Fm} {S:Addr} {t:Tok} {args:List V} {vs:List Value} {Q:V→St→Prop} (p:Pre H0 f e nm G st s) (ht:H0.get? S=some (g7 F t)) (hv:du G.g G.k args vs) (h:yh Pk (.frm F) x args [] st Q) :
  wpN (model prog wd) A (_root_.PySem.call (.builtin "_struct.Struct.unpack_from") (.ref S::vs)) (dH H0 f e nm G s st.σ.length Q) s:=by
 refine e2b (ly h) fun buf r zq2 h=>?_;subst zq2
 refine e1b (gA h) fun off zq1 h=>?_;subst zq1
 refine e1b (fS h) fun off zq1 h=>?_;subst zq1
 refine e2c hv.two fun vb w zq2 hbuf zr=>e1a zr fun ot zq5=>?_;clear hv zr;subst zq2 zq5
 refine e1c (mM p hbuf h) fun l hb zn1 q=>?_;refine e0c zn1 fun b1 b2 b3=>?_
 refine cQ (l9 (p.h0 _ _ ht) hb b1 b2 (by rw [sizeLine_eq];exact b3) ?_)
 refine e1e (p.pushG {cls:=.type "tuple",data:=.seq #[.int (F.rd ((l.drop off.toNat).take F.w)) s.toks]} rfl) fun G' le p' g' k' _=>?_
 exact ⟨G',st,_,⟨rfl,rfl,rfl⟩,le,Nat.le_refl _,p'.toks rfl,vp (x:=.tup [.int _]) ⟨_,_,[.int _ _],0,rfl,g',rfl,_,_,rfl,⟨_,rfl⟩,rfl⟩,q⟩
theorem wB {c:Cal} {x:V} {a fv:Value} {first vs:List Value} {args:List V} {kws:List (Str × P)} {kvs:List (Str × Value)} {Q:V→St→Prop} (hP:wU H0 prog wd n Pk) (gd:p6 n A) (p:Pre H0 f e nm G st s)
  (hc:rq H0 c a fv first) (hx:dL G.g G.k x a) (hv:du G.g G.k args vs) (hk:yL G.g kws kvs) (hkw:(∃fa,c=.fn fa)∨(kws=[]∧kvs=[])) (h:yh Pk c x args kws st Q) :
  (∃kp,Looks (model prog wd) s.heap (keeperOf fv) kp)∧wpN (model prog wd) A (_root_.PySem.call fv (first++vs) kvs) (dH H0 f e nm G s st.σ.length Q) s:=by
 cases c with
 |fn fa=>
  refine e0b hc fun zq0 zq1=>?_;clear hc;subst zq0 zq1
  refine e1a (o7 h) fun ctr hctr=>?_
  refine e1a ((hP fa ctr hctr).keep) fun kp hkp=>?_
  exact ⟨⟨kp,hkp.keeps p.h0⟩,tG hP gd p (args:=x::args) (vs:=a::vs) ⟨a,vs,rfl,hx,hv⟩ hk h⟩
 |app=>
  refine e0b (hkw.resolve_left fun q=>q.elim fun _ q=>nomatch q) fun zq0 zq1=>?_;clear hk;subst zq0 zq1
  refine e0b hc fun zq0 zq1=>?_;clear hc;subst zq0 zq1
  exact ⟨⟨_,Looks.of_pure rfl⟩,CF p hx hv h⟩
 |get=>
  refine e0b (hkw.resolve_left fun q=>q.elim fun _ q=>nomatch q) fun zq0 zq1=>?_;clear hk;subst zq0 zq1
  refine e0b hc fun zq0 zq1=>?_;clear hc;subst zq0 zq1
  exact ⟨⟨_,Looks.of_pure rfl⟩,BY gd p hx hv h⟩
 |into F=>
  refine e0b (hkw.resolve_left fun q=>q.elim fun _ q=>nomatch q) fun zq0 zq1=>?_;clear hk hx;subst zq0 zq1
  obtain ⟨rfl,rfl,S,rfl,t,ht⟩:=hc
  exact ⟨⟨_,Looks.of_pure rfl⟩,Ad p ht hv h⟩
 |frm F=>
  refine e0b (hkw.resolve_left fun q=>q.elim fun _ q=>nomatch q) fun zq0 zq1=>?_;clear hk hx;subst zq0 zq1
  obtain ⟨rfl,rfl,S,rfl,t,ht⟩:=hc
  exact ⟨⟨_,Looks.of_pure rfl⟩,BZ p ht hv h⟩
 |val y=>
  refine e0b (hkw.resolve_left fun q=>q.elim fun _ q=>nomatch q) fun zq0 zq1=>?_;clear hkw hk hx;subst zq0 zq1
  refine e0b hc fun zq0 hy=>?_;clear hc;clear a;subst zq0
  exact tF hP gd p (fx:=.p y) (hy.mono p.inv.base) hv h
end
end
section
section
variable {prog:Program} {wd:World} {A:Around} {H0:Heap} {e:Env} {nm:List (Option Str)} {Pk:Pg} {f:Gm} {G:Gh} {st:St} {s:Shared} {n:Nat}
variable {o fe k:PySem.Expr} {cf ca co ck:C} {pos apos p2:Pos} {args:List PySem.Expr} {name kn:Str} {m:MI}
theorem rq.le {c:Cal} {a fv:Value} {first:List Value} (h:rq H0 c a fv first):rq H0 c a fv first:=h
theorem Am (hP:wU H0 prog wd n Pk) (hF:ux H0 Pk) (gd:p6 n A) (hm:pe H0 prog wd name m) (hb:fq o=true) (hpl:dG args=true) (hlen:decide (args.length<29)=true) (hline:(apos.endLine==pos.line)=true)
  (ho:EJ H0 (model prog wd) A e nm (eval o e) (w Pk co)) (ha:LJ H0 (model prog wd) A e nm (spliced (backTo pos (starEach args e))) (w Pk ca)) :
  EJ H0 (model prog wd) A e nm (eval (.Call (.Attribute o name apos) args [] pos) e) (w Pk (.meth co m ca)):=fun f G s st Q p h=>by
 refine dC (arm_eval_Call ..) ?_
 rw [pZ hb]
 refine cO (fP (ho f G s st _ p h) fun a s₁ G₁ st₁ x sm₁ le₁ n₁ p₁ v₁ q₁=>?_)
 refine cS ?_
 have hform:methodCallForm (args.length+([]:List Keyword).length) (backTo pos (starEach args e)) (backToKw pos (keywordEach [] e))=true:=by
  unfold methodCallForm
  rw [jA hpl,ty]
  exact decide_eq_true (Nat.lt_succ_of_lt (of_decide_eq_true hlen))
 have hpos:methodCallPos true o e apos pos=pure pos:=by unfold methodCallPos;simp [hline]
 unfold methodCall
 rw [hform]
 refine (?_:wpN _ _ (holding [a] (getMethod a name _)>>=_) _ _)
 refine cO (cR (th hF hm p₁ v₁ (jG q₁ :) fun c fv first t hc hq=>?_))
 refine cX (wpAny_of_eq hpos ?_)
 refine fB (fY (R:=fun as s'=>as.kw=[]∧yK H0 f e nm G₁ {s₁ with toks:=t} st₁.σ.length (fun xs st=>yh Pk c x xs [] st fun v st=>Q [v] st) as.pos s') (kN hpl) (cV (ha f G₁ {s₁ with toks:=t} st₁ _ (p₁.toks rfl) hq) fun vs s₂ P=>⟨rfl,P⟩)) ?_
 intro as s₂ hh
 clear p₁ h p;obtain ⟨vs,kw⟩:=as
 refine e0b hh fun zq0 zr=>e3f zr fun G₂ st₂ xs sm₂' le₂ n₂ p₂ v₂ q₂=>?_;clear hh;clear q₁ ha ho hline hlen hpl hb hm hF hpos hform zr hq;subst zq0
 have sm₂:gr s₁ s₂:=(show gr s₁ {s₁ with toks:=t} from ⟨rfl,rfl,rfl⟩).trans sm₂'
 refine e0b (wB hP gd p₂ hc (v₁.le le₂) v₂ (kws:=[]) (kvs:=[]) rfl (.inr ⟨rfl,rfl⟩) q₂) fun h1 h2=>?_
 exact ⟨h1,cV h2 fun v s₃ P=>P.step (sm₁.trans sm₂) (le₁.trans le₂) (Nat.le_trans n₁ n₂)⟩
theorem ya {kp:Pos} (hP:wU H0 prog wd n Pk) (hF:ux H0 Pk) (gd:p6 n A) (hm:pe H0 prog wd name m) (hb:fq o=true) (hpl:dG args=true) (hlen:decide (args.length<28)=true) (hline:(apos.endLine==pos.line)=true)
  (ho:EJ H0 (model prog wd) A e nm (eval o e) (w Pk co)) (ha:LJ H0 (model prog wd) A e nm (spliced (backTo pos (starEach args e))) (w Pk ca)) (hk:EJ H0 (model prog wd) A e nm (eval k e) (w Pk ck)) :
  EJ H0 (model prog wd) A e nm (eval (.Call (.Attribute o name apos) args [⟨some kn,k,kp⟩] pos) e) (w Pk (.methK co m ca kn ck)):=fun f G s st Q p h=>by
 refine dC (arm_eval_Call ..) ?_
 rw [pZ hb]
 refine cO (fP (ho f G s st _ p h) fun a s₁ G₁ st₁ x sm₁ le₁ n₁ p₁ v₁ q₁=>?_)
 refine cS ?_
 have hform:methodCallForm (args.length+([⟨some kn,k,kp⟩]:List Keyword).length) (backTo pos (starEach args e)) (backToKw pos (keywordEach [⟨some kn,k,kp⟩] e))=true:=by
  unfold methodCallForm
  rw [jA hpl,ty]
  exact decide_eq_true (Nat.succ_lt_succ (Nat.succ_lt_succ (of_decide_eq_true hlen)))
 have hpos:methodCallPos true o e apos pos=pure pos:=by unfold methodCallPos;simp [hline]
 unfold methodCall
 rw [hform]
 refine (?_:wpN _ _ (holding [a] (getMethod a name _)>>=_) _ _)
 refine cO (cR (th (K:=fun c=>∃fa,c=.fn fa∧w Pk ca st₁ fun xs st=>w Pk ck st fun k st=>one k fun k=>p1 k fun k=>fj Pk fa (x::xs) [(kn,k)] st fun v st=>Q [v] st) hF hm p₁ v₁ (zY (jG q₁ :) fun fa h=>⟨fa,rfl,h⟩) fun c fv first t hc hq=>?_))
 refine cX (wpAny_of_eq hpos ?_)
 revert hq;intro zh;refine e1b zh fun fa zq1 hq=>?_;clear zh;clear q₁ ho hline hlen hb hm hF h hpos hform p;subst zq1
 refine e0b hc fun zq0 zq1=>?_;clear hc;subst zq0 zq1
 refine fB (pj (R:=fun as s'=>∃kv,as.kw=[(kn,kv)]∧∃G' st' xs kx,gr {s₁ with toks:=t} s'∧G₁.Le G'∧st₁.σ.length≤st'.σ.length∧Pre H0 f e nm G' st' s'∧du G'.g G'.k xs as.pos∧dL G'.g G'.k kx kv∧
   p1 kx fun k=>fj Pk fa (x::xs) [(kn,k)] st' fun v st=>Q [v] st) (kN hpl) (BC (ha f G₁ {s₁ with toks:=t} st₁ _ (p₁.toks rfl) hq) fun vs s₂ G₂ st₂ xs sm₂ le₂ n₂ p₂ v₂ q₂=>?_)) ?_
 ·refine (?_:wpN _ _ (eval k e>>=fun v=>standAt pos>>=fun _=>pure v) _ _)
  refine cO (fP (hk f G₂ s₂ st₂ _ p₂ q₂) fun kv s₃ G₃ st₃ kx sm₃ le₃ n₃ p₃ v₃ q₃=>?_)
  exact cS (wpN_pure ⟨kv,rfl,G₃,st₃,xs,kx,sm₂.trans sm₃,le₂.trans le₃,Nat.le_trans n₂ n₃,p₃,v₂.le le₃,v₃,q₃⟩)
 ·intro as s₂ hh
  clear hq;obtain ⟨vs,kw⟩:=as
  refine e1b hh fun kv zq1 zr=>e4g zr fun G₂ st₂ xs kx sm₂' le₂ n₂ p₂ v₂ kv₂ q₂=>?_;clear hh;clear hk ha hpl kp;subst zq1
  refine e1b (ic q₂) fun kp' zq1 q₂=>?_;subst zq1
  have sm₂:gr s₁ s₂:=(show gr s₁ {s₁ with toks:=t} from ⟨rfl,rfl,rfl⟩).trans sm₂'
  refine e0b (wB hP gd p₂ (c:=.fn fa) ⟨rfl,rfl⟩ (v₁.le le₂) v₂ (kws:=[(kn,kp')]) ⟨kv,[],rfl,kv₂,rfl⟩ (.inl ⟨fa,rfl⟩) (show yh Pk (.fn fa) x xs [(kn,kp')] st₂ (fun v st=>Q [v] st) from q₂)) fun h1 h2=>?_
  exact ⟨h1,cV h2 fun v s₃ P=>P.step (sm₁.trans sm₂) (le₁.trans le₂) (Nat.le_trans n₁ n₂)⟩
theorem dJ.toV0 {g:Gm} {k:lI}:∀{l:List P} {vs:List Value},dJ g l vs→du g k (l.map .p) vs
 |[],_,h=>h
 |_::_,_,⟨v,r,e,h1,h2⟩=>⟨v,r,e,h1,h2.toV0⟩
theorem du.app {g:Gm} {k:lI}:∀{xs ys:List V} {vs us:List Value},du g k xs vs→du g k ys us→du g k (xs++ys) (vs++us)
 |[],_,_,_,h,h'=>by subst h;exact h'
 |_::_,_,_,_,⟨v,r,e,h1,h2⟩,h'=>by subst e;exact ⟨v,_,rfl,h1,h2.app h'⟩
theorem z7 {rest:List PySem.Expr} {ps:Pos} {cx cr:C} (hx:EJ H0 (model prog wd) A e nm (eval k e) (w Pk cx)) (hr:LJ H0 (model prog wd) A e nm (spliced (backTo pos (starEach rest e))) (w Pk cr)) :
  LJ H0 (model prog wd) A e nm (spliced (backTo pos (starEach (.Starred k ps::rest) e))) (w Pk (.cons (.star cx) cr)):=fun f G s st Q p h=>by
 refine (?_:wpN _ _ (spliced ((true,(do let v ←eval k e;standAt pos;pure v))::backTo pos (starEach rest e))) _ _)
 rw [spliced]
 refine cO (cO (fP (hx f G s st _ p h) fun v s₁ G₁ st₁ x sm₁ le₁ n₁ p₁ v₁ q₁=>cS (wpN_pure ?_)))
 refine e1b (zt (jG q₁ :)) fun l zq1 q₁=>?_;clear hx ps h;subst zq1
 refine e4d v₁ fun ad o vs n zq4 h1 zq6 h2=>?_;clear v₁;clear cx;subst zq4 zq6
 have hT:s₁.TypeIs (.ref ad) "tuple":=⟨_,p₁.inv.gg _ _ h1,rfl⟩
 refine cO ?_
 unfold notIterableAtAll
 refine cX (wpAny_specialOf hT PySem.F.slot_tuple_iter.lookup (dW rfl (wpN_pure ?_)))
 refine cW rfl ?_
 refine cO ?_
 refine cQ (wpAny_collect_seq ad (.inr rfl) (p₁.inv.gg _ _ h1) rfl rfl (fun h' hk=>?_) (by rw [List.size_toArray,h2.length,sizeLine_eq];exact q₁.1))
 have p₂:Pre H0 f e nm G₁ st₁ {s₁ with heap:=h'}:=p₁.keeps hk
 refine cO (cR (BC (hr f G₁ {s₁ with heap:=h'} st₁ _ p₂ q₁.2) fun vs' s₂ G₂ st₂ xs sm₂ le₂ n₂ p₃ v₂ q₂=>wpN_pure ?_))
 refine ⟨G₂,st₂,l.map .p++xs,⟨sm₂.1.trans sm₁.1,sm₂.2.trans sm₁.2,sm₂.3.trans sm₁.3⟩,le₁.trans le₂,Nat.le_trans n₁ n₂,p₃,?_,q₂⟩
 exact du.app (by simpa using (h2.mono le₂.g).toV0) v₂
theorem xq (h:args.any eI=true):(backTo pos (starEach args e)).all (!·.1)=false:=by
 induction args with
 |nil=>exact ft h
 |cons x r ih=>
  cases hx:eI x with
  |true=>exact (xp (xs:=r) (e:=e) hx).elim fun t q=>q.elim fun z q=>by rw [q];rfl
  |false=>rw [rH hx];exact ih (by rw [List.any_cons,hx] at h;exact h)
noncomputable def mz:List PySem.Expr→Bool
 |[]=>false
 |x::r=>!eI x&&r.any eI
theorem mw {b fa:Addr} {x:Value} {a:Args} {R:Flow→Shared→Prop} (hb:s.heap.get? b=some (methodObj (.ref fa) x))
  (hq:eW (model prog wd) A (.call (.ref fa) {a with pos:=x::a.pos}) R s):eW (model prog wd) A (.call (.ref b) a) R s:=by
 refine dj rfl ?_
 refine (?_:wpN _ A.in1 (callAny (.ref b) a) _ _)
 unfold callAny
 refine cX (wpAny_load hb ?_)
 exact wpN_pure ⟨rfl,hq⟩
theorem x9 (hP:wU H0 prog wd n Pk) (gd:p6 n A) (hm:pe H0 prog wd name m) (hbd:m.bd=true) (hb:fq o=true) (hst:mz args=true)
  (ho:EJ H0 (model prog wd) A e nm (eval o e) (w Pk co)) (ha:LJ H0 (model prog wd) A e nm (spliced (backTo pos (starEach args e))) (w Pk ca)) :
  EJ H0 (model prog wd) A e nm (eval (.Call (.Attribute o name apos) args [] pos) e) (w Pk (.methS co m ca)):=fun f G s st Q p h=>by
 cases args with
 |nil=>exact ft hst
 |cons x0 rest=>
 have hst':eI x0=false∧rest.any eI=true:=by
  unfold mz at hst
  simpa using hst
 have hany:(x0::rest).any eI=true:=by rw [List.any_cons,hst'.2,Bool.or_true]
 refine dC (arm_eval_Call ..) ?_
 rw [pZ hb]
 refine cO (fP (ho f G s st _ p h) fun a s₁ G₁ st₁ x sm₁ le₁ n₁ p₁ v₁ q₁=>?_)
 refine cS ?_
 have hform:methodCallForm ((x0::rest).length+([]:List Keyword).length) (backTo pos (starEach (x0::rest) e)) (backToKw pos (keywordEach [] e))=false:=by
  unfold methodCallForm
  rw [xq hany];rfl
 have hpos:methodCallPos false o e apos pos=pure pos:=by unfold methodCallPos;rfl
 unfold methodCall
 rw [hform]
 have key:∀(ad fa:Addr) (c dx:Addr) (sl:Array (Option Value)),a=.ref ad→s₁.heap.get? ad=some (kX c dx sl)→s₁.heap.get? dx=some emptyDict→m.fn.lookup c=some fa→
   w Pk ca st₁ (fun xs st=>fj Pk fa (x::xs) [] st fun v st=>Q [v] st)→
   wpN (model prog wd) A (do
    let (f,first) ←holding [a] (calleeOf false o e a name)
    let callPos ←methodCallPos false o e apos pos
    callWith callPos f first (backTo pos (starEach (x0::rest) e)) (backToKw pos (keywordEach [] e))) (dH H0 f e nm G s st.σ.length fun x st=>Q [x] st) s₁:=fun ad fa c dx sl ea h1 h2 h3 h4=>by
  clear ho hst hb hform hany h p;subst ea
  refine e0b (hm.bnd hbd c fa h3) fun hB zr=>e2b zr fun of fd hf1 hf2=>?_
  refine cO (cR ?_)
  refine (?_:wpN _ _ (getAttr (.ref ad) name true>>=fun v=>pure (v,[])) _ _)
  refine cO (hB A s₁ ad dx sl _ p₁.h0 h1 h2 fun t=>wpN_pure ?_)
  refine e1e (p₁.pushG (methodObj (.ref fa) (.ref ad)) rfl) fun G₂ le₂ p₂ g₂ k₂ _=>?_
  have p₃:Pre H0 f e nm G₂ st₁ {s₁ with heap:=s₁.heap.push (methodObj (.ref fa) (.ref ad)),toks:=t}:=p₂.toks rfl
  refine cX (wpAny_of_eq hpos ?_)
  refine fB (fY (R:=fun as s'=>as.kw=[]∧yK H0 f e nm G₂ {s₁ with heap:=s₁.heap.push (methodObj (.ref fa) (.ref ad)),toks:=t} st₁.σ.length (fun xs st=>fj Pk fa (x::xs) [] st fun v st=>Q [v] st) as.pos s')
   (fun y hy=>?_) (cV (ha f G₂ _ st₁ _ p₃ h4) fun vs s₂ P=>⟨rfl,P⟩)) ?_
  ·have e1:starEach (x0::rest) e=(false,eval x0 e)::starEach rest e:=by clear k₂ p₂ hB;cases x0<;>first|rfl|exact tf hst'.1
   rw [e1] at hy
   clear e1 k₂ p₂ hB;cases (List.cons.inj hy).1
  ·intro as s₂ hh
   clear k₂ p₂ hB;obtain ⟨vs,kw⟩:=as
   refine e0b hh fun zq0 zr=>e3f zr fun G₃ st₃ xs sm₃ le₃ n₃ p₄ v₃ q₃=>?_;clear hh;clear ha hbd hm hst' rest p₃ hpos;subst zq0
   have hq:=p₄.inv.gg _ _ (le₃.g _ _ g₂)
   refine ⟨⟨.boundFrame,?_⟩,?_⟩
   ·unfold keeperOf
    refine (Looks.ld hq).andThen ?_
    refine (Looks.ld (p₄.h0 _ _ hf1)).andThen ?_
    rw [hf2];exact .now
   ·have hcode:=o8 hP gd p₄ (args:=x::xs) (vs:=.ref ad::vs) (kws:=[]) (kvs:=[]) ⟨.ref ad,vs,rfl,v₁.le (le₂.trans le₃),v₃⟩ rfl q₃
    refine wpN_call (dY (mw hq hcode) fun fl s' hfl=>?_)
    clear x0 q₃ v₃ hcode hq;cases fl with
    |ret v=>exact dH.step ⟨sm₃.1.trans sm₁.1,sm₃.2.trans sm₁.2,sm₃.3.trans sm₁.3⟩ (le₁.trans (le₂.trans le₃)) (Nat.le_trans n₁ n₃) hfl
    |_=>exact hfl.elim
 have q₁:=jG q₁
 clear le₁ sm₁;cases x with
 |ref j=>
  refine e1b (eT q₁) fun o hj q₁=>?_
  refine e3b (mD q₁) fun c fs ver zq3 q₁=>?_;clear ha ho hst hb hbd hm gd hP n₁;subst zq3
  refine e1b (eT q₁) fun fa hfa q₁=>?_
  refine e3f (p₁.inv.obj j _ hj) fun ad' dx sl h1 h2 h3 h4 h5 h6=>?_
  refine e1b (id v₁) fun ad h7 ea=>?_
  rw [h1] at h7;obtain rfl:=sj h7
  exact key ad' fa c dx sl ea h3 (p₁.inv.gg _ _ h4) hfa q₁
 |inst c fs=>
  refine e1b (eT q₁) fun fa hfa q₁=>?_
  refine e4e (id v₁) fun ad ob dx vs ea h1 zq6 h2 h3=>?_;clear ha ho hst hb hbd hm gd hP;subst zq6
  exact key ad fa c dx _ ea (p₁.inv.gg _ _ h1) (p₁.inv.gg _ _ h2) hfa q₁
 |_=>exact q₁.elim
noncomputable def wQ (H0:Heap) (prog:Program) (wd:World) (nme:Str) (c:Addr) (k:Nat):Prop:=∀(A:Around) (s:Shared) (a dx:Addr) (sl:Array (Option Value)) (v:Value) (Q:Unit→Shared→Prop),
 (∀b o,H0.get? b=some o→s.heap.get? b=some o)→s.heap.get? a=some (kX c dx sl)→s.heap.get? dx=some emptyDict→
 (∀h' t,h'.get? a=some (kX c dx ((sl++Array.replicate (k+1-sl.size) none).setIfInBounds k (some v)))→Heap.SameBut a s.heap h'→Q () {s with heap:=h',toks:=t})→wpN (model prog wd) A (setAttr (.ref a) nme v) Q s
structure AQ (H0:Heap) (prog:Program) (wd:World) (nme:Str) (i:AI):Prop where
 slot:∀c k,i.slots.lookup c=some k→wQ H0 prog wd nme c k
theorem uR {sl:Array (Option Value)} {k:Nat} {v:Value}:(((sl++Array.replicate (k+1-sl.size) none).setIfInBounds k (some v))[k]?).join=some v:=by
 rw [Array.getElem?_setIfInBounds_self_of_lt (by simp;lia)];rfl
theorem tU {sl:Array (Option Value)} {k j:Nat} {v:Value} (h:j≠k):(((sl++Array.replicate (k+1-sl.size) none).setIfInBounds k (some v))[j]?).join=(sl[j]?).join:=by
 rw [Array.getElem?_setIfInBounds_ne (Ne.symm h),Array.getElem?_append]
 clear h;split
 ·rfl
 ·rename_i q
  rw [Array.getElem?_eq_none (by exact (cT [] [_,_] ab ae 1 [.j 1 ab ae] rfl (Nat.not_lt.mp q)):sl.size≤j)]
  clear v;cases hq:(Array.replicate (k+1-sl.size) (none:Option Value))[j-sl.size]? with
  |none=>rfl
  |some y=>rw [Array.getElem?_replicate] at hq;split at hq<;>cases hq;rfl
noncomputable def rt (G:Gh) (j k ver:Nat) (t:Option Addr):Gh:=⟨G.g,⟨G.k.id,fun i m v=>if i=j∧v=ver+1 then (if m=k then t else G.k.inn j m ver) else G.k.inn i m v⟩,fun a=>if t=some a then some (j+1,k+1) else G.ow a⟩
theorem Pre.setSlot (p:Pre H0 f e nm G st s) {j k ver:Nat} {c:Addr} {fs:List Sl} {ne:Sl} {a dx:Addr} {sl:Array (Option Value)} {v:Value} {t:Option Addr} {h':Heap} {tk:Nat} {σ':List O}
  (hj:st.σ[j]? = some (.cinst c fs ver)) (ha:G.k.id j=some a) (hg:h'.get? a=some (kX c dx ((sl++Array.replicate (k+1-sl.size) none).setIfInBounds k (some v)))) (hs:Heap.SameBut a s.heap h')
  (h0:s.heap.get? a=some (kX c dx sl)) (ht:∀x,t=some x→∃r,G.ow x=some (r+1,0)∧r≠j∧σ'[r]? = some .dead)
  (hn:A9 (rt G j k ver t) h' j (ver+1) k (some v) ne) (hσ:σ'.length=st.σ.length) (hσj:σ'[j]? = some (.cinst c (fs.set k ne) (ver+1))) (hσo:∀i o,i≠j→σ'[i]? = some o→o=.dead∨(st.σ[i]? = some o∧∀x,t=some x→G.ow x≠some (i+1,0))) :
  G.Le (rt G j k ver t)∧Pre H0 f e nm (rt G j k ver t) {st with σ:=σ'} {s with heap:=h',toks:=tk}:=by
 refine e3f (p.inv.obj j _ hj) fun a' dx' sl' h1 h2 h3 h4 h5 h6=>?_
 rw [ha] at h1;cases h1
 rw [h0] at h3;cases h3
 have hjl:j<st.σ.length:=(List.getElem?_eq_some_iff.mp hj).1
 have le:G.Le (rt G j k ver t):=⟨fun _ _ h=>h,fun _ _ h=>h,fun i m v x h=>by
  simp only [rt]
  split
  ·rename_i q;refine e0b q fun zq0 zq1=>?_;clear q;clear h0 hj tk;subst zq0 zq1;have:=h6 m _ x h;lia
  ·exact h⟩
 have how:∀x y,G.ow x=some y→(∀z,t=some z→x≠z)→(rt G j k ver t).ow x=some y:=fun x y h q=>by
  simp only [rt]
  split
  ·rename_i q';exact absurd rfl (q _ q')
  ·exact h
 have hne:∀x y,G.ow x=some y→y≠(j+1,0)→∀o,s.heap.get? x=some o→h'.get? x=some o:=fun x y h1 h3 o ho=>(hs.2 x fun q=>by clear h0 hj tk;subst q;rw [h2] at h1;cases h1;exact h3 rfl).trans ho
 have hog:∀b,G.ow b=none→∀o,s.heap.get? b=some o→h'.get? b=some o:=fun b hb o ho=>(hs.2 b fun q=>by clear h0 hj tk;subst q;rw [h2] at hb;exact sn hb).trans ho
 have gnone:∀b o,G.g b=some o→G.ow b=none:=fun b o hb=>by
  cases q:G.ow b with
  |none=>rfl
  |some y=>rw [(p.inv.own b y q).1] at hb;exact ns hb
 have fnone:∀b o,f b=some o→G.ow b=none:=fun b o hb=>by
  cases q:G.ow b with
  |none=>rfl
  |some y=>rw [(p.inv.own b y q).2.1] at hb;exact ns hb
 have tne:∀b y,G.ow b=some y→(∀r,y≠(r+1,0))→∀z,t=some z→b≠z:=fun b y h q z hz hb=>by
  clear h0 hj tk;subst hb
  refine e1b (ht _ hz) fun r h3 _=>?_
  rw [h] at h3;obtain rfl:=sj h3;exact q r rfl
 refine ⟨le,⟨p.inv.base,fun b o h=>hog b (gnone b o h) o (p.inv.gg b o h),fun b o h=>hog b (fnone b o h) o (p.inv.ff b o h),p.inv.fg,fun b y h=>?_,fun i o h=>?_,fun i h=>?_⟩,?_,p.len⟩
 ·have:∃y,G.ow b=some y:=by
   simp only [rt] at h
   split at h
   ·rename_i q;refine e1b (ht b q) fun r h3 _=>?_;exact ⟨_,h3⟩
   ·exact ⟨_,h⟩
  refine e1a this fun y' hy=>?_
  refine e0c (p.inv.own b y' hy) fun g1 g2 zr=>e1a zr fun o g3=>?_
  refine ⟨g1,g2,?_⟩
  by_cases q:b=a
  ·clear h0 hj g2 g1 fnone gnone hog zr;subst q;exact ⟨_,hg⟩
  ·exact ⟨o,(hs.2 b q).trans g3⟩
 ·dsimp only at h
  by_cases q:i=j
  ·clear h0 hs hj fnone gnone hog;subst q
   rw [hσj] at h;obtain rfl:=sj h
   refine ⟨a,dx,_,ha,how a _ h2 fun z hz hb=>?_,hg,h4,fun m y hy=>?_,fun m n' x hx=>?_⟩
   ·clear hσj hg ha tk;subst hb;refine e1c (ht _ hz) fun r h3 h7 _=>?_;rw [h2] at h3;clear h4;cases h3;exact h7 rfl
   ·by_cases qm:m=k
    ·clear hσj hg ha h2;subst qm
     rw [uR]
     rw [List.getElem?_set] at hy
     split at hy
     ·split at hy
      ·clear h4;obtain rfl:=sj hy;exact hn
      ·exact ns hy
     ·rename_i q';exact absurd rfl q'
    ·rw [List.getElem?_set_ne (Ne.symm qm)] at hy
     rw [tU qm]
     have:=h5 m y hy
     clear h2 hy;cases y with
     |unset=>exact this
     |v px=>exact this
     |bx b=>
      refine e1d this fun x e1 e2 e3 e4=>?_
      refine ⟨x,e1,by simp only [rt];rw [if_pos ⟨trivial,trivial⟩,if_neg qm];exact e2,how x _ e3 (tne x _ e3 fun r q'=>by clear e2 qm e1;cases q'),e4.mono (fun _ _ h=>h) (hne x _ e3 fun q'=>by clear e3 e2 qm e1;cases q')⟩
   ·simp only [rt] at hx
    split at hx
    ·rename_i q';exact cT [] [_,_] ab bc 1 [.j 1 ab bc] rfl (Nat.le_of_eq (And.right q'))
    ·have:=h6 m n' x hx;exact cT [] [_,_] ab bc 1 [.j 1 ab ae] rfl this
  ·clear h2;rcases hσo i o q h with rfl|⟨h7,h8⟩
   ·trivial
   ·refine nX.mono (G:=G) (fun _ _ h=>h) (fun _ h=>h) (fun m v=>by simp only [rt];rw [if_neg fun q'=>q q'.1]) (fun b j' hb=>⟨how b _ hb fun z hz hbz=>?_,hne b _ hb fun q'=>by cases q';exact q rfl⟩) (p.inv.obj i o h7)
    clear hσo hσj hn h0 hs hg ha hj tk ne c h7;subst hbz
    refine e1b (ht _ hz) fun r h9 _=>?_
    rw [hb] at h9;clear ht;cases h9
    exact h8 _ hz hb
 ·dsimp only at h
  have:=p.inv.dom i (by exact cT [] [_,_,_] ab ae 1 [.j 1 ab ak,.j 1 ak ae] rfl (Nat.le_of_eq (Eq.symm hσ)) h)
  exact ⟨this.1,fun m v=>by simp only [rt];rw [if_neg fun q=>by exact (y3 [] [_,_,_,_] [.j 1 (.v 0) (.v 1), .j 1 (.a (.v 2) (.n 1)) (.v 0), .j 1 (.v 1) (.v 3), .j 1 (.v 3) (.v 2)] rfl (Nat.le_of_eq (Eq.symm hσ)) hjl h (Nat.le_of_eq (And.left q)))];exact this.2 m v⟩
 ·have fr0:∀b j',G.ow b=some (0,j')→(rt G j k ver t).ow b=some (0,j'):=fun b j' hb=>how b _ hb (tne b _ hb fun r q=>by clear hσo hσj hσ hn ht h0 hs hg ha hj σ' tk v ne c;cases q)
  refine (p.fr.le le fr0).keep fun b j' hb o ho=>?_
  simp only [rt] at hb
  split at hb
  ·clear hσo hσj hσ hn ht h0 hs hg ha hj σ' v ne c;cases hb
  ·exact hne b _ hb (fun q=>by clear hσo hσj hσ hn ht h0 hs hg ha hj σ' tk v ne c;cases q) o ho
theorem xv {i:AI} {x y:V} {a v:Value} {Q:St→Prop} (hA:AQ H0 prog wd name i) (p:Pre H0 f e nm G st s) (hx:dL G.g G.k x a) (hy:dL G.g G.k y v) (h:Bu Pk i x y st Q) {R:Unit→Shared→Prop}
  (hR:∀G' st' s',gr s s'→G.Le G'→st'.σ.length=st.σ.length→Pre H0 f e nm G' st' s'→Q st'→R () s') :
  wpN (model prog wd) A (setAttr a name v) R s:=by
 cases x with
 |ref j=>
  refine e1b (eT h) fun o hj h=>?_
  refine e3b (mD h) fun c fs ver zq3 h=>?_;subst zq3
  refine e1b (eT h) fun k hk h=>?_
  refine e1b (eT h) fun old hold h=>?_
  refine e3f (p.inv.obj j _ hj) fun ad dx sl h1 h2 h3 h4 h5 h6=>?_
  refine e1b hx fun ad' h7 zq2=>?_;clear hx;clear h6 h5 hold old;subst zq2
  rw [h1] at h7;obtain rfl:=sj h7
  have hjl:j<st.σ.length:=(List.getElem?_eq_some_iff.mp hj).1
  refine hA.slot c k hk A s ad dx sl v _ p.h0 h3 (p.inv.gg _ _ h4) fun h' t e1 e2=>?_
  cases y with
  |p px=>
   refine e0b (p.setSlot (ne:=.v px) (t:=none) (tk:=t) (σ':=st.σ.set j (.cinst c (fs.set k (.v px)) (ver+1))) hj h1 e1 e2 h3 (fun x q=>by exact ns q) ⟨v,rfl,hy⟩ (by simp) (by simp [hjl]) (fun i o q ho=>.inr ⟨by rwa [List.getElem?_set_ne (Ne.symm q)] at ho,fun x q'=>by exact ns q'⟩)) fun le p'=>?_
   exact hR _ _ _ ⟨rfl,rfl,rfl⟩ le (by simp) p' h
  |ref r=>
   refine e0b (show _∧_ from h) fun hown h=>?_
   refine e1b (eT h) fun o hr h=>?_
   cases o with
   |bx b=>
    have hrj:r≠j:=fun q=>by clear hA hown h7 h4 hk;subst q;rw [hj] at hr;cases hr
    refine e1c (p.inv.obj r _ hr) fun ar g1 g2 g3=>?_
    refine e1b hy fun ar' g4 zq2=>?_;clear hy;clear hA hown h7 h4 hk;subst zq2
    rw [g1] at g4;obtain rfl:=sj g4
    have hrl:r<st.σ.length:=(List.getElem?_eq_some_iff.mp hr).1
    clear hr;obtain ⟨le,p'⟩:=p.setSlot (ne:=.bx b) (t:=some ar) (tk:=t) (σ':=(st.σ.set j (.cinst c (fs.set k (.bx b)) (ver+1))).set r .dead) hj h1 e1 e2 h3
     (fun x q=>by clear e1;obtain rfl:=sj q;exact ⟨r,g2,hrj,by simp [hrl]⟩)
     ⟨ar,rfl,by simp [rt],by simp [rt],g3.mono (fun _ _ h=>h) fun o ho=>(e2.2 ar fun q=>by clear t p g3 g4 g1;subst q;rw [h2] at g2;clear e2;cases g2;exact hrj rfl).trans ho⟩ (by simp) (by rw [List.getElem?_set_ne hrj];simp [hjl])
     (fun i o q ho=>by
      by_cases qr:i=r
      ·clear t p g3 hrj hjl;subst qr;rw [List.getElem?_set_self (by simpa using hrl)] at ho;clear hrl;obtain rfl:=sj ho;exact .inl rfl
      ·rw [List.getElem?_set_ne (Ne.symm qr),List.getElem?_set_ne (Ne.symm q)] at ho
       exact .inr ⟨ho,fun x q' hx=>by clear t p;obtain rfl:=sj q';rw [g2] at hx;cases hx;exact qr rfl⟩)
    exact hR _ _ _ ⟨rfl,rfl,rfl⟩ le (by simp) p' h
   |_=>exact h.elim
  |_=>exact h.elim
 |_=>exact h.elim
theorem zG {i:AI} {l:PySem.Expr} {cl:C} (hA:AQ H0 prog wd name i) (hc:fC l=false) (ht:uc l=false) (hl:EJ H0 (model prog wd) A e nm (eval l e) (w Pk cl)) (ho:EJ H0 (model prog wd) A e nm (eval o e) (w Pk co)) :
  SJ H0 (model prog wd) A e nm (exec (.Assign [.Attribute o name p2] l pos) e) (wS Pk (.setA co i cl)):=fun f G s st Q m p hm h=>by
 have e0:exec (.Assign [.Attribute o name p2] l pos) e=(do
   standAt pos
   if ←swapsWith l (some (.Attribute o name p2)) pos.line e then do
    evalThenUse l e fun v=>assignAll v ((assignEach [.Attribute o name p2] e).map (·.2))
    pure .next
   else do
    let v ←eval l e
    assignStores e v (←swappedStores [.Attribute o name p2] l e) [assign (.Attribute o name p2) e]):=rfl
 refine dC e0 ?_
 rw [kD hc]
 refine cS (cO (wpN_pure (cW rfl ?_)))
 refine cO (fP (hl f G s st _ p h) fun v s₁ G₁ st₁ y sm₁ le₁ n₁ p₁ v₁ q₁=>?_)
 have hsw:swappedStores [.Attribute o name p2] l e=pure none:=rfl
 rw [hsw]
 refine cO (wpN_pure ?_)
 show wpN _ _ (assign (.Attribute o name p2) e v>>=fun _=>pure Flow.next) _ _
 rw [arm_assign_Attribute]
 refine cO (cO (cR (fP (ho f G₁ s₁ st₁ _ p₁ q₁) fun a s₂ G₂ st₂ x sm₂ le₂ n₂ p₂ v₂ q₂=>?_)))
 refine cS (cO (cR (xv hA p₂ v₂ (v₁.le le₂) (jG (jG q₂ :) :) fun G₃ st₃ s₃ sm₃ le₃ n₃ p₃ q₃=>?_)))
 refine (fun Γ p hΓ hc=>by rw [Sem.wp_release];exact wpN_pure (fk.step ((sm₁.trans sm₂).trans sm₃) (((le₁.trans le₂).trans le₃).toN _) (.now p₃ (by rw [n₃];exact Nat.le_trans hm (Nat.le_trans n₁ n₂)) (fl:=.next) rfl q₃)))
end
end
section
open Builtin Builtin.Bytes PySem.W.KBy
section
variable {prog:Program} {wd:World} {A:Around} {E:Value→Shared→Prop} {s:Shared}
theorem gw:Slot "bytearray" "__getitem__" "bytearray.__getitem__":=
 .of (owner:="bytearray") (n:="__getitem__") (by rw [typeLookup_type,builtinLookup_eq_fast];kernel_rfl) (by decide +kernel) (by decide +kernel) (by decide +kernel)
  (by first|exact .inl (by decide +kernel)|exact .inr (by decide +kernel)) (by rw [isSubtype_type];kernel_rfl)
theorem gv:Slot "bytearray" "__setitem__" "bytearray.__setitem__":=
 .of (owner:="bytearray") (n:="__setitem__") (by rw [typeLookup_type,builtinLookup_eq_fast];kernel_rfl) (by decide +kernel) (by decide +kernel) (by decide +kernel)
  (by first|exact .inl (by decide +kernel)|exact .inr (by decide +kernel)) (by rw [isSubtype_type];kernel_rfl)
theorem mv:entryFor table "bytearray.__getitem__" = some Builtin.«bytearray.__getitem__»:=entryFor_of_tree (by kernel_rfl)
theorem mu:entryFor table "bytearray.__setitem__" = some Builtin.«bytearray.__setitem__»:=entryFor_of_tree (by kernel_rfl)
theorem nW (a b:Value):argsOk "bytearray.__getitem__" ⟨[a,b],[]⟩:=by unfold argsOk;kernel_rfl
theorem nV (a b c:Value):argsOk "bytearray.__setitem__" ⟨[a,b,c],[]⟩:=by unfold argsOk;kernel_rfl
theorem pv {a:Addr} {l u:Value} {lo hi:Option Int} {Q:Value × Value × Value→Shared→Prop} (hS:s.heap.IsSliceOf a l u .none) (hl:IsPart l lo) (hu:IsPart u hi) (h:Q (rawPart lo,rawPart hi, .none) s) :
  wpAny (model prog wd) A (Bytes.sliceParts (.ref a)) Q E s:=by
 refine e1c hS fun o ho hc hd=>?_
 unfold Bytes.sliceParts
 refine wpAny_bind (wpAny_field (x:=.none) ho hd rfl ?_)
 kby_none
 refine wpAny_ite (KBy.ite_no (show ¬((Value.none==rawInt 0)=true) from Bool.false_ne_true) ?_)
 refine wpAny_bind (wpAny_field (x:=l) ho hd rfl ?_)
 clear hS hc;cases hl<;>cases hu<;>(first
  |(kby_none;(refine wpAny_bind (wpAny_field (x:=.none) ho hd rfl ?_));kby_none)
  |(kby_none;(refine wpAny_bind (wpAny_field (x:=.int _ _) ho hd rfl ?_));kby_int)
  |(kby_int;(refine wpAny_bind (wpAny_field (x:=.none) ho hd rfl ?_));kby_none)
  |(kby_int;(refine wpAny_bind (wpAny_field (x:=.int _ _) ho hd rfl ?_));kby_int))<;>exact wpAny_pure h
theorem sH {b a:Addr} {bs:List UInt8} {l u:Value} {lo hi:Option Int} {Q:Value→Shared→Prop} (hb:s.heap.get? b=some (eP bs.toArray)) (hz:bs.length≤sizeLine) (hS:s.heap.IsSliceOf a l u .none) (hl:IsPart l lo) (hu:IsPart u hi)
  (h:Q (.ref s.heap.objs.size) {s with heap:=s.heap.push (eP (((bs.drop (lo.elim 0 (clipAt bs.length))).take (hi.elim bs.length (clipAt bs.length)-lo.elim 0 (clipAt bs.length))).toArray))}) :
  wpAny (model prog wd) A (getItem (.ref b) (.ref a)) Q E s:=by
 have hT:s.TypeIs (.ref b) "bytearray":=⟨_,hb,rfl⟩
 refine e1c (id hS) fun o ho hc hd=>?_
 have hTs:s.TypeIs (.ref a) "slice":=⟨o,ho,hc⟩
 refine wpAny_getItem_slot hT (by decide) gw (wpAny_call_entry gw hT mv ?_ (nW _ _))
 unfold Builtin.«bytearray.__getitem__»
 refine wpAny_bind (wpAny_pure ?_)
 refine wpAny_bind (m:=Bytes.subscript? (.ref a)) ?_
 unfold Bytes.subscript?
 refine wpAny_bind (wpAny_specialOf hTs slice_no_index (wpAny_pure ?_))
 refine wpAny_bind (wpAny_typeOf hTs ?_)
 refine bm_if_false rfl ?_
 refine wpAny_bind (pv hS hl hu ?_)
 refine wpAny_bind (m:=payload (.ref b)) ?_
 unfold payload
 refine wpAny_bind (m:=payload? (.ref b)) ?_
 unfold payload?
 refine wpAny_bind (wpAny_load hb ?_)
 refine wpAny_pure (wpAny_pure ?_)
 refine wpAny_bind (wpAny_of_eq (sliceIndices_raw lo hi none bs.toArray.size (fun e=>ns e)) ?_)
 rw [sliceBounds_plain]
 refine wpAny_bind ?_
 unfold Builtin.Bytes.newBytearray
 have e:Bytes.sliced bs.toArray ((lo.elim 0 (clipAt bs.toArray.size):Nat):Int) ((hi.elim bs.toArray.size (clipAt bs.toArray.size):Nat):Int) 1=((bs.drop (lo.elim 0 (clipAt bs.length))).take (hi.elim bs.length (clipAt bs.length)-lo.elim 0 (clipAt bs.length))).toArray:=by
  unfold Bytes.sliced
  simp only [sliceRange_one,pick_run,List.size_toArray]
 rw [e]
 refine wpAny_newObj_type (wpAny_pure ⟨_,rfl,h⟩) ?_
 refine (?_:(List.toArray _).size≤sizeLine)
 rw [List.size_toArray,List.length_take,List.length_drop];lia
theorem xr (bs:List UInt8) (new:List UInt8) (l h:Nat) (hl:l≤h) (hh:h≤bs.length) :
  bs.toArray.extract 0 l++new.toArray++bs.toArray.extract h bs.toArray.size=(bs.take l++new++bs.drop h).toArray:=by
 apply Array.toList_inj.mp
 simp
 rw [List.take_of_length_le (by simp)]
theorem qY (n:Nat) (i:Int):clipAt n i≤n:=by
 have:=clipAt_cast n i
 lia
end
section
variable {prog:Program} {wd:World} {A:Around} {s:Shared}
theorem qb:typeLookup (.type "bytes") "__int__" = pure none:=by rw [typeLookup_type,builtinLookup_eq_fast];kernel_rfl
theorem oh:typeLookup (.type "bytes") "__float__" = pure none:=by rw [typeLookup_type,builtinLookup_eq_fast];kernel_rfl
theorem qg:isSubtype (.type "bytes") (.type "bytearray")=pure false:=by rw [isSubtype_type];kernel_rfl
theorem qf:isSubtype (.type "bytes") (.type "complex")=pure false:=by rw [isSubtype_type];kernel_rfl
theorem si {T name id:String} {B:Builtin} {a:Value} {rest:List Value} {Q:Value→Shared→Prop} (slot:Slot T name id) (hT:s.TypeIs a T) (entry:entryFor table id=some B) (hd:Builtin.Bytes.decodersThatHold.contains id=false)
  (args:argsOk id ⟨a::rest,[]⟩) (h:wpN (model prog wd) A.in1 (B ⟨a::rest,[]⟩) (fun fin s'=>∃v,fin=.done (.ret v)∧Q v s') s):wpN (model prog wd) A (_root_.PySem.call (.builtin id) (a::rest)) Q s:=by
 refine wpN_call (gQ slot.plain entry hd (cQ (slot.check _ _ _ _ _ _ _ _ hT args (cV h fun fin s' hf=>?_))))
 refine e1b hf fun v zq1 hq=>?_;clear hf;clear h args hd entry hT slot rest B id name T;subst zq1
 exact hq
theorem sE {b a:Addr} {bs new:List UInt8} {v l u:Value} {lo hi:Option Int} {Q:Unit→Shared→Prop} (hg:A.guards=some []) (hb:s.heap.get? b=some (eP bs.toArray)) (hv:iR s.heap v new.toArray) (hvb:v≠.ref b)
  (hz:bs.length≤sizeLine) (hzn:new.length≤sizeLine) (hS:s.heap.IsSliceOf a l u .none) (hl:IsPart l lo) (hu:IsPart u hi)
  (hle:lo.elim 0 (clipAt bs.length)≤hi.elim bs.length (clipAt bs.length)) (hn:new.length=hi.elim bs.length (clipAt bs.length)-lo.elim 0 (clipAt bs.length))
  (h:∀h' t,h'.get? b=some (eP (bs.take (lo.elim 0 (clipAt bs.length))++new++bs.drop (hi.elim bs.length (clipAt bs.length))).toArray)→(∀x o,x≠b→s.heap.get? x=some o→h'.get? x=some o)→Q () {s with heap:=h',toks:=t}) :
  wpN (model prog wd) A (setItem (.ref b) (.ref a) v) Q s:=by
 have hT:s.TypeIs (.ref b) "bytearray":=⟨_,hb,rfl⟩
 have hTs:s.TypeIs (.ref a) "slice":=by refine e1c hS fun o ho hc hd=>?_;exact ⟨o,ho,hc⟩
 have hhi:hi.elim bs.length (clipAt bs.length)≤bs.length:=by cases hi with|none=>exact Nat.le_refl _|some i=>exact qY _ _
 unfold setItem
 refine cR ?_
 refine cX (wpAny_sequenceKey hT (by decide) ?_)
 unfold callSpecial?
 refine cO ?_
 refine cX (wpAny_specialOf hT gv.lookup ?_)
 dsimp only
 refine cR ?_
 rw [gv.bind]
 refine cO (wpN_pure ?_)
 refine cO ?_
 refine si gv hT mu (by decide +kernel) (nV _ _ _) ?_
 unfold Builtin.«bytearray.__setitem__»
 refine cW rfl ?_
 dsimp only
 refine cO (m:=Bytes.subscript? (.ref a)) ?_
 unfold Bytes.subscript?
 refine cX (wpAny_specialOf hTs slice_no_index (wpN_pure ?_))
 dsimp only
 refine cX (wpAny_typeOf hTs ?_)
 refine cW rfl ?_
 refine cX (pv hS hl hu ?_)
 have pay:∀{s₁:Shared} {src:Value} {bb:Array UInt8} {Q':Array UInt8→Shared→Prop},iR s₁.heap src bb→Q' bb s₁→wpN (model prog wd) A.in1 (payload src) Q' s₁:=fun {s₁ src bb Q'} hb hq=>by
  refine cQ ?_
  unfold payload
  refine wpAny_bind (m:=payload? src) ?_
  rcases hb with ⟨t,rfl⟩|⟨a',rfl,ha'⟩
  ·exact wpAny_pure (wpAny_pure hq)
  ·unfold payload?
   exact wpAny_bind (wpAny_load ha' (wpAny_pure (wpAny_pure hq)))
 have hsz:(bs.take (lo.elim 0 (clipAt bs.length))++new++bs.drop (hi.elim bs.length (clipAt bs.length))).length=bs.length:=by
  simp only [List.length_append,List.length_take,List.length_drop,hn];lia
 have ups:∀s₁:Shared,s₁.heap.get? b=some (eP bs.toArray)→s₁.gens=s.gens→s₁.drawn=s.drawn→s₁.os=s.os→(∀x o,s.heap.get? x=some o→s₁.heap.get? x=some o)→
   wpAny (model prog wd) A.in1 (updateBytearray b fun b=>b.extract 0 ((lo.elim 0 (clipAt bs.length):Nat):Int).toNat++new.toArray++b.extract (max ((lo.elim 0 (clipAt bs.length):Nat):Int) ((hi.elim bs.length (clipAt bs.length):Nat):Int)).toNat b.size) (fun _ s'=>Q () s') noE s₁:=fun s₁ hb₁ e1 e2 e3 hk=>by
  have ee:(max ((lo.elim 0 (clipAt bs.length):Nat):Int) ((hi.elim bs.length (clipAt bs.length):Nat):Int)).toNat=hi.elim bs.length (clipAt bs.length):=by lia
  have e4:=xr bs new _ _ hle hhi
  rw [ee,Int.toNat_natCast]
  refine dn hb₁ (by rw [e4,List.size_toArray,hsz];exact hz) ?_
  obtain ⟨hh,g,d,tk,os⟩:=s₁
  dsimp only at e1 e2 e3
  clear hn hle hz ee hsz hhi hTs hT;subst e1 e2 e3
  refine h _ _ ((fX _ hb₁).trans (by rw [e4])) fun x o hx ho=>(Heap.get?_update_other _ _ (Ne.symm hx)).trans (hk x o ho)
 rcases hv with ⟨t,rfl⟩|⟨a',rfl,ha'⟩
 ·refine cW rfl ?_
  have T:Looks (model prog wd) s.heap (typeOf (.bytes new.toArray t)) (.type "bytes"):=Looks.of_pure rfl
  refine cX ((ej T qg).here ?_)
  refine dW rfl ?_
  refine cO ?_
  refine cO (cX ((dz T jZ).here (wpN_pure ?_)))
  refine cO (cX ((dz T qb).here (wpN_pure ?_)))
  refine cO (cX ((dz T oh).here (wpN_pure ?_)))
  refine cQ ((ej T qf).here ?_)
  refine cO (wpN_pure ?_)
  refine cW rfl ?_
  refine cX (wpAny_rule ?_)
  refine cO (sx (b:=new.toArray) hg (.inl ⟨t,rfl⟩) (by rw [List.size_toArray];exact hzn) fun h' e1 e2=>?_)
  have hk:∀x o,s.heap.get? x=some o→h'.get? x=some o:=qA e2
  have hS':h'.IsSliceOf a l u .none:=e1b hS fun o ho r=>⟨o,hk _ _ ho,r⟩
  refine cO (cR (cQ (pv (s:={s with heap:=h'}) hS' hl hu ?_)))
  refine cO (pay (s₁:={s with heap:=h'}) (.inr ⟨_,rfl,e1⟩) ?_)
  refine cO (pay (s₁:={s with heap:=h'}) (.inr ⟨b,rfl,hk _ _ hb⟩) ?_)
  refine cX (wpAny_of_eq (sliceIndices_raw lo hi none bs.toArray.size (fun e=>ns e)) ?_)
  rw [sliceBounds_plain]
  refine dW rfl ?_
  refine cX (wpAny_rule ?_)
  refine cW (by simp only [List.size_toArray,bne_eq_false_iff_eq];lia) ?_
  refine cO (m:=write (.ref b) _) (cQ (wpAny_mono (by simp only [List.size_toArray];exact ups {s with heap:=h'} (hk _ _ hb) rfl rfl rfl hk) (fun _ s' q=>?_) fun _ _ e=>e))
  exact wpN_pure ⟨.none,rfl,wpN_pure (wpN_pure q)⟩
 ·have hab:a'≠b:=fun q=>hvb (by rw [q])
  refine cW (by refine (?_:(b==a')=false);exact beq_eq_false_iff_ne.mpr (Ne.symm hab)) ?_
  have T:Looks (model prog wd) s.heap (typeOf (.ref a')) (.type "bytearray"):=eF ha' rfl
  refine cX ((ej T lL).here ?_)
  refine cW rfl ?_
  refine cO (pay (.inr ⟨a',rfl,ha'⟩) ?_)
  refine cO (pay (.inr ⟨b,rfl,hb⟩) ?_)
  refine cX (wpAny_of_eq (sliceIndices_raw lo hi none bs.toArray.size (fun e=>ns e)) ?_)
  rw [sliceBounds_plain]
  refine dW rfl ?_
  refine cX (wpAny_rule ?_)
  refine cW (by simp only [List.size_toArray,bne_eq_false_iff_eq];lia) ?_
  refine cO (m:=write (.ref b) _) (cQ (wpAny_mono (by simp only [List.size_toArray];exact ups s hb rfl rfl rfl fun _ _ h=>h) (fun _ s' q=>?_) fun _ _ e=>e))
  exact wpN_pure ⟨.none,rfl,wpN_pure (wpN_pure q)⟩
end
end
section
section
variable {prog:Program} {wd:World} {A:Around} {H0:Heap} {e:Env} {nm:List (Option Str)} {Pk:Pg} {f:Gm} {G:Gh} {st:St} {s:Shared} {n:Nat}
variable {o l r:PySem.Expr} {co cl cr:C} {pos p2:Pos}
noncomputable def jH (x:PySem.Expr):Bool:=!(Nat.beq x.ctorIdx 26)
theorem tT {x i:Value} (h:jH r=true):subscripted r false x i=operate [x,i] (getItem x i):=by
 cases r<;>first|rfl|exact ft h
theorem A3 {T id:String} {x:Value} {Q:Bool→Shared→Prop} (hT:s.TypeIs x T) (slot:Slot T "__getitem__" id) (hx:x≠.builtin "sys.modules#opaque") (h:Q false s):wpN (model prog wd) A (getitemInPython x) Q s:=by
 rw [getitemInPython_of_ne hx]
 refine cX (wpAny_specialOf hT slot.lookup ?_)
 exact wpN_pure h
theorem mY {x:V} {a:Value} {K:List P→Prop} (p:Pre H0 f e nm G st s) (hx:dL G.g G.k x a) (h:dQ st.σ x K) :
  ∃ad ps vs k,a=.ref ad∧K ps∧dJ G.g ps vs∧(x=.p (.tup ps)∧s.heap.get? ad=some (CM vs k)∨ou x∧s.heap.get? ad=some (oB vs k)):=by
 have fin:dE st.σ x (fun b=>match b with|.lst l=>K l|_=>False)→∃ad ps vs k,a=.ref ad∧K ps∧dJ G.g ps vs∧s.heap.get? ad=some (oB vs k):=fun h=>by
  refine e3e (p.box hx h) fun ad b key zq3 _ hb hr _=>?_;subst zq3
  cases b with
  |lst l=>refine e2b hr fun vs k ho hv=>?_;exact ⟨ad,l,vs,k,rfl,hb,hv,ho⟩
  |_=>exact hb.elim
 cases x with
 |p x=>
  cases x with
  |lst l=>refine e4d hx fun ad o vs k zq4 ho zq6 hv=>?_;clear hx;subst zq4 zq6;exact ⟨ad,_,vs,k,rfl,h,hv, .inr ⟨trivial,p.inv.gg _ _ ho⟩⟩
  |tup l=>refine e4d hx fun ad o vs k zq4 ho zq6 hv=>?_;clear hx;subst zq4 zq6;exact ⟨ad,_,vs,k,rfl,h,hv, .inl ⟨rfl,p.inv.gg _ _ ho⟩⟩
  |_=>exact h.elim
 |ref i=>refine e4d (fin h) fun ad ps vs k e1 h1 h2 h3=>?_;exact ⟨ad,ps,vs,k,e1,h1,h2, .inr ⟨trivial,h3⟩⟩
 |inn i k n=>refine e4d (fin h) fun ad ps vs k e1 h1 h2 h3=>?_;exact ⟨ad,ps,vs,k,e1,h1,h2, .inr ⟨trivial,h3⟩⟩
 |_=>exact h.elim
theorem dJ.at {g:Gm}:∀{xs:List P} {vs:List Value} {i:Nat} {x:P},dJ g xs vs→xs[i]? = some x→∃v,vs[i]? = some v∧PRel g x v
 |[],_,_,_,_,h=>by simp at h
 |y::ys,_,0,x,⟨v,r,rfl,h1,h2⟩,h=>by simp at h;subst h;exact ⟨v,rfl,h1⟩
 |y::ys,_,i+1,x,⟨v,r,rfl,h1,h2⟩,h=>by simp at h;refine e1b (h2.at h) fun v' a b=>?_;exact ⟨v',by simpa using a,b⟩
theorem tO {σ:List O} {v:V} {K:Bx→Prop} (h:dE σ v K):∃b,K b∧∀K':Bx→Prop,K' b→dE σ v K':=by
 cases v with
 |ref i=>
  simp only [dE] at *
  split at h
  ·rename_i b hb;exact ⟨b,h,fun K' hk=>hk⟩
  ·exact h.elim
 |inn i k n=>
  simp only [dE] at *
  split at h
  ·rename_i c fs ver hi
   refine e0b h fun h1 h2=>?_
   split at h2
   ·rename_i b hb;exact ⟨b,h2,fun K' hk=>⟨h1,hk⟩⟩
   ·exact h2.elim
  ·exact h.elim
 |_=>exact h.elim
theorem rZ {x:V} {i:Int} {t:Tok} {a:Value} {Q:V→St→Prop} (p:Pre H0 f e nm G st s) (hx:dL G.g G.k x a) (h:dQ st.σ x fun l=>w6 l i st Q) :
  wpN (model prog wd) A (getitemInPython a) (fun t s'=>t=false∧s'=s) s∧wpN (model prog wd) A (getItem a (.int i t)) (dH H0 f e nm G s st.σ.length Q) s:=by
 refine e4d (mY p hx h) fun ad ps vs k zq4 q hv ho=>?_;clear h hx;subst zq4
 unfold w6 at q
 refine e0b q fun zn1 zr=>e1b zr fun z hz' q=>?_;refine e0b zn1 fun h0 hz=>?_
 have hlen:=hv.length
 refine e1b (hv.at hz') fun v hv1 hv2=>?_
 have hlt:(at_ i ps.length).toNat<ps.length:=(List.getElem?_eq_some_iff.mp hz').1
 clear hz hz' zr zn1 hv;rcases ho with ⟨_,ho⟩|⟨_,ho⟩
 ·refine ⟨A3 ⟨_,ho,rfl⟩ F.slot_tuple_getitem (fun q=>nomatch q) ⟨rfl,rfl⟩,cQ (PySem.P.getItem_tuple (k:=(at_ i ps.length).toNat) ho (by unfold at_ at h0 hlt;split at h0<;>lia) (by unfold at_ at h0 hlt;split at hlt<;>lia) ?_ (by simpa using hv1) (.now p (vp hv2) q))⟩
  unfold seqIndex?
  simp only [List.size_toArray,hlen]
  refine (?_:(if (decide (0≤at_ i ps.length)&&decide (at_ i ps.length<ps.length))=true then some (at_ i ps.length).toNat else none)=_)
  rw [if_pos (by simp;exact And.intro (lin [_] [] ai aa 1 [.i 1 ai aa] rfl h0) (lin [_] [_,_] be af 1 [.j 1 bc ab,.i 1 aa am] rfl hlt (Int.le_of_eq (Eq.symm (Int.toNat_of_nonneg (lin [_] [] ai aa 1 [.i 1 ai aa] rfl h0))))))]
 ·refine ⟨A3 ⟨_,ho,rfl⟩ slot_list_getitem (fun q=>nomatch q) ⟨rfl,rfl⟩,?_⟩
  by_cases hi:i<0
  ·have e1:at_ i ps.length=i+ps.length:=if_pos hi
   refine cQ (wpAny_getItem_list_neg (dN ho) hi (by rw [List.size_toArray];exact lin [_,_] [_,_] (.g af) aa 1 [.i 1 ai an,.j 1 ae ab,.i 1 an cg] rfl h0 (Nat.le_of_eq (Eq.symm hlen)) (Int.le_of_eq e1)) (by lia) (x:=v) ?_ (.now p (vp hv2) q))
   rw [List.size_toArray,hlen,←e1];simpa using hv1
  ·have e1:at_ i ps.length=i:=if_neg hi
   refine cQ (wpAny_getItem_list (dN ho) (by exact lin [_] [] ai aa 1 [.i 1 ai aa] rfl (Int.not_lt.mp hi)) (by lia) (x:=v) ?_ (.now p (vp hv2) q))
   rw [←e1];simpa using hv1
theorem wm {g:Gm} {d:Addr} {es:List (P × P)} (hb:lr g s.heap d (.dict es)):wpN (model prog wd) A (getitemInPython (.ref d)) (fun t s'=>t=false∧s'=s) s:=by
 refine e0b hb fun _ zr=>e1b zr fun o h1 h2=>?_
 have hx:o.ExactDict:=by
  clear hb zr;rcases h2 with ⟨kvs,h3,_⟩|⟨xs,es',ep,h3,_⟩
  ·refine e2b (h3 prog wd) fun _ _ h4 _=>?_;exact h4
  ·exact h3
 exact A3 ⟨_,h1,hx.1⟩ slot_dict_getitem (fun q=>nomatch q) ⟨rfl,rfl⟩
theorem Ae {x y:V} {a b:Value} {Q:V→St→Prop} (hu:A.units+80<cLine) (p:Pre H0 f e nm G st s) (hx:dL G.g G.k x a) (hy:dL G.g G.k y b) (h:DU x y st Q) :
  wpN (model prog wd) A (getitemInPython a) (fun t s'=>t=false∧s'=s) s∧wpN (model prog wd) A (getItem a b) (dH H0 f e nm G s st.σ.length Q) s:=by
 have box:dE st.σ x (DV y st Q)→(∀z,x≠.p z)→wpN (model prog wd) A (getitemInPython a) (fun t s'=>t=false∧s'=s) s∧wpN (model prog wd) A (getItem a b) (dH H0 f e nm G s st.σ.length Q) s:=fun h hne=>by
  refine e1b (tO h) fun bx hb hk=>?_
  refine e3e (p.box hx (hk (· = bx) rfl)) fun d bx' key zq3 _ hb' hr _=>?_;subst zq3
  subst hb'
  cases bx' with
  |lst l=>
   cases y with
   |p y=>
    cases y with
    |int i=>
     refine e1a hy fun t zq1=>?_;clear hy;subst zq1
     refine rZ p hx ?_
     cases x with
     |p z=>exact absurd rfl (hne z)
     |ref j=>exact hk (fun b=>match b with|.lst l=>w6 l i st Q|_=>False) hb
     |inn j k n=>exact hk (fun b=>match b with|.lst l=>w6 l i st Q|_=>False) hb
     |_=>exact h.elim
    |_=>exact hb.elim
   |_=>exact hb.elim
  |dict es=>
   clear hk hne;cases y with
   |p y=>
    refine e0b hb fun hkd zr=>e1b zr fun z hz q=>?_
    exact ⟨wm hr,qQ hu p.inv.gg hr hkd hy hz fun v t hv=>.tok p (vp hv) q⟩
   |_=>exact hb.elim
  |ba l=>exact hb.elim
 cases x with
 |p x=>
  cases x with
  |lst l=>
   cases y with
   |p y=>
    cases y with
    |int i=>refine e1a hy fun t zq1=>?_;clear hy;clear hu;subst zq1;exact rZ p hx h
    |_=>exact h.elim
   |_=>exact h.elim
  |tup l=>
   cases y with
   |p y=>
    cases y with
    |int i=>refine e1a hy fun t zq1=>?_;clear hy;clear hu;subst zq1;exact rZ p hx h
    |_=>exact h.elim
   |_=>exact h.elim
  |_=>exact h.elim
 |_=>exact box h fun z q=>nomatch q
theorem Cc (hu:A.units+80<cLine) (hs:jH r=true) (hl:EJ H0 (model prog wd) A e nm (eval l e) (w Pk cl)) (hr:EJ H0 (model prog wd) A e nm (eval r e) (w Pk cr)) :
  EJ H0 (model prog wd) A e nm (eval (.Subscript l r pos) e) (w Pk (.idx cl cr)):=fun f G s st Q p h=>by
 refine dC (arm_eval_Subscript ..) ?_
 refine cO (fP (hl f G s st _ p h) fun a s₁ G₁ st₁ x sm₁ le₁ n₁ p₁ v₁ q₁=>?_)
 refine cO (cR (fP (hr f G₁ s₁ st₁ _ p₁ q₁) fun b s₂ G₂ st₂ y sm₂ le₂ n₂ p₂ v₂ q₂=>?_))
 refine e0b (Ae (prog:=prog) (wd:=wd) (A:=A) hu p₂ (v₁.le le₂) v₂ q₂) fun g1 g2=>?_
 refine cS (cO (cV g1 fun t s₃ zp=>e0b zp fun h3 h4=>?_))
 clear hr hl hu zp g1 q₂ v₂ p₂ y q₁ v₁ p₁ x;subst h3 h4
 rw [tT hs]
 refine cO (d6 (cV g2 fun v s₄ P=>?_))
 exact cO (cQ (wpAny_letTemporaryGo (wpN_pure (P.step (sm₁.trans sm₂) (le₁.trans le₂) (Nat.le_trans n₁ n₂)))))
end
end
section
section
variable {prog:Program} {wd:World} {A:Around} {H0:Heap} {e:Env} {nm:List (Option Str)} {Pk:Pg} {f:Gm} {G:Gh} {st:St} {s:Shared} {n:Nat}
variable {o l r:PySem.Expr} {lo hi sp:Option PySem.Expr} {co cl cr clo chi csp:C} {pos p2:Pos}
noncomputable def BF:P→Option (Option Int)
 |.none=>some none
 |.int i=>some (some i)
 |_=>none
theorem ir {x:P} {n d a:Nat} (h:ww x n d=some a):∃lo,BF x=some lo∧a=lo.elim d (clipAt n):=by
 cases x with
 |none=>obtain rfl:=sj h;exact ⟨none,rfl,rfl⟩
 |int i=>obtain rfl:=sj h;exact ⟨_,rfl,rfl⟩
 |_=>exact ns h
theorem lx {g:Gm} {x:P} {v:Value} {lo:Option Int} (h:PRel g x v) (hp:BF x=some lo):IsPart v lo:=by
 cases x with
 |none=>obtain rfl:=sj hp;subst h;exact .none
 |int i=>obtain rfl:=sj hp;refine e1a h fun t zq1=>?_;clear h;clear g;subst zq1;exact .int _ _
 |_=>exact ns hp
theorem tS {x i:Value} {Q:Value→Shared→Prop} (h:wpN (model prog wd) A (getItem x i) Q s):wpN (model prog wd) A (subscripted (.Slice lo hi sp p2) false x i) Q s:=by
 cases sp<;>exact d6 h
theorem dJ.drop {g:Gm}:∀(n:Nat) {xs:List P} {vs:List Value},dJ g xs vs→dJ g (xs.drop n) (vs.drop n)
 |0,_,_,h=>h
 |n+1,[],_,h=>by subst h;exact rfl
 |n+1,x::xs,_,⟨v,r,e,_,h⟩=>by subst e;exact dJ.drop n h
theorem dJ.take {g:Gm}:∀(n:Nat) {xs:List P} {vs:List Value},dJ g xs vs→dJ g (xs.take n) (vs.take n)
 |0,_,_,_=>rfl
 |n+1,[],_,h=>by subst h;exact rfl
 |n+1,x::xs,_,⟨v,r,e,h1,h⟩=>by subst e;exact ⟨v,_,rfl,h1,dJ.take n h⟩
theorem dJ.rev {g:Gm}:∀{xs:List P} {vs:List Value},dJ g xs vs→dJ g xs.reverse vs.reverse
 |[],_,h=>by subst h;exact rfl
 |x::xs,_,⟨v,r,e,h1,h⟩=>by subst e;rw [List.reverse_cons,List.reverse_cons];exact h.rev.append ⟨v,[],rfl,h1,rfl⟩
noncomputable def Got (prog:Program) (wd:World) (A:Around) (H0:Heap) (f:Gm) (e:Env) (nm:List (Option Str)) (G:Gh) (s:Shared) (n:Nat) (Q:V→St→Prop) (a:Value) (sl:Addr):Prop:=
 wpN (model prog wd) A (getitemInPython a) (fun t s'=>t=false∧s'=s) s∧wpN (model prog wd) A (getItem a (.ref sl)) (dH H0 f e nm G s n Q) s
theorem uS {lo hi:P} {vl vu:Value} {sl ad:Addr} {ps:List P} {us:List Value} {k:Nat} {Q:V→St→Prop} (p:Pre H0 f e nm G st s) (h1:PRel G.g lo vl) (h2:PRel G.g hi vu) (hS:s.heap.IsSliceOf sl vl vu .none)
  (ho:s.heap.get? ad=some (oB us k)) (hv:dJ G.g ps us) (h:pR lo hi ps.length fun a b=>Q (.p (.lst (cut ps a b))) st):Got prog wd A H0 f e nm G s st.σ.length Q (.ref ad) sl:=by
 have hlen:=hv.length
 refine ⟨A3 ⟨_,ho,rfl⟩ slot_list_getitem (fun q=>nomatch q) ⟨rfl,rfl⟩,?_⟩
 refine e2d (pQ h) fun a b ha hb h3 h=>?_
 refine e1b (ir ha) fun l1 p1 zq2=>?_;clear ha;subst zq2
 refine e1b (ir hb) fun l2 p2 zq2=>?_;clear hb;subst zq2
 refine cQ (wpAny_getItem_list_slice (dN ho) hS (lx h1 p1) (lx h2 p2) .none (fun q=>ns q) ?_ (by rw [List.size_toArray,hlen,sizeLine_eq];exact h3))
 rw [slicePick_plain]
 simp only [List.size_toArray,hlen]
 exact jJ (own:=false) (ps:=cut ps (l1.elim 0 (clipAt ps.length)) (l2.elim ps.length (clipAt ps.length))) p ((hv.drop _).take _) h
theorem Bn {lo hi:P} {vl vu:Value} {sl ad:Addr} {bs:List UInt8} {Q:V→St→Prop} (p:Pre H0 f e nm G st s) (h1:PRel G.g lo vl) (h2:PRel G.g hi vu) (hS:s.heap.IsSliceOf sl vl vu .none)
  (hr:lr G.g s.heap ad (.ba bs)) (h:C4 lo hi (.ba bs) st Q):Got prog wd A H0 f e nm G s st.σ.length Q (.ref ad) sl:=by
 refine ⟨A3 ⟨_,hr,rfl⟩ gw (fun q=>nomatch q) ⟨rfl,rfl⟩,?_⟩
 refine e2d (pQ h) fun a b ha hb h3 h=>?_
 refine e1b (ir ha) fun l1 p1 zq2=>?_;clear ha;subst zq2
 refine e1b (ir hb) fun l2 p2 zq2=>?_;clear hb;subst zq2
 refine cQ (sH hr (by rw [sizeLine_eq];exact h3) hS (lx h1 p1) (lx h2 p2) ?_)
 exact p.vm (t:=s.toks) (fun _ _ h=>Heap.get?_push_of_some _ h) (Heap.get?_push_size _ rfl) h
theorem zC {lo hi:P} {x:V} {a vl vu:Value} {sl:Addr} {Q:V→St→Prop} (p:Pre H0 f e nm G st s) (hx:dL G.g G.k x a) (h1:PRel G.g lo vl) (h2:PRel G.g hi vu) (hS:s.heap.IsSliceOf sl vl vu .none) (h:DN lo hi x st Q) :
  Got prog wd A H0 f e nm G s st.σ.length Q a sl:=by
 have box:dE st.σ x (fun b=>C4 lo hi b st Q)→Got prog wd A H0 f e nm G s st.σ.length Q a sl:=fun h=>by
  refine e3e (p.box hx h) fun ad b key zq3 _ hb hr _=>?_;subst zq3
  cases b with
  |ba bs=>exact Bn p h1 h2 hS hr hb
  |lst ps=>refine e2b hr fun us k ho hv=>?_;exact uS p h1 h2 hS ho hv hb
  |dict es=>exact hb.elim
 cases x with
 |p x=>
  cases x with
  |lst ps=>
   refine e4d hx fun ad ob us k zq4 ho zq6 hv=>?_;clear hx;subst zq4 zq6
   exact uS p h1 h2 hS (p.inv.gg _ _ ho) hv h
  |_=>exact h.elim
 |_=>exact box h
theorem zz {lo hi sp:P} {x:V} {a vl vu vs:Value} {sl:Addr} {Q:V→St→Prop} (p:Pre H0 f e nm G st s) (hx:dL G.g G.k x a) (h1:PRel G.g lo vl) (h2:PRel G.g hi vu) (h3:PRel G.g sp vs) (hS:s.heap.IsSliceOf sl vl vu vs) (h:DM lo hi sp x st Q) :
  Got prog wd A H0 f e nm G s st.σ.length Q a sl:=by
 cases sp with
 |none=>subst h3;exact zC p hx h1 h2 hS h
 |int i=>
  refine e1a h3 fun t zq1=>?_;clear h3;subst zq1
  obtain ⟨hi1,h⟩:=h
  subst hi1
  cases lo with
  |none=>
   cases hi with
   |none=>
    subst h1;subst h2
    obtain ⟨ad,ps,us,k,rfl,⟨h4,h5,h6⟩,hv,ho⟩:=mY p hx h
    clear hx;rcases ho with ⟨rfl,ho⟩|⟨_,ho⟩
    ·exact h4.elim
    ·have hlen:=hv.length
     refine ⟨A3 ⟨_,ho,rfl⟩ slot_list_getitem (fun q=>nomatch q) ⟨rfl,rfl⟩,?_⟩
     refine cQ (wpAny_getItem_list_slice (dN ho) hS .none .none (.int _ _) (by simp) ?_ (by rw [List.size_toArray,hlen,sizeLine_eq];exact h5))
     rw [krv_pick]
     exact jJ (own:=false) (ps:=ps.reverse) p hv.rev h6
   |_=>exact h.elim
  |_=>exact h.elim
 |_=>exact h.elim
theorem B8 (hl:EJ H0 (model prog wd) A e nm (eval l e) (w Pk cl)) (h1:EJ H0 (model prog wd) A e nm (valueOrNone (evalOpt lo e)) (w Pk clo)) (h2:EJ H0 (model prog wd) A e nm (valueOrNone (evalOpt hi e)) (w Pk chi)) (h3:EJ H0 (model prog wd) A e nm (valueOrNone (evalOpt sp e)) (w Pk csp)) :
  EJ H0 (model prog wd) A e nm (eval (.Subscript l (.Slice lo hi sp p2) pos) e) (w Pk (.slc cl clo chi csp)):=fun f G s st Q p h=>by
 refine dC (arm_eval_Subscript ..) ?_
 refine cO (fP (hl f G s st _ p h) fun a s₁ G₁ st₁ x sm₁ le₁ n₁ p₁ v₁ q₁=>?_)
 refine cO (cR ?_)
 refine dC (arm_eval_Slice ..) ?_
 refine cO (fP (h1 f G₁ s₁ st₁ _ p₁ q₁) fun vl s₂ G₂ st₂ y sm₂ le₂ n₂ p₂ v₂ q₂=>?_)
 refine cO (cR (fP (h2 f G₂ s₂ st₂ _ p₂ q₂) fun vu s₃ G₃ st₃ z sm₃ le₃ n₃ p₃ v₃ q₃=>?_))
 refine cO (cR (fP (h3 f G₃ s₃ st₃ _ p₃ q₃) fun vs s₄ G₄ st₄ u sm₄ le₄ n₄ p₄ v₄ q₄=>?_))
 refine cQ (wpAny_newObj_type ?_ (by size_fits))
 refine e1b (ic q₄) fun lo' zq1 q₄=>?_;clear h2 h1 hl q₃ p₃ q₂ p₂ q₁ p₁;subst zq1
 refine e1b (ic q₄) fun hi' zq1 q₄=>?_;subst zq1
 refine e1b (ic q₄) fun sp' zq1 q₄=>?_;subst zq1
 have p₅:Pre H0 f e nm G₄ st₄ {s₄ with heap:=s₄.heap.push {cls:=.type "slice",data:=.fields #[vl,vu,vs]}}:=p₄.keeps fun a o h=>Heap.get?_push_of_some _ h
 refine e0b (zz (prog:=prog) (wd:=wd) (A:=A) p₅ (v₁.le ((le₂.trans le₃).trans le₄)) (dL.le (x:=.p lo') (le₃.trans le₄) v₂) (dL.le (x:=.p hi') le₄ v₃) (show PRel G₄.g sp' vs from v₄) (Heap.IsSliceOf.new ..) q₄) fun g1 g2=>?_
 refine cS (cO (cV g1 fun t s₆ zp=>e0b zp fun h3 h4=>?_))
 clear p₅ zp g1 h q₄ v₄ p₄;subst h3 h4
 refine cO (tS (cV g2 fun v s₇ P=>?_))
 refine cO (cQ (wpAny_letTemporaryGo (wpN_pure ?_)))
 exact dH.step (s₁:={s₄ with heap:=s₄.heap.push {cls:=.type "slice",data:=.fields #[vl,vu,vs]}}) ((((sm₁.trans sm₂).trans sm₃).trans sm₄).trans ⟨rfl,rfl,rfl⟩) (((le₁.trans le₂).trans le₃).trans le₄) (Nat.le_trans (Nat.le_trans (Nat.le_trans n₁ n₂) n₃) n₄) P
end
end
section
section
variable {prog:Program} {wd:World} {A:Around} {H0:Heap} {e:Env} {nm:List (Option Str)} {Pk:Pg} {f:Gm} {G:Gh} {st:St} {s:Shared} {n:Nat}
variable {o l r:PySem.Expr} {lo hi sp:Option PySem.Expr} {co ci cl cr clo chi csp:C} {pos p2 p3:Pos}
noncomputable def Dk:V→Nat × Nat
 |.ref i=>(i+1,0)
 |.inn i k _=>(i+1,k+1)
 |_=>(0,0)
theorem Pre.boxKey (p:Pre H0 f e nm G st s) {v:V} {a:Addr} {K:Bx→Prop} (hv:dL G.g G.k v (.ref a)) (hw:dE st.σ v K):G.ow a=some (Dk v):=by
 cases v with
 |ref i=>
  simp only [dE] at hw
  split at hw
  ·rename_i b hi
   refine e1c (p.inv.obj i _ hi) fun a' h1 h2 h3=>?_
   refine e1b hv fun a'' h4 e=>?_
   rw [h1] at h4;obtain rfl:=sj h4;cases e;exact h2
  ·exact hw.elim
 |inn i k n=>
  simp only [dE] at hw
  split at hw
  ·rename_i c fs ver hi
   revert hw;intro zh;refine e0b zh fun zq0 hw=>?_;clear zh;subst zq0
   split at hw
   ·rename_i b hk
    refine e3f (p.inv.obj i _ hi) fun a' dx sl h1 h2 h3 h4 h5 h6=>?_
    refine e1b hv fun a'' h7 e=>?_
    refine e1d (h5 k _ hk) fun x g1 g2 g3 g4=>?_
    rw [h7] at g2;clear hv p g4 g1 h7 h6 h5 h4 h3 h2 h1 sl dx a';obtain rfl:=sj g2;clear g2;cases e;exact g3
   ·exact hw.elim
  ·exact hw.elim
 |_=>exact hw.elim
theorem BM {σ:List O} {v o:V} {K K':Bx→Prop} (h:dE σ v K) (h':dE σ o K') (hs:By v o=false):Dk v≠Dk o:=fun q=>by
 cases v with
 |ref i=>cases o with
  |ref j=>injection q with q _;cases Nat.succ.inj q;cases (beq_self_eq_true i).symm.trans hs
  |inn j m n=>injection q with _ q;cases q
  |_=>exact h'.elim
 |inn i k n=>cases o with
  |ref j=>injection q with _ q;cases q
  |inn j m n=>injection q with q r;cases Nat.succ.inj q;clear q;cases Nat.succ.inj r;cases (show true=false from (by rw [←hs];refine (?_:true=(i==i&&k==k));rw [beq_self_eq_true,beq_self_eq_true];rfl))
  |_=>exact h'.elim
 |_=>exact h.elim
theorem pA {l:Addr} {vs:List Value} {m:Nat} {k:Int} {t:Tok} {v:Value} {E:Value→Shared→Prop} {Q:Unit→Shared→Prop} (ho:s.heap.get? l=some (oB vs m)) (h0:0≤k) (hfit:k<2 ^ 63) (hn:k<vs.length)
  (hQ:∀h' m',h'.get? l=some (oB (vs.set k.toNat v) m')→Heap.SameBut l s.heap h'→Q () {s with heap:=h'}) :
  wpAny (model prog wd) A (setItem (.ref l) (.int k t) v) Q E s:=by
 have hl:=dN ho
 unfold setItem
 try with_reducible refine wpAny_holding ?_
 refine wpAny_bind (wpAny_sequenceKey hl.typeIs (by decide) ?_)
 refine wpAny_bind (wpAny_callSpecial?_slot (name:=Str.ofString "__setitem__") hl.typeIs slot_list_setitem
  (wpAny_call_entry slot_list_setitem hl.typeIs entry_list_setitem ?_ (args_list_setitem _ _ _)))
 refine (?_:wpAny _ _ (Builtin.List.listSubscript? (.int k t)>>=_) _ _ s)
 refine wpAny_bind (wpAny_listSubscript_int (fitsIndex_of h0 hfit) ?_)
 clear hfit
 refine e1a (Int.eq_ofNat_of_zero_le h0) fun j zq1=>?_;subst zq1
 have hj:j<vs.length:=by lia
 have hx':vs.toArray[j]? = some (vs[j]'hj):=by simp [hj]
 refine (?_:wpAny _ _ ((seqItemAt l j>>=fun r=>pure (r.map (j,·)))>>=_) _ _ s)
 refine wpAny_bind (wpAny_bind (wpAny_seqItemAt ho rfl (wpAny_pure ?_)))
 rw [hx']
 refine (?_:wpAny _ _ (setSeqItemAt l j v>>=_) _ _ s)
 refine wpAny_bind (wpAny_setSeqItemAt ho rfl ?_)
 have h1:=Heap.get?_update_self (Obj.mapSeq (·.setIfInBounds j v)) ho rfl
 have fin:(s.heap.update l (Obj.mapSeq (·.setIfInBounds j v))).get? l=some (oB (vs.set j v) (if (vs.toArray.setIfInBounds j v).size==vs.toArray.size then m else m+1)):=by
  refine h1.trans ?_
  simp only [Obj.mapSeq,oB]
  simp
 first
  |exact wpAny_bind (wpAny_pure (wpAny_pure ⟨.none,rfl,wpAny_pure (hQ _ _ fin (Heap.SameBut.update ..))⟩))
  |exact wpAny_pure ⟨.none,rfl,wpAny_pure (hQ _ _ fin (Heap.SameBut.update ..))⟩
theorem dJ.set {g:Gm} {x:P} {v:Value} (hx:PRel g x v):∀{xs:List P} {vs:List Value} (j:Nat),dJ g xs vs→dJ g (xs.set j x) (vs.set j v)
 |[],_,j,h=>by subst h;exact rfl
 |_::_,_,0,⟨v',r,e,h1,h2⟩=>by subst e;exact ⟨v,r,rfl,hx,h2⟩
 |_::_,_,j+1,⟨v',r,e,h1,h2⟩=>by subst e;exact ⟨v',_,rfl,h1,h2.set hx j⟩
theorem nJ {i:PySem.Expr} (hc:fC l=false):exec (.Assign [.Subscript o i p2] l pos) e=(do
   standAt pos
   let v ←eval l e
   (do
    let ov ←holding [v] (eval o e)
    let iv ←holding [v,ov] (eval i e)
    standAt p2
    holding [v,ov,iv] (setItem ov iv v)
    release (match i with|.Slice _ _ none _=>[iv,v,ov]|_=>[v,ov,iv]) [])
   pure Flow.next):=by
 have e0:exec (.Assign [.Subscript o i p2] l pos) e=(do
   standAt pos
   if ←swapsWith l (some (.Subscript o i p2)) pos.line e then do
    evalThenUse l e fun v=>assignAll v ((assignEach [.Subscript o i p2] e).map (·.2))
    pure .next
   else do
    let v ←eval l e
    assignStores e v (←swappedStores [.Subscript o i p2] l e) [assign (.Subscript o i p2) e]):=rfl
 rw [e0]
 rw [kD hc]
 rfl
theorem rA {M:Model} {vs kp:List Value} {Q:Unit→Shared→Prop} (h:Q () s):wpN M A (release vs kp) Q s:=fun Γ p hΓ hc=>by rw [Sem.wp_release];exact h
theorem zF {i:PySem.Expr} (hu:A.units+80<cLine) (hc:fC l=false) (hl:EJ H0 (model prog wd) A e nm (eval l e) (w Pk cl)) (ho:EJ H0 (model prog wd) A e nm (eval o e) (w Pk co)) (hi:EJ H0 (model prog wd) A e nm (eval i e) (w Pk ci)) :
  SJ H0 (model prog wd) A e nm (exec (.Assign [.Subscript o i p2] l pos) e) (wS Pk (.setI co ci cl)):=fun f G s st Q m p hm h=>by
 refine dC (nJ hc) ?_
 refine cS (cO (fP (hl f G s st _ p h) fun v s₁ G₁ st₁ y sm₁ le₁ n₁ p₁ v₁ q₁=>?_))
 refine cO (cO (cR (fP (ho f G₁ s₁ st₁ _ p₁ q₁) fun a s₂ G₂ st₂ x sm₂ le₂ n₂ p₂ v₂ q₂=>?_)))
 refine cO (cR (fP (hi f G₂ s₂ st₂ _ p₂ q₂) fun b s₃ G₃ st₃ z sm₃ le₃ n₃ p₃ v₃ q₃=>?_))
 refine cS (cO (cR ?_))
 refine e1b (ic (jG (jG (jG q₃ :) :) :)) fun j zq1 w₃=>?_;clear q₃ hi ho hl hc q₂ p₂ q₁ p₁ h;subst zq1
 refine e1d (p₃.frz (v₁.le (le₂.trans le₃))) fun G₄ le₄ n₄ p₄ v₄=>?_
 generalize oX y st₃.σ=z at w₃ n₄ p₄ v₄
 obtain ⟨y₁,σ₁⟩:=z
 refine e1b (ic w₃) fun y₂ zq1 w₃=>?_;clear p₃ v₁;subst zq1
 have v₃':PRel G₄.g j b:=dL.le (x:=.p j) le₄ v₃
 refine e3e (p₄.box (v₂.le (le₃.trans le₄)) w₃) fun ad bx key zq3 how hb hr hup=>?_;clear y v₃ v₂;subst zq3
 have hy:PRel G₄.g y₂ v:=v₄
 have le:=((le₁.trans le₂).trans le₃).trans le₄
 have sm:=(sm₁.trans sm₂).trans sm₃
 clear le₂;cases bx with
 |lst ps=>
  cases j with
  |int j=>
   refine e1a v₃' fun t zq1=>?_;clear v₃';clear v₄ le₄ le₃ sm₃;subst zq1
   refine e2b hr fun us k hob hv=>?_
   refine e0b hb fun zn1 w₃=>?_;refine e0c zn1 fun h1 h2 h3=>?_
   have hlen:=hv.length
   refine cQ (pA hob h1 (by lia) (by lia) fun h' m' e1 e2=>?_)
   refine rA (wpN_pure ?_)
   exact fk.step (s₁:={s₃ with heap:=h'}) (sm.trans ⟨rfl,rfl,rfl⟩) (le.toN _) (.now (hup h' (.lst (ps.set j.toNat y₂)) e2.extBut ⟨_,m',e1,hv.set hy j.toNat⟩) (by refine (?_:_≤(ki _ _ _).length);rw [i9];exact Nat.le_trans hm (Nat.le_trans n₁ (Nat.le_trans n₂ (Nat.le_trans n₃ n₄)))) (fl:=.next) rfl w₃)
  |_=>exact hb.elim
 |dict es=>
  refine e0b hb fun zn1 w₃=>?_;refine e0b zn1 fun h1 h2=>?_
  refine qO hu p₄.inv.gg (p₄.inv.own _ _ how).1 hr h1 v₃' hy h2 fun h' t hs hb'=>?_
  refine rA (wpN_pure ?_)
  exact fk.step (s₁:={s₃ with heap:=h',toks:=t}) (sm.trans ⟨rfl,rfl,rfl⟩) (le.toN _) (.now ((hup h' (.dict (o5 es j y₂)) hs.extBut hb').toks rfl) (by refine (?_:_≤(ki _ _ _).length);rw [i9];exact Nat.le_trans hm (Nat.le_trans n₁ (Nat.le_trans n₂ (Nat.le_trans n₃ n₄)))) (fl:=.next) rfl w₃)
 |_=>exact hb.elim
theorem zE (hc:fC l=false) (hg:A.guards=some []) (hl:EJ H0 (model prog wd) A e nm (eval l e) (w Pk cl)) (ho:EJ H0 (model prog wd) A e nm (eval o e) (w Pk co)) (h1:EJ H0 (model prog wd) A e nm (valueOrNone (evalOpt lo e)) (w Pk clo)) (h2:EJ H0 (model prog wd) A e nm (valueOrNone (evalOpt hi e)) (w Pk chi)) :
  SJ H0 (model prog wd) A e nm (exec (.Assign [.Subscript o (.Slice lo hi none p3) p2] l pos) e) (wS Pk (.setS co clo chi cl)):=fun f G s st Q m p hm h=>by
 refine dC (nJ hc) ?_
 refine cS (cO (fP (hl f G s st _ p h) fun v s₁ G₁ st₁ y sm₁ le₁ n₁ p₁ v₁ q₁=>?_))
 refine cO (cO (cR (fP (ho f G₁ s₁ st₁ _ p₁ q₁) fun a s₂ G₂ st₂ x sm₂ le₂ n₂ p₂ v₂ q₂=>?_)))
 refine cO (cR ?_)
 refine dC (arm_eval_Slice ..) ?_
 refine cO (fP (h1 f G₂ s₂ st₂ _ p₂ q₂) fun vl s₃ G₃ st₃ z sm₃ le₃ n₃ p₃ v₃ q₃=>?_)
 refine cO (cR (fP (h2 f G₃ s₃ st₃ _ p₃ q₃) fun vu s₄ G₄ st₄ u sm₄ le₄ n₄ p₄ v₄ q₄=>?_))
 refine cO (cR (wpN_pure ?_))
 refine cQ (wpAny_newObj_type ?_ (by size_fits))
 refine cS (cO (cR ?_))
 refine e1b (ic (jG (jG (jG (jG q₄ :) :) :) :)) fun lo' zq1 w₄=>?_;clear q₄ h2 h1 hl hc q₃ p₃ q₂ p₂ q₁ p₁;subst zq1
 refine e1b (ic w₄) fun hi' zq1 y₄=>?_;clear w₄;subst zq1
 have p₅:Pre H0 f e nm G₄ st₄ {s₄ with heap:=s₄.heap.push {cls:=.type "slice",data:=.fields #[vl,vu, .none]}}:=p₄.keeps fun a o h=>Heap.get?_push_of_some _ h
 have r₁:=v₁.le ((le₂.trans le₃).trans le₄)
 have r₂:=v₂.le (le₃.trans le₄)
 refine e1b (mM p₅ r₁ y₄) fun new hbuf hq=>?_
 refine e3e (p₅.box r₂ hq) fun ad bx key zq3 hk1 hb hr hup=>?_;clear hk1 key h p₄ v₂;subst zq3
 have hkey:=p₅.boxKey r₂ hq
 cases bx with
 |ba bs=>
  refine e2e (pQ hb) fun i1 i2 ha1 ha2 c4 zn1 q=>?_;refine e0c zn1 fun c1 c2 c3=>?_
  refine e1b (ir ha1) fun l1 pp1 zq2=>?_;clear r₂ zn1 ha1;subst zq2
  refine e1b (ir ha2) fun l2 pp2 zq2=>?_;clear ha2;subst zq2
  have hhi:l2.elim bs.length (clipAt bs.length)≤bs.length:=by cases l2 with|none=>exact Nat.le_refl _|some i=>exact qY _ _
  have hvb:v≠.ref ad:=fun q'=>by
   clear hhi;subst q'
   have go:∀K:Bx→Prop,dE st₄.σ y K→False:=fun K y₄=>by
    have:=p₅.boxKey r₁ y₄
    rw [hkey] at this
    exact BM y₄ hq c1 (Option.some.inj this).symm
   clear hkey p₅ c1;cases y with
   |p y=>
    cases y with
    |bytes _=>refine e1a r₁ fun t e=>?_;clear r₁;cases e
    |_=>exact y₄.elim
   |ref _=>exact go _ y₄
   |inn _ _ _=>exact go _ y₄
   |_=>exact y₄.elim
  have i1:IsPart vl l1:=lx (dL.le (x:=.p lo') le₄ v₃:PRel G₄.g lo' vl) pp1
  have i2:IsPart vu l2:=lx (show PRel G₄.g hi' vu from v₄) pp2
  refine sE hg hr hbuf hvb (by rw [sizeLine_eq];exact c4) (by rw [sizeLine_eq];lia) (Heap.IsSliceOf.new ..) i1 i2 c2 c3 fun h' t e1 e2=>?_
  have p₆:=(hup h' (.ba (bs.take (l1.elim 0 (clipAt bs.length))++new++bs.drop (l2.elim bs.length (clipAt bs.length)))) (fun x o hx ho=>e2 x o hx ho) e1).toks (s':={s₄ with heap:=h',toks:=t}) rfl
  refine rA (wpN_pure ?_)
  exact fk.step (s₁:={s₄ with heap:=h',toks:=t}) ((((sm₁.trans sm₂).trans sm₃).trans sm₄).trans ⟨rfl,rfl,rfl⟩) ((((le₁.trans le₂).trans le₃).trans le₄).toN _) (.now p₆ (by refine (?_:_≤(ki _ _ _).length);rw [i9];exact Nat.le_trans hm (Nat.le_trans n₁ (Nat.le_trans n₂ (Nat.le_trans n₃ n₄)))) (fl:=.next) rfl q)
 |_=>exact hb.elim
end
end
section
inductive yF (e:Env) (nm:List (Option Str)):List PySem.Expr→List Nat→Prop
 |nil:yF e nm [] []
 |cons {n:Str} {i:Nat} {pos:Pos} {r:List PySem.Expr} {is:List Nat}:A8 e nm n i→yF e nm r is→yF e nm (.Name n pos::r) (i::is)
inductive Tgt (e:Env) (nm:List (Option Str)):PySem.Expr→T→Prop
 |name {n:Str} {i:Nat} {pos:Pos}:A8 e nm n i→Tgt e nm (.Name n pos) (.var i)
 |tup {es:List PySem.Expr} {is:List Nat} {k:Nat} {pos:Pos}:yF e nm es is→Tgt e nm (.Tuple es k pos) (.tup is)
section
variable {prog:Program} {wd:World} {A:Around} {H0:Heap} {e:Env} {nm:List (Option Str)} {Pk:Pg} {f:Gm} {G:Gh} {st:St} {s:Shared} {n:Nat}
theorem yF.len {es:List PySem.Expr} {is:List Nat} (h:yF e nm es is):(assignEach es e).length=is.length∧(assignEach es e).findIdx? (·.1)=none:=by
 induction h with
 |nil=>exact ⟨rfl,rfl⟩
 |cons h t ih=>
  refine ⟨by refine (?_:_+1=_+1);rw [ih.1],?_⟩
  refine (?_:(_::assignEach _ e).findIdx? _=none)
  rw [List.findIdx?_cons,ih.2];rfl
theorem xL {es:List PySem.Expr} {is:List Nat} (T:yF e nm es is):∀{st:St} {s:Shared} {xs:List V} {vs:List Value} {env:List (Option V)},Pre H0 f e nm G st s→du G.g G.k xs vs→kg is xs st.env=some env→
  wpN (model prog wd) A (assignInOrder ((assignEach es e).map (·.2)) vs) (fun _ s'=>gr s s'∧Pre H0 f e nm G {st with env:=env} s') s:=by
 induction T with
 |nil=>
  intro st s xs vs env p hv h
  cases xs with
  |nil=>obtain rfl:=sj h;subst hv;exact wpN_pure ⟨.refl _,p⟩
  |cons x xs=>exact ns h
 |@cons n i pos r is hs t ih=>
  intro st s xs vs env p hv h
  cases xs with
  |nil=>exact ns h
  |cons x xs=>
   refine e2c hv fun v r' zq2 h1 h2=>?_;clear hv;subst zq2
   refine (?_:wpN _ _ (holding r' (assign (.Name n pos) e v)>>=fun _=>assignInOrder _ r') _ _)
   refine cO (cR ?_)
   rw [arm_assign_Name]
   refine cS (cQ (wpAny_bindName (p.store hs.1 hs.2 h1 fun s₁ sm₁ p₁=>?_)))
   exact cV (ih p₁ h2 h) fun _ s₂ zp=>e0b zp fun sm₂ p₂=>⟨sm₁.trans sm₂,p₂⟩
theorem mV:∀{is:List Nat} {l:List P} {env:List (Option V)},rI is l env=kg is (l.map .p) env
 |[],[],_=>rfl
 |[],_::_,_=>rfl
 |_::_,[],_=>rfl
 |_::is,_::l,env=>mV (is:=is) (l:=l)
theorem dJ.toV {g:Gm} {k:lI}:∀{l:List P} {vs:List Value},dJ g l vs→du g k (l.map .p) vs
 |[],_,h=>h
 |_::_,_,⟨v,r,e,h1,h2⟩=>⟨v,r,e,h1,h2.toV⟩
theorem mW:∀{is:List Nat} {xs:List V} {env env':List (Option V)},kg is xs env=some env'→xs.length=is.length
 |[],[],_,_,_=>rfl
 |[],_::_,_,_,h=>by exact ns h
 |_::_,[],_,_,h=>by exact ns h
 |_::is,_::xs,env,env',h=>by simp [mW (is:=is) (xs:=xs) h]
theorem sB {te:PySem.Expr} {t:T} {v:V} {a:Value} {Q:St→Prop} (hA:A.handled=none) (T:Tgt e nm te t) (p:Pre H0 f e nm G st s) (hv:dL G.g G.k v a) (h:w8 t v st Q) :
  wpN (model prog wd) A (assign te e a) (fun _ s'=>∃st',gr s s'∧st'.σ=st.σ∧Pre H0 f e nm G st' s'∧Q st') s:=by
 cases T with
 |@name n i pos hs=>
  rw [arm_assign_Name]
  exact cS (cQ (wpAny_bindName (p.store hs.1 hs.2 hv fun s₁ sm₁ p₁=>⟨{st with env:=st.env.set i (some v)},sm₁,rfl,p₁,h⟩)))
 |@tup es is k pos T=>
  have go:∀{ad:Addr} {xs:List V} {vs:List Value} {m:Nat} {env:List (Option V)},a=.ref ad→s.heap.get? ad=some (CM vs m)→du G.g G.k xs vs→kg is xs st.env=some env→Q {st with env:=env}→
    wpN (model prog wd) A (assign (.Tuple es k pos) e a) (fun _ s'=>∃st',gr s s'∧st'.σ=st.σ∧Pre H0 f e nm G st' s'∧Q st') s:=fun {ad xs vs m env} ea ho hvs henv q=>by
   subst ea
   have hl1:=hvs.length
   have hl2:=mW henv
   rw [arm_assign_Tuple]
   refine cS ?_
   unfold unpack
   rw [T.len.2]
   have ht:s.heap.IsTuple ad vs.toArray:=⟨_,ho,rfl,m,rfl⟩
   rw [show (assignEach es e).length=vs.toArray.size by rw [T.len.1,List.size_toArray,hl1,hl2]]
   refine cO (cR (cQ (wpAny_unpackItems_tuple hA ht fun h' hk=>?_)))
   have p':Pre H0 f e nm G st {s with heap:=h'}:=p.keeps fun x o hx=>hk x o (Nat.ne_of_lt (Heap.lt_size hx)) hx
   exact cV (xL T p' hvs henv) fun _ s₂ zp=>e0b zp fun sm₂ p₂=>⟨{st with env:=env},(show gr s {s with heap:=h'} from ⟨rfl,rfl,rfl⟩).trans sm₂,rfl,p₂,q⟩
  simp only [w8] at h
  split at h
  ·rename_i l
   split at h
   ·rename_i env henv
    refine e4d hv fun ad o vs m zq4 ho zq6 hvs=>?_;clear hv;subst zq4 zq6
    exact go rfl (p.inv.gg _ _ ho) hvs.toV (by rw [←mV];exact henv) h
   ·exact h.elim
  ·rename_i l
   split at h
   ·rename_i env henv
    refine e4d hv fun ad o vs m zq4 ho zq6 hvs=>?_;clear hv;subst zq4 zq6
    exact go rfl (p.inv.gg _ _ ho) hvs henv h
   ·exact h.elim
  ·exact h.elim
theorem zL {l:PySem.Expr} {cl:C} {es:List PySem.Expr} {is:List Nat} {k:Nat} {pos p2:Pos} (hA:A.handled=none) (hc:fC l=false) (ht:uc l=false) (T:yF e nm es is) (hl:EJ H0 (model prog wd) A e nm (eval l e) (w Pk cl)) :
  SJ H0 (model prog wd) A e nm (exec (.Assign [.Tuple es k p2] l pos) e) (wS Pk (.asg (.tup is) cl)):=fun f G s st Q m p hm h=>by
 have e0:exec (.Assign [.Tuple es k p2] l pos) e=(do
   standAt pos
   if ←swapsWith l (some (.Tuple es k p2)) pos.line e then do
    evalThenUse l e fun v=>assignAll v ((assignEach [.Tuple es k p2] e).map (·.2))
    pure .next
   else do
    let v ←eval l e
    assignStores e v (←swappedStores [.Tuple es k p2] l e) [assign (.Tuple es k p2) e]):=rfl
 have hsw:swappedStores [.Tuple es k p2] l e=pure none:=by cases l<;>first|rfl|exact tf ht
 refine dC e0 ?_
 rw [kD hc,hsw]
 refine cS (cO (wpN_pure (cW rfl ?_)))
 refine cO (fP (hl f G s st _ p h) fun v s₁ G₁ st₁ y sm₁ le₁ n₁ p₁ v₁ q₁=>?_)
 refine cO (wpN_pure ?_)
 refine (?_:wpN _ _ (assign (.Tuple es k p2) e v>>=fun _=>pure Flow.next) _ _)
 refine cO (cV (sB hA (.tup T) p₁ v₁ q₁) fun _ s₂ zp=>e1d zp fun st₂ sm₂ hσ p₂ q₂=>wpN_pure ?_)
 exact fk.step (sm₁.trans sm₂) (le₁.toN _) (.now p₂ (by rw [hσ];exact Nat.le_trans hm n₁) (fl:=.next) rfl q₂)
end
end
section
structure ItK (prog:Program) (wd:World) (A:Around) (src:Gh→Heap→Prop) (IS:List P→Obj→Prop) (it:Addr):Prop where
 next:∀(G:Gh) (s:Shared) (x:P) (xs:List P) (o:Obj),src G s.heap→s.heap.get? it=some o→IS (x::xs) o→∀(Q:Option Value→Shared→Prop),
  (∀h' v o' t,PRel G.g x v→h'.get? it=some o'→IS xs o'→Heap.SameBut it s.heap h'→Q (some v) {s with heap:=h',toks:=t})→wpN (model prog wd) A (pyNext (.ref it)) Q s
 stop:∀(G:Gh) (s:Shared) (o:Obj),src G s.heap→s.heap.get? it=some o→IS [] o→∀(Q:Option Value→Shared→Prop),
  (∀h',Heap.ExtBut it s.heap h'→Q none {s with heap:=h'})→wpN (model prog wd) A (pyNext (.ref it)) Q s
 again:∀(s:Shared) (xs:List P) (o:Obj),s.heap.get? it=some o→IS xs o→∀(Q:Value→Shared→Prop),Q (.ref it) s→wpN (model prog wd) A (pyIter (.ref it)) Q s
 noOwn:∀xs o,IS xs o→∃T fs,o.cls=.type T∧o.data=.fields fs∧["enumerate","zip","dict_itemiterator","dict_reverseitemiterator","odict_iterator","itertools.zip_longest","itertools.pairwise"].contains T=false
section
variable {prog:Program} {wd:World} {A:Around} {H0:Heap} {e:Env} {nm:List (Option Str)} {Pk:Pg} {f:Gm} {G:Gh} {st:St} {s:Shared} {n:Nat}
noncomputable def mQ (ad:Addr) (l:List P) (G:Gh) (h:Heap):Prop:=∃vs k,h.get? ad=some (oB vs k)∧dJ G.g l vs
noncomputable def yP (ad:Addr) (l:List P) (G:Gh) (h:Heap):Prop:=∃vs k,h.get? ad=some (CM vs k)∧dJ G.g l vs
noncomputable def tw (ad:Addr) (l:List P) (xs:List P) (o:Obj):Prop:=∃i:Nat,o.cls=.type "list_iterator"∧o.data=.fields #[.ref ad, .int i 0]∧xs=l.drop i
noncomputable def vQ (ad:Addr) (l:List P) (xs:List P) (o:Obj):Prop:=∃i:Nat,o.cls=.type "tuple_iterator"∧o.data=.fields #[.ref ad, .int i 0]∧xs=l.drop i
noncomputable def rV (ad:Addr) (l:List P) (xs:List P) (o:Obj):Prop:=∃i:Nat,i≤l.length∧o.cls=.type "list_reverseiterator"∧o.data=.fields #[.ref ad,rawInt ((i:Int)-1)]∧xs=(l.take i).reverse
noncomputable def vR (c:Int) (xs:List P) (o:Obj):Prop:=∃(a:Int) (m:Nat),o={cls:=.type "range_iterator",dict:=none,data:=.fields #[rawInt a,rawInt m,rawInt c],slots:=#[]}∧xs=(List.range m).map fun (k:Nat)=>.int (a+(k:Int)*c)
theorem wl {l xs:List P} {x:P} {i:Nat} (h:x::xs=l.drop i):l[i]? = some x∧xs=l.drop (i+1):=by
 have h1:(l.drop i)[0]? = some x:=by rw [←h];rfl
 rw [List.getElem?_drop] at h1
 refine ⟨by simpa using h1,?_⟩
 rw [←List.drop_drop,←h];rfl
theorem BO {ad it:Addr} {l:List P} (hA:A.handled=none):ItK prog wd A (mQ ad l) (tw ad l) it where
 next:=fun G s x xs o zp ho zq Q hQ=>e2b zp fun vs k hs hv=>e1c zq fun i h1 h2 h3=>by
  refine e0b (wl h3) fun h4 h5=>?_
  refine e1b (hv.at h4) fun v h6 h7=>?_
  exact cQ (wpAny_pyNext_list_item ⟨o,ho,h1,h2⟩ (dN hs) (x:=v) (by simpa using h6) fun h' zp hsb=>e1c zp fun o' g1 g2 g3=>hQ h' v o' s.toks h7 g1 ⟨i+1,g2,g3,h5⟩ hsb)
 stop:=fun G s o zp ho zq Q hQ=>e2b zp fun vs k hs hv=>e1c zq fun i h1 h2 h3=>by
  have hlen:=hv.length
  have:l.length≤i:=by
   rcases Nat.lt_or_ge i l.length with q|q
   ·have:=congrArg List.length h3;simp at this;lia
   ·exact q
  exact cQ (wpAny_pyNext_list_end hA ⟨o,ho,h1,h2⟩ (dN hs) (by simp [hlen,this]) hQ)
 again:=fun s xs o ho zp Q q=>e1c zp fun i h1 h2 h3=>cQ (wpAny_pyIter_listiter ⟨o,ho,h1,h2⟩ q)
 noOwn:=fun xs o zp=>e1c zp fun i h1 h2 h3=>⟨_,_,h1,h2,by decide +kernel⟩
theorem Dm {ad it:Addr} {l:List P} (hA:A.handled=none):ItK prog wd A (yP ad l) (vQ ad l) it where
 next:=fun G s x xs o zp ho zq Q hQ=>e2b zp fun vs k hs hv=>e1c zq fun i h1 h2 h3=>by
  refine e0b (wl h3) fun h4 h5=>?_
  refine e1b (hv.at h4) fun v h6 h7=>?_
  exact cQ (wpAny_pyNext_tuple_item ⟨o,ho,h1,h2⟩ ⟨_,hs,rfl,k,rfl⟩ (x:=v) (by simpa using h6) fun h' zp hsb=>e1c zp fun o' g1 g2 g3=>hQ h' v o' s.toks h7 g1 ⟨i+1,g2,g3,h5⟩ hsb)
 stop:=fun G s o zp ho zq Q hQ=>e2b zp fun vs k hs hv=>e1c zq fun i h1 h2 h3=>by
  have hlen:=hv.length
  have:l.length≤i:=by
   rcases Nat.lt_or_ge i l.length with q|q
   ·have:=congrArg List.length h3;simp at this;lia
   ·exact q
  exact cQ (wpAny_pyNext_tuple_end hA ⟨o,ho,h1,h2⟩ ⟨_,hs,rfl,k,rfl⟩ (by simp [hlen,this]) hQ)
 again:=fun s xs o ho zp Q q=>e1c zp fun i h1 h2 h3=>cQ (by
  refine wpAny_pyIter_slot (T:="tuple_iterator") ⟨o,ho,h1⟩ F.slot_tuple_iterator_iter (wpAny_call_entry F.slot_tuple_iterator_iter ⟨o,ho,h1⟩ F.entry_tuple_iterator_iter ?_ (F.args_tuple_iterator_iter_1 _))
  refine (?_:wpAny _ _ (ret (.ref it)) _ _ s)
  exact wpAny_pure ⟨_,rfl,"tuple_iterator",_,⟨o,ho,h1⟩,F.slot_tuple_iterator_next.lookup,q⟩)
 noOwn:=fun xs o zp=>e1c zp fun i h1 h2 h3=>⟨_,_,h1,h2,by decide +kernel⟩
theorem BN {ad it:Addr} {l:List P} (hA:A.handled=none):ItK prog wd A (mQ ad l) (rV ad l) it where
 next:=fun G s x xs o zp ho zq Q hQ=>e2b zp fun vs k hs hv=>e1d zq fun i h0 h1 h2 h3=>by
  cases i with
  |zero=>simp at h3
  |succ i=>
   have hi:i<l.length:=h0
   have e1:l.take (i+1)=l.take i++[l[i]]:=by rw [List.take_add_one];simp [hi]
   rw [e1,List.reverse_append] at h3
   simp at h3
   refine e0b h3 fun zq0 zq1=>?_;clear h3;subst zq0 zq1
   refine e1b (hv.at (List.getElem?_eq_getElem hi)) fun v h6 h7=>?_
   have e2:(((i+1:Nat):Int)-1)=(i:Int):=by lia
   rw [e2] at h2
   have hit:s.heap.IsRevIter it ad (i:Int):=⟨o,ho,h1,h2⟩
   exact cQ (wpAny_pyNext_rev_item hit (dN hs) (x:=v) (by simpa using h6) fun h' zp hsb=>e1c zp fun o' g1 g2 g3=>hQ h' v o' s.toks h7 g1 ⟨i,Nat.le_of_lt hi,g2,g3,by simp⟩ hsb)
 stop:=fun G s o zp ho zq Q hQ=>e2b zp fun vs k hs hv=>e1d zq fun i h0 h1 h2 h3=>by
  have:i=0:=by
   have h4:=congrArg List.length h3
   rw [List.length_reverse,List.length_take,List.length_nil] at h4
   lia
  subst this
  exact cQ (wpAny_pyNext_rev_end hA ⟨o,ho,h1,h2⟩ hQ)
 again:=fun s xs o ho zp Q q=>e1d zp fun i h0 h1 h2 h3=>cQ (by
  refine wpAny_pyIter_slot (T:="list_reverseiterator") ⟨o,ho,h1⟩ F.slot_lri_iter (wpAny_call_entry F.slot_lri_iter ⟨o,ho,h1⟩ F.entry_lri_iter ?_ (F.args_lri_iter_1 _))
  refine (?_:wpAny _ _ (ret (.ref it)) _ _ s)
  exact wpAny_pure ⟨_,rfl,"list_reverseiterator",_,⟨o,ho,h1⟩,F.slot_lri_next.lookup,q⟩)
 noOwn:=fun xs o zp=>e1d zp fun i h0 h1 h2 h3=>⟨_,_,h1,h2,by decide +kernel⟩
theorem Dn {it:Addr} {c:Int} (hA:A.handled=none):ItK prog wd A (fun _ _=>True) (vR c) it where
 next:=fun G s x xs o _ ho zp Q hQ=>e2b zp fun a m h1 h3=>by
  subst h1
  cases m with
  |zero=>simp at h3
  |succ m=>
   rw [List.range_succ_eq_map] at h3
   simp only [List.map_cons,List.cons.injEq,List.map_map] at h3
   refine e0b h3 fun zq0 zq1=>?_;clear h3;subst zq0 zq1
   refine cQ (wpAny_pyNext_range_item ho (by lia) fun h' g1 hsb=>?_)
   have:=hQ h' (.int a s.toks) _ (s.toks+1) ⟨s.toks,by simp⟩ g1 ⟨a+c,m,by rw [show (((m+1:Nat):Int)-1)=(m:Int) by lia],?_⟩ hsb
   ·exact this
   ·apply List.map_congr_left
    intro k _
    simp only [Function.comp_apply,P.int.injEq]
    push_cast
    rw [Int.add_mul];lia
 stop:=fun G s o _ ho zp Q hQ=>e2b zp fun a m h1 h3=>by
  subst h1
  have:m=0:=by have:=congrArg List.length h3;simpa using this.symm
  subst this
  exact cQ (wpAny_pyNext_range_end hA ho (by lia) hQ)
 again:=fun s xs o ho zp Q q=>e2b zp fun a m h1 h3=>cQ (by
  subst h1
  refine wpAny_pyIter_slot (T:="range_iterator") ⟨_,ho,rfl⟩ F.slot_range_iterator_iter (wpAny_call_entry F.slot_range_iterator_iter ⟨_,ho,rfl⟩ F.entry_range_iterator_iter ?_ (F.args_range_iterator_iter_1 _))
  refine (?_:wpAny _ _ (ret (.ref it)) _ _ s)
  exact wpAny_pure ⟨_,rfl,"range_iterator",_,⟨_,ho,rfl⟩,F.slot_range_iterator_next.lookup,q⟩)
 noOwn:=fun xs o zp=>e2b zp fun a m h1 h3=>by subst h1;exact ⟨_,_,rfl,rfl,by decide +kernel⟩
variable {t:PySem.Expr} {cl cr ct:C} {pos:Pos} {sa sb:S} {body:List Stmt}
noncomputable def addF (f:Gm) (it:Addr) (o:Obj):Gm:=fun a=>if a=it then some o else f a
theorem Pre.addF (p:Pre H0 f e nm G st s) {it:Addr} {o:Obj} (ho:s.heap.get? it=some o) (hg:G.g it=none) (hw:G.ow it=none):Pre H0 (addF f it o) e nm G st s:=
 ⟨⟨p.inv.base,p.inv.gg,fun a x h=>by
   unfold Fb.addF at h;split at h
   ·rename_i q;subst q;obtain rfl:=sj h;exact ho
   ·exact p.inv.ff a x h,fun a x h=>by
   unfold Fb.addF at h;split at h
   ·rename_i q;subst q;exact hg
   ·exact p.inv.fg a x h,fun a x h=>⟨(p.inv.own a x h).1,by
   unfold Fb.addF;rw [if_neg fun q=>by subst q;rw [hw] at h;exact ns h];exact (p.inv.own a x h).2.1,(p.inv.own a x h).2.2⟩,p.inv.obj,p.inv.dom⟩,p.fr,p.len⟩
theorem Pre.dropF {it:Addr} {o:Obj} (p:Pre H0 (Fb.addF f it o) e nm G st s) (hf:f it=none):Pre H0 f e nm G st s∧s.heap.get? it=some o∧G.g it=none∧G.ow it=none:=by
 have hi:Fb.addF f it o it=some o:=if_pos rfl
 have ne:∀a x,f a=some x→Fb.addF f it o a=some x:=fun a x h=>(if_neg fun q=>by subst q;rw [hf] at h;exact ns h).trans h
 refine ⟨⟨⟨p.inv.base,p.inv.gg,fun a x h=>p.inv.ff a x (ne a x h),fun a x h=>p.inv.fg a x (ne a x h),fun a x h=>⟨(p.inv.own a x h).1,?_,(p.inv.own a x h).2.2⟩,p.inv.obj,p.inv.dom⟩,p.fr,p.len⟩,p.inv.ff _ _ hi,p.inv.fg _ _ hi,?_⟩
 ·cases q:f a with
  |none=>rfl
  |some y=>have:=(p.inv.own a x h).2.1;rw [ne a y q] at this;exact sn this
 ·cases q:G.ow it with
  |none=>rfl
  |some y=>have:=(p.inv.own it y q).2.1;rw [hi] at this;exact sn this
theorem Pre.unseen (p:Pre H0 f e nm G st s) {it:Addr} {h':Heap} {t:Nat} (hs:Heap.ExtBut it s.heap h') (hf:f it=none) (hg:G.g it=none) (hw:G.ow it=none):Pre H0 f e nm G st {s with heap:=h',toks:=t}:=
 ⟨p.inv.keep fun a o hv ho=>hs a o (fun q=>by
   subst q
   rcases hv with q|q|⟨x,q⟩
   ·rw [hg] at q;exact ns q
   ·rw [hf] at q;exact ns q
   ·rw [hw] at q;exact ns q) ho,p.fr.keep fun a j ha o ho=>hs a o (fun q=>by subst q;rw [hw] at ha;exact ns ha) ho,p.len⟩
theorem tm {it:Addr} {v:Value} {T:String} {fs:Array Value} {o:Obj} {Q:Unit→Shared→Prop} (ho:s.heap.get? it=some o) (hc:o.cls=.type T) (hd:o.data=.fields fs)
  (hT:["enumerate","zip","dict_itemiterator","dict_reverseitemiterator","odict_iterator","itertools.zip_longest","itertools.pairwise"].contains T=false) (h:Q () s):wpN (model prog wd) A (letOwnedTupleGo t (.ref it) v) Q s:=by
 have go:wpN (model prog wd) A (do
   let (.ref r, .ref a):=(Value.ref it,v)|return
   let o ←load r
   match o.cls,o.data with
   |.type n, .fields vs=>
    if ["enumerate","zip","dict_itemiterator","dict_reverseitemiterator","odict_iterator","itertools.zip_longest","itertools.pairwise"].contains n&&vs[0]?==some (rawInt a) then
     rule "for.unpacks-the-owned-tuple"
     updateField r 0 .none
   |_,_=>pure ()) Q s:=by
  cases v with
  |ref a=>
   refine cX (wpAny_load ho ?_)
   rw [hc,hd]
   dsimp only
   rw [hT,Bool.false_and]
   exact cW rfl (wpN_pure h)
  |_=>exact wpN_pure h
 cases t<;>first|exact go|exact wpN_pure h
theorem nO {R:Flow→Shared→Prop} (h:R .next s):eW (model prog wd) A (.block [] e) R s:=by
 refine dj rfl ?_
 refine (?_:wpN _ _ (do return Fin.done (←(execs [] e).onRaise (fun x=>do noteFrame x e;theTreesLotGoes x))) _ _)
 exact cO (dU (wpN_pure (wpN_pure h)))
theorem wu {tt:T} {chk:St→Prop} {src:Gh→Heap→Prop} {IS:List P→Obj→Prop} {it:Addr} (hA:A.handled=none) (K:ItK prog wd A src IS it) (TT:Tgt e nm t tt) (ha:SJ H0 (model prog wd) A e nm (execs body e) (wS Pk sa))
  (hsrc:∀(G₀ G:Gh) (st:St) (s:Shared),src G₀ s.heap→True) (n0 m:Nat) (hm:m≤n0) (f:Gm) (hf:f it=none) (Gs:Gh)
  (hchk:∀(G:Gh) (st:St) (s:Shared),Pre H0 f e nm G st s→Gs.LeN n0 G→chk st→src G s.heap) :
  ∀(xs:List P) (G:Gh) (s:Shared) (st:St) (o:Obj) (Q:Fl→St→Prop),Pre H0 f e nm G st s→Gs.LeN n0 G→n0≤st.σ.length→s.heap.get? it=some o→IS xs o→G.g it=none→G.ow it=none→
   vH n0 chk (fun x st K=>w8 tt (.p x) st fun st=>wS Pk sa st K) xs st Q→
   eW (model prog wd) A (.forLoop t (.ref it) body [] e) (fk H0 f e nm G s m Q) s:=by
 intro xs
 induction xs with
 |nil=>
  intro G s st o Q p hle hn ho hI hg hw h
  refine dj rfl ?_
  refine (?_:wpN _ A ((forTurn t (.ref it) body [] e).onRaise _) _ s)
  refine dU ?_
  unfold forTurn
  refine cS (cO (dU (K.stop G s o (hchk G st s p hle h.1) ho hI _ fun h' hs=>?_)))
  refine wpN_pure ⟨rfl,nO ?_⟩
  exact fk.step (s₁:={s with heap:=h'}) ⟨rfl,rfl,rfl⟩ ((Gh.Le.refl _).toN _) (.now (p.unseen (t:=s.toks) hs hf hg hw) (Nat.le_trans hm hn) (fl:=.next) rfl h.2)
 |cons x xs ih=>
  intro G s st o Q p hle hn ho hI hg hw h
  refine dj rfl ?_
  refine (?_:wpN _ A ((forTurn t (.ref it) body [] e).onRaise _) _ s)
  refine dU ?_
  unfold forTurn
  refine cS (cO (dU (K.next G s x xs o (hchk G st s p hle h.1) ho hI _ fun h' v o' tk hv ho' hI' hs=>?_)))
  have p₁:=p.unseen (t:=tk) hs.extBut hf hg hw
  refine e2c (K.noOwn xs o' hI') fun T fs g1 g2 g3=>?_
  dsimp only
  refine cO (tm (s:={s with heap:=h',toks:=tk}) ho' g1 g2 g3 ?_)
  have p₂:=p₁.addF (o:=o') ho' hg hw
  refine cO (cV (sB hA TT p₂ (v:=.p x) hv h.2) fun _ s₃ zp=>e1d zp fun st₃ sm₃ hσ₃ p₃ q₃=>?_)
  refine cO (Da (ha _ G s₃ st₃ _ n0 p₃ (by rw [hσ₃];exact hn) q₃) fun fl s₄ G₄ st₄ y sm₄ le₄ n₄ p₄ v₄ q₄=>?_)
  refine e0d (p₄.dropF hf) fun p₅ ho₅ hg₅ hw₅=>?_
  have sm:gr s s₄:=(show gr s {s with heap:=h',toks:=tk} from ⟨rfl,rfl,rfl⟩).trans (sm₃.trans sm₄)
  have go:vH n0 chk (fun x st K=>w8 tt (.p x) st fun st=>wS Pk sa st K) xs (iT n0 st₄) Q→eW (model prog wd) A (.forLoop t (.ref it) body [] e) (fk H0 f e nm G s m Q) s₄:=fun z=>
   dY (ih (w7 n0 G₄) s₄ (iT n0 st₄) o' Q (p₅.cut n0) ((hle.trans le₄).trans (pN n0 G₄)) (by simp [iT];lia) ho₅ hI' hg₅ (by simp only [w7,hw₅]) z) fun fl s₅ P=>
    P.step sm ((le₄.mono hm).trans ((pN n0 G₄).mono hm))
  cases y with
  |next=>subst v₄;exact wpN_pure ⟨rfl,go q₄⟩
  |cont=>subst v₄;exact wpN_pure ⟨rfl,go q₄⟩
  |brk=>subst v₄;exact wpN_pure (fk.step sm (le₄.mono hm) (.now p₅ (Nat.le_trans hm n₄) (fl:=.next) rfl q₄))
  |ret y=>refine e1b v₄ fun v zq1 hv=>?_;clear v₄;subst zq1;exact wpN_pure (fk.step sm (le₄.mono hm) (.now p₅ (Nat.le_trans hm n₄) (fl:=.ret y) ⟨v,rfl,hv⟩ q₄))
end
end
section
section
variable {prog:Program} {wd:World} {A:Around} {H0:Heap} {e:Env} {nm:List (Option Str)} {Pk:Pg} {f:Gm} {G:Gh} {st:St} {s:Shared} {n:Nat}
variable {o l r t:PySem.Expr} {cl cr ct ci:C} {pos p2:Pos} {sa sb:S} {body:List Stmt} {args:List PySem.Expr}
noncomputable def eM (x:PySem.Expr):Bool:=!(Nat.beq x.ctorIdx 7)
theorem l3 {x:Value} (h:eM l=true):foldedSetIterable l e x=pure x:=by cases l<;>first|rfl|exact ft h
noncomputable def yJ (prog:Program) (wd:World) (A:Around) (H0:Heap) (e:Env) (nm:List (Option Str)) (f:Gm) (ik:It) (vs:List V) (G:Gh) (st:St) (s:Shared) (it:Addr):Prop:=
 (f it=none∧G.g it=none∧G.ow it=none)∧∀K,pD ik vs st K→∃l chk src IS o,K l chk∧s.heap.get? it=some o∧IS l o∧ItK prog wd A src IS it∧
  ∀(G':Gh) (e':Env) (nm':List (Option Str)) (f':Gm) (st':St) (s':Shared),Pre H0 f' e' nm' G' st' s'→G.LeN st.σ.length G'→chk st'→src G' s'.heap
theorem dL.upN {x:V} {a:Value} {G':Gh} {K:List P→Prop} (p:Pre H0 f e nm G st s) (hx:dL G.g G.k x a) (h:dQ st.σ x K) (hle:G.LeN st.σ.length G'):dL G'.g G'.k x a:=by
 cases x with
 |p x=>exact PRel.mono hle.g hx
 |ref i=>
  refine e1b hx fun ad hi zq2=>?_;clear hx;subst zq2
  rcases Nat.lt_or_ge i st.σ.length with q|q
  ·exact ⟨ad,hle.id i ad q hi,rfl⟩
  ·rw [(p.inv.dom i q).1] at hi;exact ns hi
 |inn i m v=>
  refine e1b hx fun ad hi zq2=>?_;clear hx;subst zq2
  rcases Nat.lt_or_ge i st.σ.length with q|q
  ·exact ⟨ad,hle.inn i m v ad q hi,rfl⟩
  ·rw [(p.inv.dom i q).2] at hi;exact ns hi
 |_=>exact h.elim
theorem qu {x:V} {ad:Addr} {G':Gh} {e':Env} {nm':List (Option Str)} {f':Gm} {st':St} {s':Shared} {K:List P→Prop} {l:List P} (p:Pre H0 f e nm G st s) (hx:dL G.g G.k x (.ref ad)) (h:dQ st.σ x K) (hn:ou x)
  (p':Pre H0 f' e' nm' G' st' s') (hle:G.LeN st.σ.length G') (hc:dQ st'.σ x (· = l)):mQ ad l G' s'.heap:=by
 refine e4d (mY p' (hx.upN p h hle) hc) fun _ _ us k e2 zq5 hv ho=>?_;clear hc hle p' h hx p K st' f' nm' e';subst zq5
 cases e2
 rcases ho with ⟨rfl,_⟩|⟨_,ho⟩
 ·exact hn.elim
 ·exact ⟨us,k,ho,hv⟩
theorem vP {x:V} {a:Value} {R:Value→Shared→Prop} (hA:A.handled=none) (p:Pre H0 f e nm G st s) (hx:dL G.g G.k x a) (h:dQ st.σ x fun _=>True)
  (hR:∀s',gr s s'→(∀b o,s.heap.get? b=some o→s'.heap.get? b=some o)→Pre H0 f e nm G st s'→yJ prog wd A H0 e nm f .lst [x] G st s' s.heap.objs.size→R (.ref s.heap.objs.size) s'):wpN (model prog wd) A (pyIter a) R s:=by
 have fr:=p.fresh (Nat.le_refl _)
 refine e4d (mY p hx h) fun ad ps us k q _ hv zB=>?_;subst q
 rcases zB with ⟨rfl,ho⟩|⟨hn,ho⟩
 ·refine cQ (wpAny_pyIter_tuple ⟨_,ho,rfl,k,rfl⟩ ?_)
  refine e4d hx fun ad' o us k e1 hg zq6 hv=>?_;clear hx;subst zq6
  cases e1
  exact hR {s with heap:=_} ⟨rfl,rfl,rfl⟩ (fun b o h=>Heap.get?_push_of_some _ h) (p.keeps fun b o h=>Heap.get?_push_of_some _ h) ⟨⟨fr.2.1,fr.1,fr.2.2⟩,fun K hK=>⟨ps,_,yP ad ps,vQ ad ps,_,hK,Heap.get?_push_size _ rfl,⟨0,rfl,rfl,rfl⟩,Dm hA,fun G' e' nm' f' st' s' p' hle _=>⟨us,k,p'.inv.gg _ _ (hle.g _ _ hg),hv.mono hle.g⟩⟩⟩
 ·refine cQ (wpAny_pyIter_list (dN ho) ?_)
  refine hR {s with heap:=_} ⟨rfl,rfl,rfl⟩ (fun b o h=>Heap.get?_push_of_some _ h) (p.keeps fun b o h=>Heap.get?_push_of_some _ h) ⟨⟨fr.2.1,fr.1,fr.2.2⟩,fun K hK=>?_⟩
  refine e4d (mY p hx (show dQ st.σ x (fun l=>K l fun st=>dQ st.σ x (· = l)) from hK)) fun _ l _ _ e1 hl _ _=>?_
  clear hR R hK fr hv ps ho;cases e1
  exact ⟨l,_,mQ _ l,tw _ l,_,hl,Heap.get?_push_size _ rfl,⟨0,rfl,rfl,rfl⟩,BO hA,fun G' e' nm' f' st' s' p' hle hc=>qu p hx h hn p' hle hc⟩
theorem mL {σ:List O} {v:V} {K K':Bx→Prop} (h:dE σ v K) (hK:∀b,K b→K' b):dE σ v K':=by
 cases v with
 |ref i=>
  simp only [dE] at *
  split at h
  ·exact hK _ h
  ·exact h.elim
 |inn i k n=>
  simp only [dE] at *
  split at h
  ·refine e0b h fun h1 h2=>?_
   refine ⟨h1,?_⟩
   split at h2
   ·exact hK _ h2
   ·exact h2.elim
  ·exact h.elim
 |_=>exact h.elim
theorem iS {σ:List O} {v:V} {K K':List P→Prop} (h:dQ σ v K) (hK:∀l,K l→K' l):dQ σ v K':=by
 cases v with
 |p x=>cases x<;>first|exact h.elim|exact hK _ h
 |ref i=>exact mL (σ:=σ) (v:=.ref i) h fun b hb=>by cases b<;>first|exact hK _ hb|exact hb
 |inn i k n=>exact mL (σ:=σ) (v:=.inn i k n) h fun b hb=>by cases b<;>first|exact hK _ hb|exact hb
 |_=>exact h.elim
theorem u0 {x:Int} {r:List V} {K K':List P→(St→Prop)→Prop} (h:Db x r K) (hK:∀l c,K l c→K' l c):Db x r K':=by
 cases r with
 |nil=>exact ⟨h.1,hK _ _ h.2⟩
 |cons b r=>exact h.elim
theorem oU {ik:It} {vs:List V} {st:St} {K K':List P→(St→Prop)→Prop} (h:pD ik vs st K) (hK:∀l c,K l c→K' l c):pD ik vs st K':=by
 cases ik with
 |lst=>refine e1b (gA h) fun v zq1 h=>?_;subst zq1;exact iS h fun l hl=>hK _ _ hl
 |rev=>refine e1b (gA h) fun v zq1 h=>?_;subst zq1;exact iS h fun l hl=>⟨hl.1,hK _ _ hl.2⟩
 |rng=>refine e2b (ly h) fun _ r zq2 h=>?_;subst zq2;refine e1b (fS h) fun a zq1 h=>?_;subst zq1;exact u0 h hK
noncomputable def AV (H0:Heap) (prog:Program) (wd:World) (A:Around) (e:Env) (nm:List (Option Str)) (f:Gm) (ik:It) (G:Gh) (s:Shared) (n:Nat) (Q:List V→St→Prop) (v:Value) (s':Shared):Prop:=
 ∃G' st' vs it,v=.ref it∧gr s s'∧G.Le G'∧n≤st'.σ.length∧Pre H0 f e nm G' st' s'∧yJ prog wd A H0 e nm f ik vs G' st' s' it∧Q vs st'
theorem DO {ik:It} {Q:List V→St→Prop} {t:Sem Value} {K:Value→Shared→Prop} {s':Shared} (h:wpN (model prog wd) A t (AV H0 prog wd A e nm f ik G s n Q) s')
  (k:∀s₁ G₁ st₁ vs it,gr s s₁→G.Le G₁→n≤st₁.σ.length→Pre H0 f e nm G₁ st₁ s₁→yJ prog wd A H0 e nm f ik vs G₁ st₁ s₁ it→Q vs st₁→K (.ref it) s₁):wpN (model prog wd) A t K s':=
 cV h fun v s₁ h=>h.elim fun G₁ h=>h.elim fun st₁ h=>h.elim fun vs h=>h.elim fun it h=>h.1▸k s₁ G₁ st₁ vs it h.2.1 h.2.2.1 h.2.2.2.1 h.2.2.2.2.1 h.2.2.2.2.2.1 h.2.2.2.2.2.2
noncomputable def IJ (H0:Heap) (prog:Program) (wd:World) (A:Around) (e:Env) (nm:List (Option Str)) (t:Sem Value) (W:St→(List V→St→Prop)→Prop) (ik:It):Prop:=
 ∀f G s st Q,Pre H0 f e nm G st s→W st Q→(∀vs st,Q vs st→pD ik vs st fun _ _=>True)→wpN (model prog wd) A t (fun a s₁=>wpN (model prog wd) A (pyIter a) (AV H0 prog wd A e nm f ik G s st.σ.length Q) s₁) s
theorem BX (hA:A.handled=none) (hl:EJ H0 (model prog wd) A e nm (eval l e) (w Pk cl)):IJ H0 prog wd A e nm (eval l e) (w Pk cl) .lst:=fun f G s st Q p h hQ=>
 fP (hl f G s st _ p h) fun a s₁ G₁ st₁ x sm₁ le₁ n₁ p₁ v₁ q₁=>
  vP hA p₁ v₁ (iS (show dQ _ x (fun _=>True) from hQ _ _ q₁) fun _ _=>trivial) fun s₂ sm₂ hk p₂ hr=>⟨G₁,st₁,[x],_,rfl,sm₁.trans sm₂,le₁,n₁,p₂,hr,q₁⟩
theorem rK {a b c:Int} (h:rOK a b c):Builtin.Range.small a b c=true:=by
 refine e0e h fun h1 h2 h3 h4 h5=>?_
 have key:∀x:Int,-(2 ^ 33)≤x→x≤2 ^ 33→Builtin.Range.rangeFitsLong x=true:=fun x h1 h2=>by
  unfold Builtin.Range.rangeFitsLong
  rw [Bool.and_eq_true,decide_eq_true_eq,decide_eq_true_eq]
  lia
 have sz : -(2 ^ 33)≤Builtin.Range.rangeSize a b c∧Builtin.Range.rangeSize a b c≤2 ^ 33:=by
  unfold Builtin.Range.rangeSize
  rcases h5 with rfl|rfl
  ·rw [if_pos (by decide),Int.ediv_one];split<;>lia
  ·rw [if_neg (by decide),show (-(-1:Int))=1 from rfl,Int.ediv_one];split<;>lia
 have hc : -1≤c∧c≤1:=by clear h h2 h1 h4 h3;rcases h5 with rfl|rfl<;>decide
 unfold Builtin.Range.small
 rw [key a (by lia) (by lia),key b (by lia) (by lia),key c (by lia) (by lia),key _ sz.1 sz.2]
 rcases h5 with rfl|rfl
 ·rw [if_pos (by decide)]
  simp only [Bool.true_and]
  rw [key _ (by lia) (by lia),Bool.or_true]
 ·rw [if_neg (by decide)]
  simp only [Bool.true_and]
  rw [key _ (by lia) (by lia),Bool.or_true]
theorem qw (a b c:Int):0≤Builtin.Range.rangeSize a b c:=by
 unfold Builtin.Range.rangeSize
 split
 ·split
  ·rename_i h1 h2
   have:=Int.ediv_nonneg (a:=b-a-1) (b:=c) (by exact lin [_,_] [] ai (.s bi ap) 1 [.i 1 bP aa] rfl h2) (by exact lin [_] [] ai aa 1 [.i 1 bn aa] rfl h1);exact lin [_] [] ai be 1 [.i 1 ai aa] rfl this
  ·exact lin [] [] ai ai 1 [] rfl
 ·split
  ·rename_i h1 h2
   have:=Int.ediv_nonneg (a:=a-b-1) (b:=-c) (by exact lin [_,_] [] ai (.s bi ap) 1 [.i 1 bP aa] rfl h2) (by exact lin [_] [] ai bW 1 [.i 1 aa ai] rfl (Int.not_lt.mp h1));exact lin [_] [] ai be 1 [.i 1 ai aa] rfl this
  ·exact lin [] [] ai ai 1 [] rfl
theorem ub {a b c:Int} {r:Addr} {u v w':Tok} {vs:List V} {R:Value→Shared→Prop} (hA:A.handled=none) (p:Pre H0 f e nm G st s) (hr:IsRange s.heap r a b c u v w') (hk:rOK a b c)
  (hvs:∀K,pD .rng vs st K→K (lS a b c) fun _=>True)
  (hR:∀s',gr s s'→Pre H0 f e nm G st s'→yJ prog wd A H0 e nm f .rng vs G st s' s.heap.objs.size→R (.ref s.heap.objs.size) s'):wpN (model prog wd) A (pyIter (.ref r)) R s:=by
 refine e0c (p.fresh (Nat.le_refl _)) fun f1 f2 f3=>?_
 refine cQ (wpAny_pyIter_range hr (rK hk) ?_)
 refine hR {s with heap:=_} ⟨rfl,rfl,rfl⟩ (p.keeps fun b o h=>Heap.get?_push_of_some _ h) ⟨⟨f2,f1,f3⟩,fun K hK=>⟨lS a b c,_,fun _ _=>True,vR c,_,hvs K hK,Heap.get?_push_size _ rfl,⟨a,(Builtin.Range.rangeSize a b c).toNat,?_,rfl⟩,Dn hA,fun _ _ _ _ _ _ _ _ _=>trivial⟩⟩
 rw [Int.toNat_of_nonneg (qw a b c)]
theorem BV {id:Str} {args:List PySem.Expr} (hA:A.handled=none) (hid:e.kindOf id=some .globalImplicit) (hg:e.globals=mainGlobals) (hb:e.builtins=builtinsNs) (h1:(id==("__debug__" : Str))=false) (hx:rp H0 id (.fn .range))
  (hpl:dG args=true) (ha:LJ H0 (model prog wd) A e nm (spliced (backTo pos (starEach args e))) (w Pk ca)) :
  IJ H0 prog wd A e nm (eval (.Call (.Name id p2) args [] pos) e) (w Pk ca) .rng:=fun f G s st Q p h hQ=>by
 refine dC (arm_eval_Call_Name' ..) ?_
 refine cO (fP (sd (Pk:=Pk) (x:=.fn .range) hid hg hb h1 hx f G s st (fun xs st=>xs=[.p (.fn .range)]∧w Pk ca st Q) p ⟨rfl,h⟩) fun fv s₁ G₁ st₁ fx sm₁ le₁ n₁ p₁ v₁ q₁=>?_)
 obtain ⟨e1,q₁⟩:=q₁
 cases e1
 clear hx h1 hb hg hid id p;subst v₁
 refine fB (fY (R:=fun a s'=>a.kw=[]∧yK H0 f e nm G₁ s₁ st₁.σ.length Q a.pos s') (kN hpl) (cV (ha f G₁ s₁ st₁ _ p₁ q₁) fun vs s₂ P=>⟨rfl,P⟩)) ?_
 refine fun as s₂ hh=>e0b hh fun ekw hh=>hh.el fun G₂ st₂ xs sm₂ le₂ n₂ p₂ v₂ q₂=>?_
 obtain ⟨vs,kw⟩:=as
 have ekw:kw=[]:=ekw
 have v₂:du G₂.g G₂.k xs vs:=v₂
 clear ha hpl args q₁ p₁ hh;subst ekw
 refine ⟨⟨_,Looks.of_pure rfl⟩,?_⟩
 have hit:=hQ _ _ q₂
 have fin:∀{a b c:Int} {u v w' tk:Tok},rOK a b c→(∀K,pD .rng xs st₂ K→K (lS a b c) fun _=>True)→
   wpN (model prog wd) A (pyIter (.ref s₂.heap.objs.size)) (AV H0 prog wd A e nm f .rng G s st.σ.length Q)
    {s₂ with heap:=s₂.heap.push {cls:=.type "range",data:=.fields #[.int a u, .int b v, .int c w']},toks:=tk}:=fun {a b c u v w' tk} hk hvs=>by
  have p₃:Pre H0 f e nm G₂ st₂ {s₂ with heap:=s₂.heap.push {cls:=.type "range",data:=.fields #[.int a u, .int b v, .int c w']},toks:=tk}:=p₂.keeps fun b o h=>Heap.get?_push_of_some _ h
  refine ub hA p₃ (Heap.get?_push_size _ rfl) hk hvs fun s₃ sm₃ p₄ hr=>⟨G₂,st₂,xs,_,rfl,((sm₁.trans sm₂).trans (show gr s₂ {s₂ with heap:=s₂.heap.push {cls:=.type "range",data:=.fields #[.int a u, .int b v, .int c w']},toks:=tk} from ⟨rfl,rfl,rfl⟩)).trans sm₃,le₁.trans le₂,Nat.le_trans n₁ n₂,p₄,hr,q₂⟩
 refine e2b (ly hit) fun _ r zq2 hit=>?_;clear hA q₂ n₂ n₁;subst zq2
 refine e1b (fS hit) fun a zq1 hit=>?_;subst zq1
 refine e2c v₂ fun _ vr zq2 zn1 hr=>?_;clear v₂;subst zq2;refine e1a zn1 fun t zq1=>?_;clear zn1;subst zq1
 cases r with
 |nil=>subst hr;exact cQ (call_range_1 (fin hit.1 fun K hK=>hK.2))
 |cons b r=>exact hit.elim
theorem BW {id:Str} {arg:PySem.Expr} (hA:A.handled=none) (hid:e.kindOf id=some .globalImplicit) (hg:e.globals=mainGlobals) (hb:e.builtins=builtinsNs) (h1:(id==("__debug__" : Str))=false) (hx:rp H0 id (.fn .reversed))
  (hpl:dG [arg]=true) (ha:LJ H0 (model prog wd) A e nm (spliced (backTo pos (starEach [arg] e))) (w Pk ca)) :
  IJ H0 prog wd A e nm (eval (.Call (.Name id p2) [arg] [] pos) e) (w Pk ca) .rev:=fun f G s st Q p h hQ=>by
 refine dC (arm_eval_Call_Name' ..) ?_
 refine cO (fP (sd (Pk:=Pk) (x:=.fn .reversed) hid hg hb h1 hx f G s st (fun xs st=>xs=[.p (.fn .reversed)]∧w Pk ca st Q) p ⟨rfl,h⟩) fun fv s₁ G₁ st₁ fx sm₁ le₁ n₁ p₁ v₁ q₁=>?_)
 obtain ⟨e1,q₁⟩:=q₁
 cases e1
 clear hx h1 hb hg hid id p;subst v₁
 refine fB (fY (R:=fun a s'=>a.kw=[]∧yK H0 f e nm G₁ s₁ st₁.σ.length Q a.pos s') (kN hpl) (cV (ha f G₁ s₁ st₁ _ p₁ q₁) fun vs s₂ P=>⟨rfl,P⟩)) ?_
 refine fun as s₂ hh=>e0b hh fun ekw hh=>hh.el fun G₂ st₂ xs sm₂ le₂ n₂ p₂ v₂ q₂=>?_
 obtain ⟨vs,kw⟩:=as
 have ekw:kw=[]:=ekw
 have v₂:du G₂.g G₂.k xs vs:=v₂
 clear ha hpl arg q₁ p₁ hh;subst ekw
 refine ⟨⟨_,Looks.of_pure rfl⟩,?_⟩
 have hit:=hQ _ _ q₂
 refine e1b (gA hit) fun x zq1 hit=>?_;clear ekw;subst zq1
 refine e2c v₂ fun v r zq2 hv hr=>?_;clear v₂;clear v₂;subst zq2;subst hr
 refine e4d (mY p₂ hv hit) fun ad ps us k q zA hl zB=>e0b zA fun h4 _=>?_;subst q
 rcases zB with ⟨rfl,ho⟩|⟨hn,ho⟩
 ·exact h4.elim
 have hlen:=hl.length
 refine cQ (call_reversed_list (dN ho) ?_)
 have hobj:((s₂.heap.push (revObj ad ((us.toArray.size:Int)-1))).get? s₂.heap.objs.size)=some (revObj ad ((us.toArray.size:Int)-1)):=Heap.get?_push_size _ rfl
 have hI:rV ad ps ps.reverse (revObj ad ((us.toArray.size:Int)-1)):=⟨ps.length,Nat.le_refl _,rfl,by rw [List.size_toArray,hlen];rfl,by rw [List.take_length]⟩
 refine (BN (prog:=prog) (wd:=wd) (A:=A) hA).again {s₂ with heap:=s₂.heap.push (revObj ad ((us.toArray.size:Int)-1))} ps.reverse _ hobj hI _ ?_
 have fr:=p₂.fresh (Nat.le_refl _)
 refine ⟨G₂,st₂,[x],s₂.heap.objs.size,rfl,(sm₁.trans sm₂).trans ⟨rfl,rfl,rfl⟩,le₁.trans le₂,Nat.le_trans n₁ n₂,p₂.keeps fun b o h=>Heap.get?_push_of_some _ h,⟨⟨fr.2.1,fr.1,fr.2.2⟩,fun K hK=>?_⟩,q₂⟩
 have hK':dQ st₂.σ x (fun l=>ou x∧K l.reverse fun st=>dQ st.σ x (· = l)):=hK
 clear hK fr h n₂ n₁;obtain ⟨ad',ps',us',k',e2,⟨_,hKl⟩,hl',⟨rfl,_⟩|⟨_,ho'⟩⟩:=mY p₂ hv hK'
 ·exact h4.elim
 cases e2
 rw [ho] at ho'
 cases ho'
 exact ⟨ps'.reverse,_,mQ ad ps',rV ad ps',_,hKl,hobj,⟨ps'.length,Nat.le_refl _,rfl,by rw [List.size_toArray,hl'.length];rfl,by rw [List.take_length]⟩,BN hA,fun G' e' nm' f' st' s' p' hle hc=>qu p₂ hv hit hn p' hle hc⟩
theorem Bq {tt:T} {ik:It} {iter:PySem.Expr} (hA:A.handled=none) (hset:eM iter=true) (TT:Tgt e nm t tt) (hI:IJ H0 prog wd A e nm (eval iter e) (w Pk ci) ik) (ha:SJ H0 (model prog wd) A e nm (execs body e) (wS Pk sa)) :
  SJ H0 (model prog wd) A e nm (exec (.For t iter body [] pos) e) (wS Pk (.forIn tt ik ci sa)):=fun f G s st Q m p hm h=>by
 refine dC (exec_For ..) ?_
 refine cS ?_
 refine cO (cV (hI f G s st _ p h fun vs st h=>oU h fun _ _ _=>trivial) fun a s₀ ha'=>?_)
 rw [l3 hset]
 refine cO (wpN_pure (cS (cO (cR (DO ha' fun s₁ G₁ st₁ vs it sm₁ le₁ n₁ p₁ hr q₁=>?_)))))
 refine e5e (hr.2 _ q₁) fun l chk src IS o hl ho hi K hsrc=>?_
 unfold t0 at hl
 exact oF (dY (wu hA K TT ha (fun _ _ _ _ _=>trivial) st₁.σ.length m (Nat.le_trans hm n₁) f hr.1.1 G₁ (fun G' st' s' p' hle hc=>hsrc G' _ _ _ st' s' p' hle hc) l G₁ s₁ st₁ o Q p₁ ((Gh.Le.refl _).toN _) (Nat.le_refl _) ho hi hr.1.2.1 hr.1.2.2 hl) fun fl s₂ P=>P.step sm₁ (le₁.toN _))
end
end
section
noncomputable def Dv (sc:Scope) (x:Option Str):Option Str:=match x with
 |some n=>if sc.names.lookup n=some .free then some n else none
 |none=>none
noncomputable def gZ (sc:Scope):List Str:=(sc.names.filter fun x=>x.2==.local&&x.1 != (".0" : Str)).map (·.1)
noncomputable def xz (sc out:Scope):Scope:=
 {sc with names:=sc.names.map fun (n,k)=>if (k==.free&&out.kind==.function&&out.names.lookup n==some .cell) then (n, .cell) else (n,k)}
noncomputable def pG (nm:List (Option Str)) (sc:Scope):List (Option Str):=nm.map (Dv sc)++(gZ sc).map some
structure yI (sc out:Scope):Prop where
 kind:sc.kind=.function
 okind:out.kind=.function
 nodup:(sc.names.map (·.1)).Nodup
 cell:∀x∈sc.names,x.2≠.cell
 free:∀x∈sc.names,x.2=.free→out.names.lookup x.1=some .cell
noncomputable def clo (e:Env):List (Str × NameKind)→List (Str × Addr)→List (Str × Addr)
 |[],acc=>acc
 |(n,k)::r,acc=>if k==.free then clo e r ((n,(e.cells.lookup n).getD 0)::acc) else clo e r acc
noncomputable abbrev n7 (sc:Scope) (e:Env) (C:Addr):Env:=compEnvC sc (clo e sc.names []) C e
theorem lH {e:Env}:∀{names:List (Str × NameKind)} {acc:List (Str × Addr)},(∀x∈names,x.2=.free→(e.cells.lookup x.1).isSome=true)→
  (forIn names acc (fun (x:Str × NameKind) (r:List (Str × Addr))=>if (x.2==NameKind.free)=true then (do let a ←cellOf e x.1;pure (ForInStep.yield ((x.1,a)::r))) else pure (ForInStep.yield r)):Sem (List (Str × Addr)))=pure (clo e names acc)
 |[],acc,h=>by rw [List.forIn_nil];rfl
 |(n,k)::r,acc,h=>by
  rw [List.forIn_cons]
  unfold clo
  by_cases hk:(k==NameKind.free)=true
  ·rw [if_pos hk,if_pos hk]
   have hk':k=.free:=by simpa using hk
   refine e1a (Option.isSome_iff_exists.mp (h (n,k) List.mem_cons_self hk')) fun c hc=>?_
   have:cellOf e n=pure c:=by unfold cellOf;rw [hc]
   rw [this]
   have:=lH (e:=e) (names:=r) (acc:=(n,c)::acc) fun x hx=>h x (List.mem_cons_of_mem _ hx)
   rw [hc,Option.getD_some,←this];rfl
  ·rw [if_neg hk,if_neg hk]
   have:=lH (e:=e) (names:=r) (acc:=acc) fun x hx=>h x (List.mem_cons_of_mem _ hx)
   rw [←this];rfl
theorem so {e:Env}:∀{names:List (Str × NameKind)} {acc:List (Str × Addr)} {n:Str} {c:Addr},(∀x∈names,x.2=.free→(e.cells.lookup x.1).isSome=true)→(n,c)∈clo e names acc→((n,NameKind.free)∈names∧e.cells.lookup n=some c)∨(n,c)∈acc
 |[],acc,n,c,h,hm=>.inr hm
 |(n',k)::r,acc,n,c,h,hm=>by
  unfold clo at hm
  have h':∀x∈r,x.2=.free→(e.cells.lookup x.1).isSome=true:=fun x hx=>h x (List.mem_cons_of_mem _ hx)
  by_cases hk:(k==NameKind.free)=true
  ·rw [if_pos hk] at hm
   have hk':k=.free:=by simpa using hk
   subst hk'
   rcases so h' hm with q|q
   ·exact .inl ⟨List.mem_cons_of_mem _ q.1,q.2⟩
   ·rcases List.mem_cons.mp q with q|q
    ·refine e1a (Option.isSome_iff_exists.mp (h (n', .free) List.mem_cons_self rfl)) fun a ha=>?_
     rw [ha] at q;cases q
     exact .inl ⟨List.mem_cons_self,ha⟩
    ·exact .inr q
  ·rw [if_neg hk] at hm
   rcases so h' hm with q|q
   ·exact .inl ⟨List.mem_cons_of_mem _ q.1,q.2⟩
   ·exact .inr q
theorem sq {e:Env} {n:Str}:∀{names:List (Str × NameKind)} {acc:List (Str × Addr)},((n,NameKind.free)∈names∨(acc.lookup n).isSome=true)→((clo e names acc).lookup n).isSome=true
 |[],acc,h=>by
  rcases h with h|h
  ·cases h
  ·exact h
 |(n',k)::r,acc,h=>by
  unfold clo
  have grow:∀a,(acc.lookup n).isSome=true→(List.lookup n ((n',a)::acc)).isSome=true:=fun a q=>by
   rw [List.lookup_cons];cases n==n'<;>first|exact q|rfl
  by_cases hk:(k==NameKind.free)=true
  ·rw [if_pos hk]
   refine sq ?_
   rcases h with h|h
   ·rcases List.mem_cons.mp h with q|q
    ·cases q;exact .inr (by simp [List.lookup_cons])
    ·exact .inl q
   ·exact .inr (grow _ h)
  ·rw [if_neg hk]
   refine sq ?_
   rcases h with h|h
   ·rcases List.mem_cons.mp h with q|q
    ·cases q;exact absurd rfl hk
    ·exact .inl q
   ·exact .inr h
theorem nP {e:Env}:∀{names:List (Str × NameKind)} {acc:List (Str × Addr)},((acc.map (·.1))++names.map (·.1)).Nodup→((clo e names acc).map (·.1)).Nodup
 |[],acc,h=>by simpa [clo] using h
 |(n',k)::r,acc,h=>by
  unfold clo
  split
  ·refine nP ?_
   simp only [List.map_cons,List.cons_append]
   simp only [List.map_cons] at h
   exact (List.perm_middle.nodup_iff).mp h
  ·refine nP ?_
   simp only [List.map_cons] at h
   exact h.sublist (List.Sublist.append (List.Sublist.refl _) (List.sublist_cons_self _ _))
theorem fJ {α:Type}:∀{l:List (Str × α)} {n:Str} {c:α},(l.map (·.1)).Nodup→(n,c)∈l→l.lookup n=some c
 |(k,v)::r,n,c,h,hm=>by
  refine e0b (List.nodup_cons.mp (by simpa using h:(k::r.map (·.1)).Nodup)) fun h1 h2=>?_
  rw [List.lookup_cons]
  rcases List.mem_cons.mp hm with q|q
  ·cases q;simp
  ·have:(n==k)=false:=by
    simp only [beq_eq_false_iff_ne]
    rintro rfl
    exact h1 (List.mem_map_of_mem (f:=(·.1)) q)
   rw [this];exact fJ h2 q
section
variable {H0:Heap} {f:Gm} {e:Env} {nm:List (Option Str)} {G:Gh} {st:St} {s:Shared} {sc:Scope}
structure Clo (e:Env) (sc:Scope) (cl:List (Str × Addr)):Prop where
 avail:∀x∈sc.names,x.2=.free→(e.cells.lookup x.1).isSome=true
 mem:∀n c,cl.lookup n=some c→sc.names.lookup n=some .free∧e.cells.lookup n=some c
 has:∀n,sc.names.lookup n=some .free→(cl.lookup n).isSome=true
 mem':∀n c,(n,c)∈cl→cl.lookup n=some c
 apart:cl.Pairwise fun x y=>x.2≠y.2
theorem Pre.clo (p:Pre H0 f e nm G st s) (ok:yI sc e.scope):Clo e sc (Fb.clo e sc.names []):=by
 have h1:∀x∈sc.names,x.2=.free→(e.cells.lookup x.1).isSome=true:=fun x hx hk=>p.fr.cellsAll x.1 (by unfold Env.kindOf;exact ok.free x hx hk)
 have h2:∀n c,(n,c)∈Fb.clo e sc.names []→(n,NameKind.free)∈sc.names∧e.cells.lookup n=some c:=fun n c hm=>by
  rcases so h1 hm with q|q
  ·exact q
  ·cases q
 have h3:((Fb.clo e sc.names []).map (·.1)).Nodup:=nP (by simpa using ok.nodup)
 refine ⟨h1,fun n c h=>?_,fun n h=>sq (.inl (mem_of_lookup h)),fun n c h=>fJ h3 h,?_⟩
 ·refine e0b (h2 n c (mem_of_lookup h)) fun q1 q2=>?_
  exact ⟨fJ ok.nodup q1,q2⟩
 ·have h4:(Fb.clo e sc.names []).Pairwise fun x y=>x.1≠y.1:=List.pairwise_map.mp h3
  refine List.Pairwise.imp_of_mem (fun {a b} ha hb hne hc=>hne ?_) h4
  have q1:=(h2 a.1 a.2 ha).2
  have q2:=(h2 b.1 b.2 hb).2
  exact name_of_addr p.fr.apart (mem_of_lookup q1) (mem_of_lookup (hc▸q2))
noncomputable def inF (cl:List (Str × Addr)) (G:Gh) (f:Gm) (h:Heap):Gm:=fun a=>match f a with
 |some o=>some o
 |none=>match G.ow a with
  |some (0,_)=>if a∈cl.map (·.2) then none else h.get? a
  |_=>none
noncomputable def inG (cl:List (Str × Addr)) (G:Gh) (C:Addr):Gh:=⟨G.g,G.k,fun a=>if a=C then some (0,0) else match G.ow a with
 |some (0,j)=>if a∈cl.map (·.2) then some (0,j) else none
 |x=>x⟩
theorem xy (sc:Scope) (e:Env):relabel sc e=xz sc e.scope:=rfl
theorem lP {out:Scope}:∀{names:List (Str × NameKind)} {n:Str},(names.map fun (n,k)=>if (k==NameKind.free&&out.kind==.function&&out.names.lookup n==some .cell) then (n,NameKind.cell) else (n,k)).lookup n =
  (names.lookup n).map fun k=>if (k==NameKind.free&&out.kind==.function&&out.names.lookup n==some .cell) then NameKind.cell else k
 |[],n=>rfl
 |(n',k)::r,n=>by
  rw [List.map_cons,List.lookup_cons]
  have ih:=lP (out:=out) (names:=r) (n:=n)
  dsimp only
  by_cases hc:(k==NameKind.free&&out.kind==.function&&out.names.lookup n'==some NameKind.cell)=true
  ·rw [if_pos hc,List.lookup_cons]
   cases q:n==n' with
   |true=>
    have:n=n':=by simpa using q
    subst this;dsimp only;rw [Option.map_some,if_pos hc]
   |false=>exact ih
  ·rw [if_neg hc,List.lookup_cons]
   cases q:n==n' with
   |true=>
    have:n=n':=by simpa using q
    subst this;dsimp only;rw [Option.map_some,if_neg hc]
   |false=>exact ih
theorem rY (ok:yI sc e.scope) {C:Addr} (n:Str):(n7 sc e C).kindOf n=(sc.names.lookup n).map fun k=>if k=.free then .cell else k:=by
 unfold Env.kindOf
 refine (?_:(relabel sc e).names.lookup n=_)
 rw [xy]
 unfold xz
 rw [lP]
 cases q:sc.names.lookup n with
 |none=>rfl
 |some k=>
  simp only [Option.map_some,Option.some.injEq]
  by_cases hk:k=.free
  ·subst hk
   rw [if_pos rfl,ok.free _ (mem_of_lookup q) rfl,ok.okind];rfl
  ·rw [if_neg hk]
   have:(k==NameKind.free)=false:=by simpa using hk
   rw [this];rfl
theorem nQ {nm:List (Option Str)} {sc:Scope} {i:Nat} {n:Str} (hi:i<nm.length) (h:(pG nm sc)[i]? = some (some n)):nm[i]? = some (some n)∧sc.names.lookup n=some .free:=by
 unfold pG at h
 rw [List.getElem?_append_left (by simpa using hi),List.getElem?_map] at h
 cases q:nm[i]? with
 |none=>rw [q] at h;exact ns h
 |some x=>
  rw [q] at h
  cases x with
  |none=>cases h
  |some m=>
   simp only [Option.map_some,Dv] at h
   split at h
   ·rename_i hm;cases h;exact ⟨rfl,hm⟩
   ·cases h
theorem AP {nm:List (Option Str)} {sc:Scope} {i:Nat} {n:Str} (h:nm[i]? = some (some n)) (hf:sc.names.lookup n=some .free):(pG nm sc)[i]? = some (some n):=by
 have hi:i<nm.length:=(List.getElem?_eq_some_iff.mp h).1
 unfold pG
 rw [List.getElem?_append_left (by simpa using hi),List.getElem?_map,h]
 simp only [Option.map_some,Dv,if_pos hf]
theorem xi {nm:List (Option Str)} {sc:Scope} {i:Nat} {n:Str} (ok:(sc.names.map (·.1)).Nodup) (hi:nm.length≤i) (h:(pG nm sc)[i]? = some (some n)):sc.names.lookup n=some .local∧(gZ sc)[i-nm.length]? = some n:=by
 unfold pG at h
 rw [List.getElem?_append_right (by simpa using hi),List.length_map,List.getElem?_map] at h
 cases q:(gZ sc)[i-nm.length]? with
 |none=>rw [q] at h;exact ns h
 |some m=>
  rw [q] at h;cases h
  refine ⟨?_,rfl⟩
  have hm:=List.mem_of_getElem? q
  unfold gZ at hm
  refine e1b (List.mem_map.mp hm) fun x hx zq2=>?_;subst zq2
  refine e0b (List.mem_filter.mp hx) fun h1 h2=>?_
  simp only [Bool.and_eq_true,beq_iff_eq] at h2
  exact fJ ok (by rw [←h2.1];exact h1)
theorem Pre.enterComp (p:Pre H0 f e nm G st s) (ok:yI sc e.scope) {C:Addr} (hC:s.heap.Ns C fun _=>none) (g1:G.g C=none) (g2:f C=none) (g3:G.ow C=none) :
  Pre H0 (inF (Fb.clo e sc.names []) G f s.heap) (n7 sc e C) (pG nm sc) (inG (Fb.clo e sc.names []) G C) ⟨st.env++List.replicate (gZ sc).length none,st.σ⟩ s:=by
 have K:=p.clo ok
 generalize hcl:Fb.clo e sc.names []=cl at *
 have hcells:∀n c,cl.lookup n=some c→G.ow c=some (0,c+1)∧(∃v,s.heap.IsCell c v)∧c≠C:=fun n c h=>by
  have q:=p.fr.cells n c (K.mem n c h).2
  exact ⟨q.1,q.2,fun q'=>by subst q';rw [g3] at q;exact ns q.1⟩
 have memcl:∀a,a∈cl.map (·.2)↔∃n,cl.lookup n=some a:=fun a=>by
  constructor
  ·intro h
   refine e1b (List.mem_map.mp h) fun x hx zq2=>?_;subst zq2
   exact ⟨x.1,K.mem' x.1 x.2 hx⟩
  ·rintro ⟨n,h⟩
   exact List.mem_map.mpr ⟨(n,a),mem_of_lookup h,rfl⟩
 have lf:∀a o,inF cl G f s.heap a=some o→s.heap.get? a=some o∧G.g a=none:=fun a o h=>by
  unfold inF at h
  split at h
  ·rename_i o' q;obtain rfl:=sj h;exact ⟨p.inv.ff a _ q,p.inv.fg a _ q⟩
  ·split at h
   ·rename_i q
    split at h
    ·exact ns h
    ·exact ⟨h,(p.inv.own a _ q).1⟩
   ·exact ns h
 have hin:∀a i j,G.ow a=some (i+1,j)→(inG cl G C).ow a=some (i+1,j):=fun a i j h=>by
  have:a≠C:=fun q=>by subst q;rw [g3] at h;exact ns h
  simp only [inG,if_neg this,h]
 refine ⟨⟨p.inv.base,p.inv.gg,fun a o h=>(lf a o h).1,fun a o h=>(lf a o h).2,fun a x h=>?_,fun i o h=>?_,p.inv.dom⟩,⟨ok.kind,⟨_,hC,fun i n x h1 h2=>?_⟩,if_pos rfl,fun n c hc=>?_,?_,fun n hn=>?_,fun i j n h1 h2=>?_⟩,?_⟩
 ·simp only [inG] at h
  split at h
  ·rename_i q;subst q
   refine e3b hC fun o _ _ ho _=>?_
   exact ⟨g1,by simp only [inF,g2,g3],o,ho⟩
  ·split at h
   ·rename_i q
    split at h
    ·rename_i hm
     refine e0c (p.inv.own a _ q) fun h1 h2 h3=>?_
     exact ⟨h1,by simp only [inF,h2,q,if_pos hm],h3⟩
    ·exact ns h
   ·rename_i q
    refine e0c (p.inv.own a _ h) fun h1 h2 h3=>?_
    refine ⟨h1,?_,h3⟩
    simp only [inF,h2]
 ·exact nX.mono (G:=G) (fun _ _ h=>h) (fun _ h=>h) (fun _ _=>rfl) (fun a j h=>⟨hin _ _ _ h,fun _ h=>h⟩) (p.inv.obj i o h)
 ·dsimp only at h2
  have hi:i<st.env.length:=by
   rcases Nat.lt_or_ge i st.env.length with q|q
   ·exact q
   ·rw [List.getElem?_append_right q] at h2
    simp [List.getElem?_replicate] at h2
  rw [List.getElem?_append_left hi] at h2
  refine e0b (nQ (by rw [←p.len];exact hi) h1) fun h3 h4=>?_
  refine .inr ⟨.inl (by rw [rY ok,h4];rfl),?_⟩
  refine e1a (Option.isSome_iff_exists.mp (K.has n h4)) fun c hc=>?_
  refine e1b p.fr.loc fun m hm hl=>?_
  rcases hl i n x h3 h2 with ⟨z,_⟩|⟨z,c',v,q1,q2,q3⟩
  ·exfalso
   have:=ok.free _ (mem_of_lookup h4) rfl
   unfold Env.kindOf at z
   dsimp only at this
   rw [this] at z;cases z
  ·rw [(K.mem n c hc).2] at q1;obtain rfl:=sj q1
   exact ⟨c,v,by refine (?_:List.lookup n (Fb.clo e sc.names [])=_);rw [hcl];exact hc,q2,q3⟩
 ·have hc:cl.lookup n=some c:=by rw [←hcl];exact hc
  refine e0c (hcells n c hc) fun q1 q2 q3=>?_
  refine ⟨?_,q2⟩
  simp only [inG,if_neg q3,q1,if_pos ((memcl c).mpr ⟨n,hc⟩)]
 ·refine (?_:List.Pairwise _ (Fb.clo e sc.names []));rw [hcl];exact K.apart
 ·rw [rY ok] at hn
  refine (?_:((Fb.clo e sc.names []).lookup n).isSome=true)
  rw [hcl]
  cases q:sc.names.lookup n with
  |none=>rw [q] at hn;exact ns hn
  |some k=>
   rw [q] at hn
   simp only [Option.map_some,Option.some.injEq] at hn
   split at hn
   ·rename_i hk;subst hk;exact K.has n q
   ·subst hn;exact absurd rfl (ok.cell _ (mem_of_lookup q))
 ·have hnd:(gZ sc).Nodup:=by unfold gZ;exact ok.nodup.sublist (List.filter_sublist.map _)
  rcases Nat.lt_or_ge i nm.length with hi|hi<;>rcases Nat.lt_or_ge j nm.length with hj|hj
  ·exact p.fr.inj i j n (nQ hi h1).1 (nQ hj h2).1
  ·have a:=(nQ hi h1).2;have b:=(xi ok.nodup hj h2).1;rw [a] at b;cases b
  ·have a:=(nQ hj h2).2;have b:=(xi ok.nodup hi h1).1;rw [a] at b;cases b
  ·have a:=(xi ok.nodup hi h1).2;have b:=(xi ok.nodup hj h2).2
   refine e1a (List.getElem?_eq_some_iff.mp a) fun l1 e1=>?_
   refine e1a (List.getElem?_eq_some_iff.mp b) fun l2 e2=>?_
   have:=hnd.idxOf_getElem _ l1
   rw [e1] at this
   have this':=hnd.idxOf_getElem _ l2
   rw [e2] at this'
   exact Nat.le_antisymm (cT [] [_,_,_,_,_,_] ab ae 1 [.j 1 ak av,.j 1 av az,.j 1 ab (.a ak aL),.j 1 (.a az aL) ae] rfl (Nat.le_of_eq (Eq.symm this)) (Nat.le_of_eq this') (Nat.le_of_eq (Eq.symm (Nat.sub_add_cancel (cT [] [_,_] ab ae 1 [.j 1 ab ae] rfl hi)))) (Nat.le_of_eq (Nat.sub_add_cancel (cT [] [_,_] ab ae 1 [.j 1 ab ae] rfl hj)))) (cT [] [_,_,_,_,_,_] ab ae 1 [.j 1 ak av,.j 1 az ak,.j 1 (.a av aL) ae,.j 1 ab (.a az aL)] rfl (Nat.le_of_eq this) (Nat.le_of_eq (Eq.symm this')) (Nat.le_of_eq (Nat.sub_add_cancel (cT [] [_,_] ab ae 1 [.j 1 ab ae] rfl hi))) (Nat.le_of_eq (Eq.symm (Nat.sub_add_cancel (cT [] [_,_] ab ae 1 [.j 1 ab ae] rfl hj)))))
 ·simp [pG,p.len]
theorem Pre.leaveComp (p:Pre H0 f e nm G st s) (ok:yI sc e.scope) {C:Addr} (g3:G.ow C=none) {G':Gh} {st':St} {s':Shared} (le:(inG (Fb.clo e sc.names []) G C).Le G')
  (hen:∀i,i<st.env.length→st'.env[i]? = st.env[i]?)
  (p':Pre H0 (inF (Fb.clo e sc.names []) G f s.heap) (n7 sc e C) (pG nm sc) G' st' s') :
  ∃G'',G.Le G''∧Pre H0 f e nm G'' ⟨st.env,st'.σ⟩ s'∧G''.ow C=none∧G''.g=G'.g∧G''.k=G'.k∧(∀a,G'.ow a=none→inF (Fb.clo e sc.names []) G f s.heap a=none→G''.ow a=none):=by
 have K:=p.clo ok
 generalize hcl:Fb.clo e sc.names []=cl at *
 generalize hfl:inF cl G f s.heap=fl at *
 have hC0:G'.ow C=some (0,0):=p'.fr.own
 have flow:∀a o,fl a=some o→s.heap.get? a=some o∧G.g a=none:=fun a o h=>by
  rw [←hfl] at h
  unfold inF at h
  split at h
  ·rename_i o' q;obtain rfl:=sj h;exact ⟨p.inv.ff a _ q,p.inv.fg a _ q⟩
  ·split at h
   ·rename_i q
    split at h
    ·exact ns h
    ·exact ⟨h,(p.inv.own a _ q).1⟩
   ·exact ns h
 have ffl:∀a o,f a=some o→fl a=some o:=fun a o h=>by rw [←hfl];simp only [inF,h]
 have flf:∀a,fl a=none→f a=none:=fun a h=>by
  cases q:f a with
  |none=>rfl
  |some o=>rw [ffl a o q] at h;exact sn h
 have memcl:∀a,a∈cl.map (·.2)→∃n,cl.lookup n=some a:=fun a h=>by
  refine e1b (List.mem_map.mp h) fun x hx zq2=>?_;subst zq2
  exact ⟨x.1,K.mem' x.1 x.2 hx⟩
 have aside:∀a j,G.ow a=some (0,j)→a∉cl.map (·.2)→(∃o,fl a=some o)∧∀o,s.heap.get? a=some o→s'.heap.get? a=some o:=fun a j h1 h2=>by
  refine e0c (p.inv.own a _ h1) fun q1 q2 zr=>e1a zr fun o q3=>?_
  have:fl a=some o:=by rw [←hfl];simp only [inF,q2,h1,if_neg h2];exact q3
  refine ⟨⟨o,this⟩,fun o' ho'=>?_⟩
  rw [q3] at ho';obtain rfl:=sj ho'
  exact p'.inv.ff a _ this
 let G'':Gh:=⟨G'.g,G'.k,fun a=>if a=C then none else match fl a with|some _=>G.ow a|none=>G'.ow a⟩
 have le2:G.Le G'':=⟨le.g,le.id,le.inn⟩
 have neC:∀a x,G.ow a=some x→a≠C:=fun a x h q=>by subst q;rw [g3] at h;exact ns h
 have owIn:∀a,a∈cl.map (·.2)→fl a=none:=fun a h=>by
  refine e1a (memcl a h) fun n hn=>?_
  have q:=p.fr.cells n a (K.mem n a hn).2
  rw [←hfl];simp only [inF,(p.inv.own a _ q.1).2.1,q.1,if_pos h]
 refine ⟨G'',le2,⟨⟨p'.inv.base,p'.inv.gg,fun a o h=>p'.inv.ff a o (ffl a o h),fun a o h=>p'.inv.fg a o (ffl a o h),fun a x h=>?_,fun i o h=>?_,p'.inv.dom⟩,⟨p.fr.kind,?_,?_,fun n c hc=>?_,p.fr.apart,p.fr.cellsAll,p.fr.inj⟩,p.len⟩,if_pos rfl,rfl,rfl,fun a h1 h2=>?_⟩
 ·simp only [G''] at h
  split at h
  ·exact ns h
  ·split at h
   ·rename_i o q
    refine e0c (p.inv.own a x h) fun h1 h2 h3=>?_
    exact ⟨p'.inv.fg a o q,h2,o,p'.inv.ff a o q⟩
   ·rename_i q
    refine e0c (p'.inv.own a x h) fun h1 h2 h3=>?_
    exact ⟨h1,flf a q,h3⟩
 ·refine nX.mono (G:=G') (fun _ _ h=>h) (fun _ h=>h) (fun _ _=>rfl) (fun a j h=>⟨?_,fun _ h=>h⟩) (p'.inv.obj i o h)
  have h1:a≠C:=fun q=>by subst q;rw [hC0] at h;cases h
  simp only [G'',if_neg h1,(p'.inv.own a _ h).2.1,h]
 ·refine e1b p.fr.loc fun m hm hl=>?_
  refine e1b p'.fr.loc fun m' hm' hl'=>?_
  have hLcl:e.locals∉cl.map (·.2):=fun q=>by
   refine e1a (memcl _ q) fun n hn=>?_
   have:=(p.fr.cells n _ (K.mem n _ hn).2).1
   rw [p.fr.own] at this;cases this
  refine ⟨m,hm.at' (aside _ _ p.fr.own hLcl).2,fun i n x h1 h2=>?_⟩
  rcases hl i n x h1 h2 with ⟨z,v,z1,z2⟩|⟨z,c,v,h3,⟨o,h4,h5⟩,h6⟩
  ·exact .inl ⟨z,v,z1,z2.le le2⟩
  ·refine .inr ⟨z,?_⟩
   by_cases hf:sc.names.lookup n=some .free
   ·have hi:i<st.env.length:=by rw [p.len];exact (List.getElem?_eq_some_iff.mp h1).1
    have h2':st'.env[i]? = some (some x):=by rw [hen i hi];exact h2
    rcases hl' i n x (AP h1 hf) h2' with ⟨z',_⟩|⟨z',c',v',q1,q2,q3⟩
    ·rw [rY ok,hf] at z';cases z'
    ·have q1:cl.lookup n=some c':=by rw [←hcl];exact q1
     exact ⟨c',v',(K.mem n c' q1).2,q2,q3⟩
   ·have hcn:c∉cl.map (·.2):=fun q=>by
     refine e1a (memcl _ q) fun n' hn'=>?_
     have:=name_of_addr p.fr.apart (mem_of_lookup h3) (mem_of_lookup (K.mem n' c hn').2)
     subst this
     exact hf (K.mem n c hn').1
    exact ⟨c,v,h3,⟨o,(aside _ _ (p.fr.cells n c h3).1 hcn).2 _ h4,h5⟩,h6.le le2⟩
 ·have hLcl:e.locals∉cl.map (·.2):=fun q=>by
   refine e1a (memcl _ q) fun n hn=>?_
   have:=(p.fr.cells n _ (K.mem n _ hn).2).1
   rw [p.fr.own] at this;cases this
  refine e0b (aside _ _ p.fr.own hLcl) fun zn1 _=>?_;refine e1a zn1 fun o ho=>?_
  simp only [G'',if_neg (neC _ _ p.fr.own),ho,p.fr.own]
 ·refine e0b (p.fr.cells n c hc) fun q1 zr=>e2b zr fun v o q2 q3=>?_
  by_cases hm:c∈cl.map (·.2)
  ·refine e1a (memcl _ hm) fun n' hn'=>?_
   have hn'':(n7 sc e C).cells.lookup n'=some c:=by refine (?_:(Fb.clo e sc.names []).lookup n'=_);rw [hcl];exact hn'
   refine e0b (p'.fr.cells n' c hn'') fun r1 r2=>?_
   refine ⟨?_,r2⟩
   simp only [G'',if_neg (neC _ _ q1),owIn c hm,r1]
  ·refine e0b (aside _ _ q1 hm) fun zn1 hk=>?_;refine e1a zn1 fun o' ho=>?_
   refine ⟨?_,v,o,hk _ q2,q3⟩
   simp only [G'',if_neg (neC _ _ q1),ho,q1]
 ·simp only [G'']
  split
  ·rfl
  ·rw [h2];exact h1
end
end
section
section
variable {M:Model} {A:Around} {s:Shared} {env:Env}
noncomputable def nK (M:Model) (A:Around) (use:Option (Value→Sem Unit)) (Q:Value→Shared→Prop) (acc:Value) (C:Addr) (s':Shared):Prop:=
 match use with
 |none=>∃m,s'.heap.Ns C m∧∀h',Heap.SameBut C s'.heap h'→Q acc {s' with heap:=h'}
 |some u=>wpN M A (u acc) (fun _ s''=>∃m,s''.heap.Ns C m∧∀h',Heap.SameBut C s''.heap h'→Q .none {s'' with heap:=h'}) s'
theorem rz {α:Type} {c:Prop} [Decidable c] {pos:Pos} {k:PUnit→Sem α} {Q:α→Shared→Prop} (h:wpN M A (k ()) Q s) :
  wpN M A (if c then (standAt pos>>=k) else k ()) Q s:=by
 split
 ·exact cS h
 ·exact h
theorem ls {e:PySem.Expr} {scope:Scope} {pos:Pos} {newAcc first:Sem Value} {g:Comprehension} {gs:List Comprehension} {cl:List (Str × Addr)} {use:Option (Value→Sem Unit)}
  {Q:Value→Shared→Prop}
  (hcl:clausesOf e=g::gs) (hs:∀x,foldedSetIterable g.iter env x=pure x) (hclos:closureFor scope env=pure cl)
  (hkind:scope.kind=.function) (hnames:∀x∈scope.names,x.2=.local→scope.names.lookup x.1=some .local)
  (h:wpN M A first (fun x s₁=>wpN M A (pyIter x) (fun it s₂=>wpN M A newAcc (fun acc s₃=>
   wpN M A (newFunctionEnv scope env.globals cl [] env.qual none .none (some env)) (fun cenv s₄=>
    eW M A (.compStart e 0 it acc {cenv with scope:=relabel scope env}) (fun _ s'=>nK M A use Q acc cenv.locals s') s₄) s₃) s₂) s₁) s) :
  wpN M A (comprehension e scope env pos newAcc false first use) Q s:=by
 unfold comprehension
 rw [hclos,hcl]
 refine cO (cV h fun x s₁ h₁=>cS ?_)
 dsimp only
 rw [hs x]
 refine cO (wpN_pure (cO (cR (cV h₁ fun it s₂ h₂=>rz (cO (cV h₂ fun acc s₃ h₃=>cO (wpN_pure (cO (cV h₃ fun cenv s₄ h₄=>?_)))))))))
 have hv:∀x∈(scope.names.filter fun x=>(x.2==.local||x.2==.cell)&&x.1 != (".0" : Str)).reverse,x.2=.local→
   Env.kindOf {cenv with scope:=relabel scope env} x.1=some .local:=fun x hx hl=>lookup_relabel_local (hnames x (List.mem_filter.mp (List.mem_reverse.mp hx)).1 hl)
 have hv':∀x∈(scope.names.filter fun x=>(x.2==.local||x.2==.cell)&&x.1 != (".0" : Str)).reverse.drop 1++(scope.names.filter fun x=>(x.2==.local||x.2==.cell)&&x.1 != (".0" : Str)).reverse.take 1,
   x.2=.local→Env.kindOf {cenv with scope:=relabel scope env} x.1=some .local:=fun x hx hl=>by
  clear h hnames hclos hs hcl gs g first pos h₃ s₃ h₂ s₂ h₁ s₁;rcases List.mem_append.mp hx with h1|h1
  ·exact hv x (List.mem_of_mem_drop h1) hl
  ·exact hv x (List.mem_of_mem_take h1) hl
 refine cR (cO (rB (cR (uC (dY (by rw [qC];exact h₄) fun fl s' hr=>?_) (by intro x;cases x)))))
 clear h hnames hclos hs hcl gs g first pos h₄ s₄ h₃ s₃;cases use with
 |none=>
  refine e1b hr fun m hn hr=>?_
  exact cO (cR (cQ (wpAny_comp_letGo (cenv:={cenv with scope:=relabel scope env}) hkind _ s' m hv hn fun h' m' _ hs'=>wpN_pure (hr h' hs'))))
 |some u=>
  refine cX (wpAny_rule (cO (cR (cV hr fun _ s'' hr'=>?_))))
  refine e1b hr' fun m hn hr'=>?_
  exact cX (wpAny_comp_letGo (cenv:={cenv with scope:=relabel scope env}) hkind _ s'' m hv' hn fun h' m' _ hs'=>wpN_pure (hr' h' hs'))
end
section
variable {prog:Program} {wd:World} {A:Around} {H0:Heap} {e:Env} {nm:List (Option Str)} {Pk:Pg} {f:Gm} {G:Gh} {st:St} {s:Shared}
theorem nN {elt target iter:PySem.Expr} {ifs:List PySem.Expr} {scope:Scope} {pos:Pos} {it acc:Value} {env:Env} {R:Flow→Shared→Prop}
  (h0:eW (model prog wd) A (.compLoop (.ListComp elt [⟨target,iter,ifs,0⟩] scope pos) 0 it acc env) R s)
  (h:wpN (model prog wd) A (pyIter it) (fun it' s'=>eW (model prog wd) A (.compLoop (.ListComp elt [⟨target,iter,ifs,0⟩] scope pos) 0 it' acc env) R s') s) :
  eW (model prog wd) A (.compStart (.ListComp elt [⟨target,iter,ifs,0⟩] scope pos) 0 it acc env) R s:=by
 refine dj rfl ?_
 refine (?_:wpN _ _ ((compStart (.ListComp elt [⟨target,iter,ifs,0⟩] scope pos) 0 it acc env).onRaise (fun x=>do noteFrame x env;standAt theWindowsPlace)) _ s)
 refine dU ?_
 unfold compStart
 refine (?_:wpN _ _ (ask>>=_) _ s)
 refine cX (wpAny_askSetting ?_)
 split
 ·first
   |exact cO (wpN_pure (wpN_pure (And.intro rfl h0)))
   |exact wpN_pure (And.intro rfl h0)
 ·first
   |exact cX (wpAny_rule (cS (cO (cV h fun it' s' h'=>wpN_pure (And.intro rfl h')))))
   |(refine cX (wpAny_rule ?_);refine (?_:wpN _ _ (standAt iter.pos>>=_) _ s);exact cS (cO (cV h fun it' s' h'=>wpN_pure (And.intro rfl h'))))
noncomputable def oj (t:T) (k:Nat):Bool:=match t with|.var i=>k≤i|.tup is=>is.all (k≤·)
theorem iY {k:Nat}:∀{is:List Nat} {xs:List V} {env env':List (Option V)},is.all (k≤·)=true→kg is xs env=some env'→∀i,i<k→env'[i]? = env[i]?
 |[],[],env,env',_,h,i,hi=>by obtain rfl:=sj h;rfl
 |[],_::_,_,_,_,h,_,_=>by exact ns h
 |_::_,[],_,_,_,h,_,_=>by exact ns h
 |j::is,x::xs,env,env',ha,h,i,hi=>by
  simp only [List.all_cons,Bool.and_eq_true,decide_eq_true_eq] at ha
  rw [iY (is:=is) ha.2 h i hi]
  exact List.getElem?_set_ne (by exact Nat.ne_of_gt (cT [] [_,_,_] a8 ae 1 [.j 1 a8 ak,.j 1 ak ae] rfl hi (And.left ha)))
theorem wG {t:T} {v:V} {k:Nat} {Q:St→Prop} (hk:oj t k=true) (h:w8 t v st Q):w8 t v st fun st1=>(∀i,i<k→st1.env[i]? = st.env[i]?)∧Q st1:=by
 cases t with
 |var i=>
  have hk:k≤i:=by simpa [oj] using hk
  exact ⟨fun j hj=>List.getElem?_set_ne (by exact Nat.ne_of_gt (cT [] [_,_,_] a8 ae 1 [.j 1 ak ae,.j 1 a8 ak] rfl hk hj)),h⟩
 |tup is=>
  unfold w8 at *
  dsimp only at *
  split at h
  ·split at h
   ·rename_i env he;exact ⟨iY hk (by rw [←mV];exact he),h⟩
   ·exact h.elim
  ·split at h
   ·rename_i env he;exact ⟨iY hk he,h⟩
   ·exact h.elim
  ·exact h.elim
theorem Pre.forget (p:Pre H0 f e nm G st s) {env:List (Option V)} (hl:env.length=st.env.length) (he:∀(i:Nat) (x:V),env[i]? = some (some x)→st.env[i]? = some (some x)):Pre H0 f e nm G ⟨env,st.σ⟩ s:=
 ⟨p.inv,⟨p.fr.kind,e1b p.fr.loc fun m hm hx=>⟨m,hm,fun i n x h1 h2=>hx i n x h1 (he i x h2)⟩,p.fr.own,p.fr.cells,p.fr.apart,p.fr.cellsAll,p.fr.inj⟩,hl.trans p.len⟩
theorem vY (v:V) (σ:List O):r6 [v] σ=([(oX v σ).1],(oX v σ).2):=rfl
theorem oC {t elt iter:PySem.Expr} {ifs:List PySem.Expr} {sc:Scope} {pos:Pos} {tt:T} {ce cc:C} {chk:St→Prop} {src:Gh→Heap→Prop} {IS:List P→Obj→Prop} {it ac:Addr} {k:Nat} {env0:List (Option V)} {σ0:Nat}
  (hA:A.handled=none) (K:ItK prog wd A src IS it) (TT:Tgt e nm t tt) (hk:oj tt k=true) (hk0:∀i,k≤i→∀x,env0[i]?≠some (some x))
  (HE:EJ H0 (model prog wd) A e nm (eval elt e) (w Pk ce))
  (HT:TJ H0 (model prog wd) A e nm (forIn ifs true fun c r=>if r=true then do let ok ←isTrue c e (eval c e);pure (ForInStep.yield ok) else pure (ForInStep.yield r)) (wt Pk cc))
  (hf:f it=none) (hfa:f ac=none) (hne:it≠ac) (Gs:Gh)
  (hchk:∀(f':Gm) (G:Gh) (st:St) (s:Shared),Pre H0 f' e nm G st s→Gs.LeN σ0 G→chk st→src G s.heap) (R:Flow→Shared→Prop) (Q:List P→St→Prop)
  (hR:∀(G':Gh) (s':Shared) (σ':List O) (ps:List P),gr s s'→G.Le G'→σ0≤σ'.length→Pre H0 f e nm G' ⟨env0,σ'⟩ s'→G'.g ac=none→G'.ow ac=none→lr G'.g s'.heap ac (.lst ps)→Q ps ⟨env0,σ'⟩→R .next s') :
  ∀(xs:List P) (G₀:Gh) (s₀:Shared) (σ:List O) (o:Obj) (ps:List P),gr s s₀→G.Le G₀→Pre H0 f e nm G₀ ⟨env0,σ⟩ s₀→Gs.LeN σ0 G₀→σ0≤σ.length→s₀.heap.get? it=some o→IS xs o→G₀.g it=none→G₀.ow it=none→
   G₀.g ac=none→G₀.ow ac=none→lr G₀.g s₀.heap ac (.lst ps)→ps.length+xs.length≤16777216→qW chk (qi tt (wt Pk cc) (w Pk ce)) xs ps ⟨env0,σ⟩ Q→
   eW (model prog wd) A (.compLoop (.ListComp elt [⟨t,iter,ifs,0⟩] sc pos) 0 (.ref it) (.ref ac) e) R s₀:=by
 intro xs
 induction xs with
 |nil=>
  intro G₀ s₀ σ o ps sm le p hle hn ho hI hg hw ag aw hb hsz h
  refine dj rfl ?_
  refine (?_:wpN _ A ((compTurn (.ListComp elt [⟨t,iter,ifs,0⟩] sc pos) 0 (.ref it) (.ref ac) e).onRaise _) _ s₀)
  refine dU ?_
  rw [compTurn_list]
  refine cS (cO (K.stop G₀ s₀ o (hchk f G₀ _ s₀ p hle h.1) ho hI _ fun h' hs=>?_))
  have p₁:=p.unseen (t:=s₀.toks) hs hf hg hw
  refine wpN_pure (hR G₀ _ σ ps (sm.trans ⟨rfl,rfl,rfl⟩) le hn p₁ ag aw ?_ h.2)
  refine e2b hb fun vs n h1 h2=>?_
  exact ⟨vs,n,hs ac _ hne.symm h1,h2⟩
 |cons x xs ih=>
  intro G₀ s₀ σ o ps sm le p hle hn ho hI hg hw ag aw hb hsz h
  refine dj rfl ?_
  refine (?_:wpN _ A ((compTurn (.ListComp elt [⟨t,iter,ifs,0⟩] sc pos) 0 (.ref it) (.ref ac) e).onRaise _) _ s₀)
  refine dU ?_
  rw [compTurn_list]
  refine cS (cO (K.next G₀ s₀ x xs o (hchk f G₀ _ s₀ p hle h.1) ho hI _ fun h' v o' tk hv ho' hI' hs=>?_))
  have p₁:=p.unseen (t:=tk) hs.extBut hf hg hw
  refine e2c (K.noOwn xs o' hI') fun T fs g1 g2 g3=>?_
  refine e2b hb fun vs n hb1 hb2=>?_
  dsimp only
  refine cO (tm (s:={s₀ with heap:=h',toks:=tk}) ho' g1 g2 g3 ?_)
  have hac:h'.get? ac=some (oB vs n):=hs.extBut ac _ hne.symm hb1
  have p₂:=(p₁.addF (o:=o') ho' hg hw).addF (it:=ac) (o:=oB vs n) hac ag aw
  have hfi:Fb.addF f it o' ac=none:=(if_neg hne.symm).trans hfa
  have h2:qi tt (wt Pk cc) (w Pk ce) x ⟨env0,σ⟩ (fun ys st=>qW chk (qi tt (wt Pk cc) (w Pk ce)) xs (ps++ys) st Q):=h.2
  unfold qi at h2
  refine cO (cV (sB hA TT p₂ (v:=.p x) hv (wG hk h2)) fun _ s₃ z₃=>?_)
  refine e1e z₃ fun st₃ sm₃ hσ₃ p₃ ek₃ q₃=>?_
  refine cO (yQ (HT _ G₀ s₃ st₃ _ p₃ q₃) fun b s₄ G₄ st₄ sm₄ le₄ n₄ p₄ z₄=>?_)
  refine e0b z₄ fun e₄ q₄=>?_
  have agree:∀{env:List (Option V)},env=st₃.env→∀i y,env0[i]? = some (some y)→env[i]? = some (some y):=fun {env} he i y hy=>by
   have hi:i<k:=by
    rcases Nat.lt_or_ge i k with q|q
    ·exact q
    ·exact (hk0 i q y hy).elim
   rw [he,ek₃ i hi];exact hy
  have len0:env0.length=st₃.env.length:=p.len.trans p₃.len.symm
  have sm₁:gr s₀ s₃:=(show gr s₀ {s₀ with heap:=h',toks:=tk} from ⟨rfl,rfl,rfl⟩).trans sm₃
  have go:∀(G₅:Gh) (s₅:Shared) (st₅:St) (ps':List P),gr s₀ s₅→G₀.Le G₅→st₃.σ.length≤st₅.σ.length→st₅.env=st₃.env→Pre H0 f e nm G₅ st₅ s₅→s₅.heap.get? it=some o'→G₅.g it=none→G₅.ow it=none→
    G₅.g ac=none→G₅.ow ac=none→lr G₅.g s₅.heap ac (.lst ps')→ps'.length≤ps.length+1→qW chk (qi tt (wt Pk cc) (w Pk ce)) xs ps' ⟨env0,st₅.σ⟩ Q→
    eW (model prog wd) A (.compLoop (.ListComp elt [⟨t,iter,ifs,0⟩] sc pos) 0 (.ref it) (.ref ac) e) R s₅:=fun G₅ s₅ st₅ ps' sm₅ le₅ n₅ e₅ p₅ i1 i2 i3 a1 a2 a3 a4 q₅=>
   ih G₅ s₅ st₅.σ o' ps' (sm.trans sm₅) (le.trans le₅) (p₅.forget (by rw [e₅];exact len0) (agree e₅)) (hle.trans (le₅.toN _)) (Nat.le_trans hn (by rw [hσ₃] at n₅;exact n₅)) i1 hI' i2 i3 a1 a2 a3 (by simp only [List.length_cons] at hsz;exact cT [] [_,_,_] a9 aq 1 [.j 1 (.a ak bc) aq,.j 1 ab bt] rfl hsz a4) q₅
  clear h hb aw ag hw hg hI ho hn hle le sm o hR;cases b with
  |false=>
   refine e0d (p₄.dropF hfi) fun p₅ a1 a2 a3=>?_
   refine e0d (p₅.dropF hf) fun p₆ i1 i2 i3=>?_
   exact wpN_pure ⟨rfl,go G₄ s₄ st₄ ps (sm₁.trans sm₄) le₄ n₄ e₄ p₆ i1 i2 i3 a2 a3 ⟨vs,n,a1,hb2.mono le₄.g⟩ (by exact cT [] [_] ab a8 1 [] rfl) (by have q:qW chk (qi tt (wt Pk cc) (w Pk ce)) xs (ps++[]) ⟨env0,st₄.σ⟩ Q:=q₄.f rfl;rw [List.append_nil] at q;exact q)⟩
  |true=>
   refine cO (cO (fP (HE _ G₄ s₄ st₄ _ p₄ (q₄.t rfl)) fun u s₅ G₅ st₅ y sm₅ le₅ n₅ p₅ v₅ z₅=>?_))
   refine e0b z₅ fun e₅ q₅=>?_
   rw [vY] at q₅
   dsimp only at q₅
   refine e1d (p₅.frz v₅) fun G₆ le₆ n₆ p₆ v₆=>?_
   split at q₅
   ·rename_i qs hqs
    cases hz:(oX y st₅.σ).1 with
    |p z=>
     rw [hz] at hqs v₆
     clear p;obtain rfl:=sj hqs
     refine e0d (p₆.dropF hfi) fun p₇ a1 a2 a3=>?_
     refine e0d (p₇.dropF hf) fun p₈ i1 i2 i3=>?_
     have hlen:=hb2.length
     refine cX (lY a1 (by rw [hlen,sizeLine_eq];simp only [List.length_cons] at hsz;exact cT [] [_,_] a8 aq 1 [.j 1 cC aq] rfl hsz) fun h'' k'' e1 e2=>?_)
     refine wpN_pure (wpN_pure ⟨rfl,?_⟩)
     have p₉:=p₈.unseen (t:=s₅.toks) e2.extBut hfa a2 a3
     exact go G₆ _ ⟨st₅.env,(oX y st₅.σ).2⟩ (ps++[z]) ((sm₁.trans (sm₄.trans sm₅)).trans ⟨rfl,rfl,rfl⟩) (le₄.trans (le₅.trans le₆)) (Nat.le_trans n₄ (Nat.le_trans n₅ n₆)) (e₅.trans e₄) p₉ (e2.extBut it _ hne i1) i2 i3 a2 a3
      ⟨vs++[u],k'',e1,(hb2.mono (le₄.trans (le₅.trans le₆)).g).append ⟨u,[],rfl,v₆,rfl⟩⟩ (by simp) q₅
    |_=>rw [hz] at hqs;exact ns hqs
   ·exact q₅.elim
end
end
section
section
variable {prog:Program} {wd:World} {A:Around} {H0:Heap} {e:Env} {nm:List (Option Str)} {Pk:Pg} {f:Gm} {G:Gh} {st:St} {s:Shared}
variable {t elt iter:PySem.Expr} {ifs:List PySem.Expr} {sc:Scope} {pos ipos:Pos} {tt:T} {ce cc ci:C} {ik:It}
noncomputable abbrev iy (ifs:List PySem.Expr) (e:Env):Sem Bool:=forIn ifs true fun c r=>if r=true then do let ok ←isTrue c e (eval c e);pure (ForInStep.yield ok) else pure (ForInStep.yield r)
theorem qT {use:Option (Value→Sem Unit)} {R:Value→Shared→Prop} {Q:List V→St→Prop} (hA:A.handled=none) (ok:yI sc e.scope) (hset:eM iter=true)
  (hI:IJ H0 prog wd A e nm (eval iter e) (w Pk ci) ik) (TT:∀C,Tgt (n7 sc e C) (pG nm sc) t tt) (hk:oj tt nm.length=true)
  (HE:∀C,EJ H0 (model prog wd) A (n7 sc e C) (pG nm sc) (eval elt (n7 sc e C)) (w Pk ce))
  (HT:∀C,TJ H0 (model prog wd) A (n7 sc e C) (pG nm sc) (iy ifs (n7 sc e C)) (wt Pk cc))
  (p:Pre H0 f e nm G st s) (h:w Pk (.comp false ce tt (gZ sc).length ik ci cc) st Q)
  (hR:∀(D C:Addr) (s':Shared) (G':Gh) (st':St) (ps:List P),gr s s'→G.Le G'→st.σ.length≤st'.σ.length→Pre H0 f e nm G' st' s'→G'.g C=none→f C=none→G'.ow C=none→(∃m,s'.heap.Ns C m)→
   PRel G'.g (.lst ps) (.ref D)→Q [.p (.lst ps)] st'→nK (model prog wd) A use R (.ref D) C s') :
  wpN (model prog wd) A (comprehension (.ListComp elt [⟨t,iter,ifs,0⟩] sc pos) sc e ipos (newList []) false (eval iter e) use) R s:=by
 have K:=p.clo ok
 have hclos:closureFor sc e=pure (clo e sc.names []):=by
  have:=lH (e:=e) (names:=sc.names) (acc:=[]) K.avail
  exact congrArg (fun z:Sem (List (Str × Addr))=>z>>=fun cs=>pure cs) this
 refine ls (g:=⟨t,iter,ifs,0⟩) (gs:=[]) rfl (fun x=>l3 hset) hclos ok.kind (fun x hx hl=>fJ ok.nodup (by rw [←hl];exact hx)) ?_
 refine cV (hI f G s st _ p h fun vs st h=>oU h fun _ _ _=>trivial) fun a s₁ h₁=>DO h₁ fun s₂ G₁ st₁ vs it sm₁ le₁ n₁ p₁ rd q₁=>?_
 refine e0b rd fun zn1 hr=>?_;refine e0c zn1 fun g1 g2 g3=>?_
 obtain ⟨l,chk,src,IS,o,⟨⟨_,hl1⟩,hl2⟩,ho,hi,KK,hsrc⟩:=hr _ q₁
 unfold wq at hl2
 refine cQ (wpAny_newObj_type ?_)
 refine cQ (wpAny_newFunctionEnv ok.cell (by intro y hy;simp at hy) (fun h₁ hns hsb=>?_) ok.kind)
 dsimp only at hns hsb ⊢
 generalize hH2:s₂.heap.push {cls:=.type "list",dict:=none,data:=.seq ([]:List Value).toArray}=H2 at hns hsb ⊢
 have hC:H2.objs.size=s₂.heap.objs.size+1:=by rw [←hH2,Heap.size_push]
 have hDC:s₂.heap.objs.size≠H2.objs.size:=by rw [hC];exact Nat.ne_of_lt (Nat.lt_succ_self _)
 have old:∀b o,s₂.heap.get? b=some o→h₁.get? b=some o:=fun b o e=>hsb.extBut b o (by rw [hC];exact Nat.ne_of_lt (Nat.lt_succ_of_lt (Heap.lt_size e))) (Heap.get?_push_of_some _ (hH2▸Heap.get?_push_of_some _ e))
 have hacc:h₁.get? s₂.heap.objs.size=some (oB [] 0):=hsb.extBut _ _ hDC (Heap.get?_push_of_some _ (hH2▸Heap.get?_push_size _ rfl))
 refine e0c (p₁.fresh (Nat.le_refl _)) fun d1 d2 d3=>?_
 refine e0c (p₁.fresh (a:=H2.objs.size) (by rw [hC];exact Nat.le_succ _)) fun c1 c2 c3=>?_
 generalize hs₄:({s₂ with heap:=h₁,toks:=s₂.toks+([]:List (Str × Value)).length}:Shared)=s₄
 have sm₄:gr s₂ s₄:=by subst hs₄;exact ⟨rfl,rfl,rfl⟩
 have hp₄:s₄.heap=h₁:=by subst hs₄;rfl
 have p₄:Pre H0 f e nm G₁ st₁ s₄:=p₁.keeps fun b o h=>by rw [hp₄];exact old b o h
 have hit:s₄.heap.get? it=some o:=by rw [hp₄];exact old _ _ ho
 have hne:it≠s₂.heap.objs.size:=Nat.ne_of_lt (Heap.lt_size ho)
 have inIt:∀a,f a=none→G₁.ow a=none→inF (clo e sc.names []) G₁ f s₄.heap a=none:=fun a h1 h2=>by simp only [inF,h1,h2]
 have p₅:=p₄.enterComp (sc:=sc) ok (C:=H2.objs.size) (by rw [hp₄];exact hns) c1 c2 c3
 have neC:∀a,a<H2.objs.size→G₁.ow a=none→(inG (clo e sc.names []) G₁ H2.objs.size).ow a=none:=fun a h1 h2=>by
  simp only [inG,if_neg (Nat.ne_of_lt h1),h2]
 have lt1:it<H2.objs.size:=by rw [hC];exact Nat.lt_succ_of_lt (Heap.lt_size ho)
 have lt2:s₂.heap.objs.size<H2.objs.size:=by rw [hC];exact Nat.lt_succ_self _
 have loop:eW (model prog wd) A (.compLoop (.ListComp elt [⟨t,iter,ifs,0⟩] sc pos) 0 (.ref it) (.ref s₂.heap.objs.size) (n7 sc e H2.objs.size)) (fun _ s'=>nK (model prog wd) A use R (.ref s₂.heap.objs.size) H2.objs.size s') s₄:=by
  refine oC (f:=inF (clo e sc.names []) G₁ f s₄.heap) (G:=inG (clo e sc.names []) G₁ H2.objs.size) (s:=s₄) (chk:=chk) (src:=src) (IS:=IS) (k:=nm.length) (env0:=st₁.env++List.replicate (gZ sc).length none) (σ0:=st₁.σ.length) hA KK (TT _) hk ?_ (HE _) (HT _) (inIt _ g1 g3) (inIt _ d2 d3) hne G₁
   (fun f' G' st' s' p' hle hc=>hsrc G' _ _ f' st' s' p' hle hc) _ _ ?_ l _ s₄ st₁.σ o [] (.refl _) (.refl _) p₅ ⟨fun _ _ h=>h,fun _ _ _ h=>h,fun _ _ _ _ _ h=>h⟩ (Nat.le_refl _) hit hi g2 (neC _ lt1 g3) d1 (neC _ lt2 d3) ⟨[],0,by rw [hp₄];exact hacc,rfl⟩ (by simpa using hl1) hl2
  ·intro i hi x hx
   rw [List.getElem?_append_right (by rw [p₁.len];exact hi)] at hx
   simp [List.getElem?_replicate] at hx
  ·intro G' s' σ' ps sm' le' n' p' a1 a2 ⟨us,k,hb1,hb2⟩ q'
   refine e1e (p'.freeze hb1 a2 (inIt _ d2 d3)) fun G2 le2 p2 hg2 hk2 how2=>?_
   refine e1f (p₄.leaveComp ok c3 (le'.trans le2) (fun i hi=>List.getElem?_append_left hi) p2) fun G3 le3 p3 ow3 hg3 hk3 _=>?_
   refine e1b p2.fr.loc fun m hm _=>?_
   refine hR _ _ s' G3 ⟨st₁.env,σ'⟩ ps ((sm₁.trans sm₄).trans sm') (le₁.trans le3) (Nat.le_trans n₁ n') p3 ?_ c2 ow3 ⟨m,hm⟩ ?_ q'
   ·rw [hg3];exact (p2.inv.own _ _ p2.fr.own).1
   ·exact ⟨_,_,us,k,rfl,by rw [hg3];exact hg2,rfl,by rw [hg3];exact hb2.mono le2.g⟩
 exact nN loop (KK.again s₄ l o hit hi _ loop)
theorem An {own:Bool} {m:Nat} (hA:A.handled=none) (ok:yI sc e.scope) (hset:eM iter=true) (hm:m=(gZ sc).length)
  (hI:IJ H0 prog wd A e nm (eval iter e) (w Pk ci) ik) (TT:∀C,Tgt (n7 sc e C) (pG nm sc) t tt) (hk:oj tt nm.length=true)
  (HE:∀C,EJ H0 (model prog wd) A (n7 sc e C) (pG nm sc) (eval elt (n7 sc e C)) (w Pk ce))
  (HT:∀C,TJ H0 (model prog wd) A (n7 sc e C) (pG nm sc) (iy ifs (n7 sc e C)) (wt Pk cc)) :
  EJ H0 (model prog wd) A e nm (eval (.ListComp elt [⟨t,iter,ifs,0⟩] sc pos) e) (w Pk (.comp false ce tt m ik ci cc)):=fun f G s st Q p h=>by
 subst hm
 refine (?_:wpN _ _ (comprehension (.ListComp elt [⟨t,iter,ifs,0⟩] sc pos) sc e _ (newList []) false (eval iter e) none) _ _)
 refine qT hA ok hset hI TT hk HE HT p h fun D C s' G' st' ps sm le n' p' c1 c2 c3 zp hv q=>e1a zp fun m hm=>⟨m,hm,fun h' hs=>?_⟩
 exact ⟨G',st',_,sm.trans ⟨rfl,rfl,rfl⟩,le,n',p'.unseen (t:=s'.toks) hs.extBut c2 c1 c3,vp hv,q⟩
theorem tW {n:Str} {p2:Pos} {i m:Nat} {spos:Pos} (hsw:swapsWith (.ListComp elt [⟨t,iter,ifs,0⟩] sc pos) (some (.Name n p2)) spos.line e=pure true) (hn:A8 e nm n i)
  (hA:A.handled=none) (ok:yI sc e.scope) (hset:eM iter=true) (hm:m=(gZ sc).length)
  (hI:IJ H0 prog wd A e nm (eval iter e) (w Pk ci) ik) (TT:∀C,Tgt (n7 sc e C) (pG nm sc) t tt) (hk:oj tt nm.length=true)
  (HE:∀C,EJ H0 (model prog wd) A (n7 sc e C) (pG nm sc) (eval elt (n7 sc e C)) (w Pk ce))
  (HT:∀C,TJ H0 (model prog wd) A (n7 sc e C) (pG nm sc) (iy ifs (n7 sc e C)) (wt Pk cc)) :
  SJ H0 (model prog wd) A e nm (exec (.Assign [.Name n p2] (.ListComp elt [⟨t,iter,ifs,0⟩] sc pos) spos) e) (wS Pk (.asg (.var i) (.comp false ce tt m ik ci cc))):=fun f G s st Q mm p hmm h=>by
 subst hm
 refine dC (exec_Assign_Name_used _ _ _ _ hsw) ?_
 refine cS (cO ?_)
 refine (?_:wpN _ A (do let _ ←comprehension (.ListComp elt [⟨t,iter,ifs,0⟩] sc pos) sc e _ (newList []) false (eval iter e) (some (assign (.Name n p2) e))) _ _)
 refine cO (cV (Q:=fun _ s'=>fk H0 f e nm G s mm Q .next s') ?_ fun _ s' hq=>wpN_pure (wpN_pure hq))
 refine qT hA ok hset hI TT hk HE HT p h fun D C s' G' st' ps sm le n' p' c1 c2 c3 zp hv q=>e1a zp fun m hm=>?_
 refine e3d (id hm) fun o es ep ho hd hkk hmm'=>?_
 refine (?_:wpN _ _ (assign (.Name n p2) e (.ref D)) _ _)
 rw [arm_assign_Name]
 refine cS (cQ (wpAny_bindName ((p'.addF (o:=o) ho c1 c3).store hn.1 hn.2 (x:=.p (.lst ps)) hv fun s₂ sm₂ p₂=>?_)))
 refine e0d (p₂.dropF c2) fun p₃ ho₃ g₃ w₃=>?_
 refine ⟨m,⟨o,es,ep,ho₃,hd,hkk,hmm'⟩,fun h' hs=>?_⟩
 exact fk.step (s₁:={s₂ with heap:=h'}) ((sm.trans sm₂).trans ⟨rfl,rfl,rfl⟩) (le.toN _) (.now (p₃.unseen (t:=s₂.toks) hs.extBut c2 g₃ w₃) (Nat.le_trans hmm n') (fl:=.next) rfl q)
theorem uK:TJ H0 (model prog wd) A e nm (iy [] e) (wt Pk (.lit (.bool true))):=fun f G s st Q p h=>wpN_pure (.now p h)
theorem uJ {c:PySem.Expr} {cc:C} (h:TJ H0 (model prog wd) A e nm (isTrue c e (eval c e)) (wt Pk cc)):TJ H0 (model prog wd) A e nm (iy [c] e) (wt Pk cc):=fun f G s st Q p q=>by
 unfold iy
 simp only [List.forIn_cons,List.forIn_nil,if_true]
 exact cO (cO (cV (h f G s st Q p q) fun b s' hb=>wpN_pure (wpN_pure hb)))
end
end
section
section
variable {prog:Program} {wd:World} {A:Around} {H0:Heap} {e:Env} {nm:List (Option Str)} {Pk:Pg} {f:Gm} {G:Gh} {st:St} {s:Shared}
theorem yb {pos:Pos} (hsm:∃b o,sysModules≤b∧H0.get? b=some o):EJ H0 (model prog wd) A e nm (eval (.Dict [] [] pos) e) (w Pk .dict0):=fun f G s st Q p h=>by
 refine dC (eval_Dict_empty ..) ?_
 refine cS ?_
 refine (?_:wpN _ _ (newObj (.type "dict") (.dict #[])) _ _)
 refine cQ (wpAny_newObj_type ?_)
 refine e0c (p.fresh (Nat.le_refl _)) fun f1 f2 f3=>?_
 have p₁:Pre H0 f e nm G st {s with heap:=s.heap.push {cls:=.type "dict",data:=.dict #[]}}:=p.keeps fun b o h=>Heap.get?_push_of_some _ h
 have hsys:(s.heap.objs.size==sysModules)=false:=by
  refine e2b hsm fun b o hb ho=>?_
  have:=Heap.lt_size (p.h0 _ _ ho)
  simp only [beq_eq_false_iff_ne]
  exact fun q=>Nat.lt_irrefl _ (Nat.lt_of_le_of_lt hb (q▸this))
 have hb:lr G.g (s.heap.push {cls:=.type "dict",data:=.dict #[]}) s.heap.objs.size (.dict []):=by
  refine ⟨hsys,_,Heap.get?_push_size _ rfl, .inl ⟨[],fun prog w=>⟨#[],0,⟨rfl,rfl,rfl⟩,rfl,?_, .nil,List.nodup_nil⟩,rfl⟩⟩
  intro e he;simp at he
 refine e1d (p₁.adopt (b:=.dict []) (a:=s.heap.objs.size) hb f1 f2 f3) fun G' le p₂ i' g'=>?_
 exact ⟨G',_, .ref st.σ.length,⟨rfl,rfl,rfl⟩,le,by simp,p₂,⟨_,i',rfl⟩,h⟩
noncomputable def AY (sc out:Scope):Bool:=sc.kind==.function&&out.kind==.function&&decide ((sc.names.map (·.1)).Nodup)&&sc.names.all fun x=>x.2 != .cell&&(x.2 != .free||out.names.lookup x.1==some .cell)
theorem uW {sc out:Scope} (h:AY sc out=true):yI sc out:=by
 unfold AY at h
 simp only [Bool.and_eq_true,beq_iff_eq,decide_eq_true_eq,List.all_eq_true,Bool.or_eq_true,bne_iff_ne] at h
 obtain ⟨⟨⟨h1,h2⟩,h3⟩,h4⟩:=h
 exact ⟨h1,h2,h3,fun x hx=>(h4 x hx).1,fun x hx hk=>(h4 x hx).2.resolve_left (fun q=>q hk)⟩
noncomputable def CN (out sc:Scope) (n:Str) (l1 l2:Nat):Bool:=out.names.lookup n==some .local&&l1==l2&&!(sc.names.any fun x=>x.1==n&&(x.2==.local||x.2==.cell))
theorem uM {t:PySem.Expr} {elt iter:PySem.Expr} {ifs:List PySem.Expr} {sc:Scope} {pos p2:Pos} {n:Str} {k:Nat} (hk:e.scope.kind=.function) (h:CN e.scope sc n p2.line pos.line=true) :
  swapsWith (.ListComp elt [⟨t,iter,ifs,0⟩] sc pos) (some (.Name n p2)) k e=pure true:=by
 unfold CN at h
 simp only [Bool.and_eq_true,beq_iff_eq] at h
 refine e0b h fun zn1 h3=>?_;refine e0b zn1 fun h1 h2=>?_
 have hb:e.blockKind=.function:=by unfold Env.blockKind;rw [hk];rfl
 have h1':e.kindOf n=some .local:=h1
 refine (?_:(pure (e.blockKind==.function&&e.kindOf n==some .local&&p2.line==pos.line&&!(sc.names.any fun x=>x.1==n&&(x.2==.local||x.2==.cell))):Sem Bool)=pure true)
 rw [hb,h1',h2,h3];simp
end
end
section
structure Tb where
 glb:List (Str × P)
 at_:List (Str × AI)
 me:List (Str × MI)
structure Cx where
 sc:Scope
 nm:List (Option Str)
 own:List Str
noncomputable def Cx.inner (cx:Cx) (sc:Scope):Cx:=⟨xz sc cx.sc,pG cx.nm sc,[]⟩
inductive J where
 |e (md:Bool) (x:PySem.Expr) (c:C)|t (x:PySem.Expr) (c:C)|l (xs:List PySem.Expr) (c:C)|o (x:Option PySem.Expr) (c:C)|it (x:PySem.Expr) (ik:It) (c:C)
 |q (xs:List PySem.Expr) (c:C)|tgt (x:PySem.Expr) (t:T)|tgts (xs:List PySem.Expr) (is:List Nat)
 |s (x:Stmt) (c:S)|ss (xs:List Stmt) (c:S)
noncomputable def yN:C→Bool|.var _|.attr _ _|.meth _ _ _|.call _ _=>true|_=>false
noncomputable def ni (x:PySem.Expr):Bool:=!(Nat.beq x.ctorIdx 0||Nat.beq x.ctorIdx 3||Nat.beq x.ctorIdx 5||Nat.beq x.ctorIdx 15)
noncomputable def dbg (n:Str):Bool:=n==("__debug__" : Str)||n==("__classdict__" : Str)
structure CG (H0:Heap) (prog:Program) (wd:World) (tb:Tb):Prop where
 glb:∀n x,tb.glb.lookup n=some x→rp H0 n x
 get:∀n i,tb.at_.lookup n=some i→w0 H0 prog wd n i
 set:∀n i,tb.at_.lookup n=some i→AQ H0 prog wd n i
 me:∀n m,tb.me.lookup n=some m→pe H0 prog wd n m
noncomputable def DY (H0:Heap) (prog:Program) (wd:World) (A:Around) (e:Env) (nm:List (Option Str)) (Pk:Pg):J→Prop
 |.e _ x c=>EJ H0 (model prog wd) A e nm (eval x e) (w Pk c)
 |.t x c=>TJ H0 (model prog wd) A e nm (isTrue x e (eval x e)) (wt Pk c)
 |.l xs c=>∀pos,LJ H0 (model prog wd) A e nm (spliced (backTo pos (starEach xs e))) (w Pk c)
 |.o x c=>EJ H0 (model prog wd) A e nm (valueOrNone (evalOpt x e)) (w Pk c)
 |.it x ik c=>IJ H0 prog wd A e nm (eval x e) (w Pk c) ik
 |.q xs c=>TJ H0 (model prog wd) A e nm (iy xs e) (wt Pk c)
 |.tgt x t=>Tgt e nm x t
 |.tgts xs is=>yF e nm xs is
 |.s x c=>SJ H0 (model prog wd) A e nm (exec x e) (wS Pk c)
 |.ss xs c=>SJ H0 (model prog wd) A e nm (execs xs e) (wS Pk c)
structure Wd (H0:Heap) (prog:Program) (wd:World) (A:Around) (Pk:Pg) (n:Nat) (cx:Cx) (tb:Tb) (e:Env):Prop where
 hP:wU H0 prog wd n Pk
 hF:ux H0 Pk
 gd:p6 n A
 hsm:∃b o,sysModules≤b∧H0.get? b=some o
 T:CG H0 prog wd tb
 hsc:e.scope=cx.sc
 hk:cx.sc.kind=.function
 hgl:e.globals=mainGlobals
 hbi:e.builtins=builtinsNs
noncomputable def Cq (cx:Cx) (tb:Tb) (j:J):Prop:=∀H0 prog wd A Pk n e,Wd H0 prog wd A Pk n cx tb e→DY H0 prog wd A e cx.nm Pk j
section
variable {H0:Heap} {prog:Program} {wd:World} {A:Around} {Pk:Pg} {n:Nat} {cx:Cx} {tb:Tb} {e:Env}
theorem Wd.kof (W:Wd H0 prog wd A Pk n cx tb e) (n:Str):e.kindOf n=cx.sc.names.lookup n:=by unfold Env.kindOf;rw [W.hsc]
theorem Wd.st (W:Wd H0 prog wd A Pk n cx tb e) {n:Str} {i:Nat} (h1:cx.nm[i]? = some (some n)) (h2:cx.sc.names.lookup n=some .local∨cx.sc.names.lookup n=some .cell):A8 e cx.nm n i:=⟨h1,by rw [W.kof];exact h2⟩
theorem Wd.hu (W:Wd H0 prog wd A Pk n cx tb e):A.units+80<cLine:=by have:=W.gd.units;have:cLine=9900:=rfl;lia
theorem Wd.inner (W:Wd H0 prog wd A Pk n cx tb e) {sc:Scope} (ok:yI sc cx.sc) (C:Addr):Wd H0 prog wd A Pk n (cx.inner sc) tb (n7 sc e C):=
 ⟨W.hP,W.hF,W.gd,W.hsm,W.T,by rw [show (n7 sc e C).scope=xz sc e.scope from rfl,W.hsc];rfl,ok.kind,W.hgl,W.hbi⟩
theorem CR {n:Str} (h:dbg n=false):(n==("__debug__" : Str))=false:=(Bool.or_eq_false_iff.mp h).1
theorem DW {n:Str} (h:dbg n=false):(n==("__classdict__" : Str))=false:=(Bool.or_eq_false_iff.mp h).2
end
theorem iu {op:CmpOp} {r:PySem.Expr} (h:eM r=true):behindInMarks op r=false:=by cases r<;>first|rfl|exact ft h
theorem zw {x:PySem.Expr} {e:Env} (h:ni x=true):isTrue x e (eval x e)=(do let v ←eval x e;standAt x.pos;holding [v] (truthy v)):=by
 cases x<;>first|rfl|exact ft h
theorem Cq.cNone {cx tb md k pos}:Cq cx tb (.e md (.Constant .none k pos) (.lit .none)):=fun H0 prog wd A Pk n e W=>oZ (.inl ⟨rfl,rfl⟩)
theorem Cq.cBool {cx tb md k pos b}:Cq cx tb (.e md (.Constant (.bool b) k pos) (.lit (.bool b))):=fun H0 prog wd A Pk n e W=>oZ (.inr (.inl ⟨_,rfl,rfl⟩))
theorem Cq.cInt {cx tb md k pos b}:Cq cx tb (.e md (.Constant (.int b) k pos) (.lit (.int b))):=fun H0 prog wd A Pk n e W=>oZ (.inr (.inr (.inl ⟨_,rfl,rfl⟩)))
theorem Cq.cStr {cx tb md k pos b}:Cq cx tb (.e md (.Constant (.str b) k pos) (.lit (.str b))):=fun H0 prog wd A Pk n e W=>oZ (.inr (.inr (.inr (.inl ⟨_,rfl,rfl⟩))))
theorem Cq.cBytes {cx tb md k pos b}:Cq cx tb (.e md (.Constant (.bytes b) k pos) (.lit (.bytes b))):=fun H0 prog wd A Pk n e W=>oZ (.inr (.inr (.inr (.inr ⟨_,rfl,rfl⟩))))
theorem Cq.var {cx tb md n pos i} (h:cx.nm[i]? = some (some n)) (hi:cx.nm.idxOf (some n)=i) (hd:dbg n=false):Cq cx tb (.e md (.Name n pos) (.var i)):=fun H0 prog wd A Pk n e W=>B5 h (CR hd) (DW hd)
theorem Cq.glob {cx tb md n pos x} (h:cx.sc.names.lookup n=some .globalImplicit) (hx:tb.glb.lookup n=some x) (hd:dbg n=false):Cq cx tb (.e md (.Name n pos) (.glob x)):=fun H0 prog wd A Pk n e W=>sd (by rw [W.kof];exact h) W.hgl W.hbi (CR hd) (W.T.glb _ _ hx)
theorem Cq.repl {cx tb md x p2 r pos cl cr} (j1:Cq cx tb (.e false (.List x p2) cl)) (j2:Cq cx tb (.e false r cr)):Cq cx tb (.e md (.BinOp (.List x p2) .Mult r pos) (.repl md cl cr)):=fun H0 prog wd A Pk n e W=>Al (x:=.Name "" default) (p2:=default) (j1 _ _ _ _ _ _ _ W) (j2 _ _ _ _ _ _ _ W)
theorem Cq.bin {cx tb md l op r pos cl cr} (j1:Cq cx tb (.e false l cl)) (j2:Cq cx tb (.e false r cr)):Cq cx tb (.e md (.BinOp l op r pos) (.bin op cl cr)):=fun H0 prog wd A Pk n e W=>Ce (j1 _ _ _ _ _ _ _ W) (j2 _ _ _ _ _ _ _ W)
theorem Cq.neg {cx tb md l pos cl} (j1:Cq cx tb (.e false l cl)):Cq cx tb (.e md (.UnaryOp .USub l pos) (.un .USub cl)):=fun H0 prog wd A Pk n e W=>B6 (.inl rfl) (j1 _ _ _ _ _ _ _ W)
theorem Cq.inv {cx tb md l pos cl} (j1:Cq cx tb (.e false l cl)):Cq cx tb (.e md (.UnaryOp .Invert l pos) (.un .Invert cl)):=fun H0 prog wd A Pk n e W=>B6 (.inr rfl) (j1 _ _ _ _ _ _ _ W)
theorem Cq.not {cx tb md l pos cl} (j1:Cq cx tb (.e false l cl)):Cq cx tb (.e md (.UnaryOp .Not l pos) (.not cl)):=fun H0 prog wd A Pk n e W=>B9 (j1 _ _ _ _ _ _ _ W)
theorem Cq.and {cx tb md l r pos cl cr} (j1:Cq cx tb (.e false l cl)) (j2:Cq cx tb (.e false r cr)):Cq cx tb (.e md (.BoolOp .And [l,r] pos) (.and cl cr)):=fun H0 prog wd A Pk n e W=>Cf (j1 _ _ _ _ _ _ _ W) (j2 _ _ _ _ _ _ _ W)
theorem Cq.or {cx tb md l r pos cl cr} (j1:Cq cx tb (.e false l cl)) (j2:Cq cx tb (.e false r cr)):Cq cx tb (.e md (.BoolOp .Or [l,r] pos) (.or cl cr)):=fun H0 prog wd A Pk n e W=>Dt (j1 _ _ _ _ _ _ _ W) (j2 _ _ _ _ _ _ _ W)
theorem Cq.cmp {cx tb md l op r pos cl cr} (hs:eM r=true) (j1:Cq cx tb (.e false l cl)) (j2:Cq cx tb (.e false r cr)):Cq cx tb (.e md (.Compare l [op] [r] pos) (.cmp op cl cr)):=fun H0 prog wd A Pk n e W=>Cd W.hu (iu hs) (j1 _ _ _ _ _ _ _ W) (j2 _ _ _ _ _ _ _ W)
theorem Cq.chain {cx tb md l o1 o2 r t pos cl cr ct} (hs:eM r=true) (hs':eM t=true) (j1:Cq cx tb (.e false l cl)) (j2:Cq cx tb (.e false r cr)) (j3:Cq cx tb (.e false t ct)):Cq cx tb (.e md (.Compare l [o1,o2] [r,t] pos) (.chain o1 o2 cl cr ct)):=fun H0 prog wd A Pk n e W=>yc W.hu (iu hs) (iu hs') (j1 _ _ _ _ _ _ _ W) (j2 _ _ _ _ _ _ _ W) (j3 _ _ _ _ _ _ _ W)
theorem Cq.ite {cx tb md t l r pos ct cl cr} (j1:Cq cx tb (.t t ct)) (j2:Cq cx tb (.e false l cl)) (j3:Cq cx tb (.e false r cr)):Cq cx tb (.e md (.IfExp t l r pos) (.ite ct cl cr)):=fun H0 prog wd A Pk n e W=>Cb (j1 _ _ _ _ _ _ _ W) (j2 _ _ _ _ _ _ _ W) (j3 _ _ _ _ _ _ _ W)
theorem Cq.attr {cx tb md o n pos co i} (hi:tb.at_.lookup n=some i) (hs:fq o=true) (j1:Cq cx tb (.e false o co)):Cq cx tb (.e md (.Attribute o n pos) (.attr co i)):=fun H0 prog wd A Pk n e W=>Ap (W.T.get _ _ hi) hs (j1 _ _ _ _ _ _ _ W)
theorem Cq.slc {cx tb md l lo hi sp p2 pos cl clo chi csp} (j1:Cq cx tb (.e false l cl)) (j2:Cq cx tb (.o lo clo)) (j3:Cq cx tb (.o hi chi)) (j4:Cq cx tb (.o sp csp)):Cq cx tb (.e md (.Subscript l (.Slice lo hi sp p2) pos) (.slc cl clo chi csp)):=fun H0 prog wd A Pk n e W=>B8 (j1 _ _ _ _ _ _ _ W) (j2 _ _ _ _ _ _ _ W) (j3 _ _ _ _ _ _ _ W) (j4 _ _ _ _ _ _ _ W)
theorem Cq.idx {cx tb md l r pos cl cr} (hs:jH r=true) (j1:Cq cx tb (.e false l cl)) (j2:Cq cx tb (.e false r cr)):Cq cx tb (.e md (.Subscript l r pos) (.idx cl cr)):=fun H0 prog wd A Pk n e W=>Cc W.hu hs (j1 _ _ _ _ _ _ _ W) (j2 _ _ _ _ _ _ _ W)
theorem Cq.tup {cx tb md es k pos c} (j1:Cq cx tb (.l es c)):Cq cx tb (.e md (.Tuple es k pos) (.tup c)):=fun H0 prog wd A Pk n e W=>B7 ((j1 _ _ _ _ _ _ _ W) _)
theorem Cq.lst {cx tb md es pos c} (j1:Cq cx tb (.l es c)):Cq cx tb (.e md (.List es pos) (.lst md c)):=fun H0 prog wd A Pk n e W=>Ca ((j1 _ _ _ _ _ _ _ W) _)
theorem Cq.call {cx tb md n p2 args pos cf ca} (hp:dG args=true) (j1:Cq cx tb (.e false (.Name n p2) cf)) (j2:Cq cx tb (.l args ca)):Cq cx tb (.e md (.Call (.Name n p2) args [] pos) (.call cf ca)):=fun H0 prog wd A Pk n e W=>Ao W.hP W.gd hp (j1 _ _ _ _ _ _ _ W) ((j2 _ _ _ _ _ _ _ W) _)
theorem Cq.meth {cx tb md o n apos args pos co m ca} (hm:tb.me.lookup n=some m) (hs:fq o=true) (hp:dG args=true) (hl:decide (args.length<29)=true) (hn:(apos.endLine==pos.line)=true) (j1:Cq cx tb (.e false o co)) (j2:Cq cx tb (.l args ca)):Cq cx tb (.e md (.Call (.Attribute o n apos) args [] pos) (.meth co m ca)):=fun H0 prog wd A Pk n e W=>Am W.hP W.hF W.gd (W.T.me _ _ hm) hs hp hl hn (j1 _ _ _ _ _ _ _ W) ((j2 _ _ _ _ _ _ _ W) _)
theorem Cq.methK {cx tb md o n apos args pos co m ca kn k kp ck} (hm:tb.me.lookup n=some m) (hs:fq o=true) (hp:dG args=true) (hl:decide (args.length<28)=true) (hn:(apos.endLine==pos.line)=true) (j1:Cq cx tb (.e false o co)) (j2:Cq cx tb (.l args ca)) (j3:Cq cx tb (.e false k ck)):Cq cx tb (.e md (.Call (.Attribute o n apos) args [⟨some kn,k,kp⟩] pos) (.methK co m ca kn ck)):=fun H0 prog wd A Pk n e W=>ya W.hP W.hF W.gd (W.T.me _ _ hm) hs hp hl hn (j1 _ _ _ _ _ _ _ W) ((j2 _ _ _ _ _ _ _ W) _) (j3 _ _ _ _ _ _ _ W)
theorem Cq.dict0 {cx tb md pos}:Cq cx tb (.e md (.Dict [] [] pos) .dict0):=fun H0 prog wd A Pk n e W=>yb W.hsm
theorem Cq.methS {cx tb md o n apos args pos co m ca} (hm:tb.me.lookup n=some m) (hbd:m.bd=true) (hs:fq o=true) (hst:mz args=true) (j1:Cq cx tb (.e false o co)) (j2:Cq cx tb (.l args ca)):Cq cx tb (.e md (.Call (.Attribute o n apos) args [] pos) (.methS co m ca)):=fun H0 prog wd A Pk n e W=>x9 W.hP W.gd (W.T.me _ _ hm) hbd hs hst (j1 _ _ _ _ _ _ _ W) (j2 _ _ _ _ _ _ _ W _)
theorem Cq.comp {cx tb md elt t it ifs sc pos ce tt m ik ci cc} (hok:AY sc cx.sc=true) (hset:eM it=true) (hm:m=(gZ sc).length) (hk:oj tt cx.nm.length=true) (j1:Cq cx tb (.it it ik ci)) (j2:Cq (cx.inner sc) tb (.tgt t tt)) (j3:Cq (cx.inner sc) tb (.e false elt ce)) (j4:Cq (cx.inner sc) tb (.q ifs cc)):Cq cx tb (.e md (.ListComp elt [⟨t,it,ifs,0⟩] sc pos) (.comp false ce tt m ik ci cc)):=fun H0 prog wd A Pk n e W=>by
 have ok:=uW hok
 exact An (own:=false) W.gd.handled (by rw [W.hsc];exact ok) hset hm (j1 _ _ _ _ _ _ _ W) (fun C=>j2 _ _ _ _ _ _ _ (W.inner ok C)) hk
  (fun C=>j3 _ _ _ _ _ _ _ (W.inner ok C)) (fun C=>j4 _ _ _ _ _ _ _ (W.inner ok C))
theorem Cq.qNil {cx tb}:Cq cx tb (.q [] (.lit (.bool true))):=fun H0 prog wd A Pk n e W=>uK
theorem Cq.qOne {cx tb x c} (j1:Cq cx tb (.t x c)):Cq cx tb (.q [x] c):=fun H0 prog wd A Pk n e W=>uJ (j1 _ _ _ _ _ _ _ W)
theorem Cq.tTrue {cx tb k pos b}:Cq cx tb (.t (.Constant (.bool b) k pos) (.lit (.bool b))):=fun H0 prog wd A Pk n e W=>zu
theorem Cq.tNot {cx tb l pos c} (j1:Cq cx tb (.t l c)):Cq cx tb (.t (.UnaryOp .Not l pos) (.not c)):=fun H0 prog wd A Pk n e W=>Bg (j1 _ _ _ _ _ _ _ W)
theorem Cq.tAnd {cx tb l r pos cl cr} (j1:Cq cx tb (.t l cl)) (j2:Cq cx tb (.t r cr)):Cq cx tb (.t (.BoolOp .And [l,r] pos) (.and cl cr)):=fun H0 prog wd A Pk n e W=>Bk (j1 _ _ _ _ _ _ _ W) (j2 _ _ _ _ _ _ _ W)
theorem Cq.tOr {cx tb l r pos cl cr} (j1:Cq cx tb (.t l cl)) (j2:Cq cx tb (.t r cr)):Cq cx tb (.t (.BoolOp .Or [l,r] pos) (.or cl cr)):=fun H0 prog wd A Pk n e W=>CZ (j1 _ _ _ _ _ _ _ W) (j2 _ _ _ _ _ _ _ W)
theorem Cq.tIte {cx tb t l r pos ct cl cr} (j1:Cq cx tb (.t t ct)) (j2:Cq cx tb (.t l cl)) (j3:Cq cx tb (.t r cr)):Cq cx tb (.t (.IfExp t l r pos) (.ite ct cl cr)):=fun H0 prog wd A Pk n e W=>Bh (j1 _ _ _ _ _ _ _ W) (j2 _ _ _ _ _ _ _ W) (j3 _ _ _ _ _ _ _ W)
theorem Cq.tCmp {cx tb l op r pos cl cr} (hs:eM r=true) (j1:Cq cx tb (.e false l cl)) (j2:Cq cx tb (.e false r cr)):Cq cx tb (.t (.Compare l [op] [r] pos) (.cmp op cl cr)):=fun H0 prog wd A Pk n e W=>Bj W.hu (iu hs) (j1 _ _ _ _ _ _ _ W) (j2 _ _ _ _ _ _ _ W)
theorem Cq.tChain {cx tb l o1 o2 r t pos cl cr ct} (hs:eM r=true) (hs':eM t=true) (j1:Cq cx tb (.e false l cl)) (j2:Cq cx tb (.e false r cr)) (j3:Cq cx tb (.e false t ct)):Cq cx tb (.t (.Compare l [o1,o2] [r,t] pos) (.chain o1 o2 cl cr ct)):=fun H0 prog wd A Pk n e W=>xj W.hu (iu hs) (iu hs') (j1 _ _ _ _ _ _ _ W) (j2 _ _ _ _ _ _ _ W) (j3 _ _ _ _ _ _ _ W)
theorem Cq.tVal {cx tb x c} (hp:ni x=true) (j1:Cq cx tb (.e false x c)) (hv:yN c=true):Cq cx tb (.t x c):=fun H0 prog wd A Pk n e W=>by
 refine sN (zw hp) (fun st Q h=>?_) (j1 _ _ _ _ _ _ _ W)
 clear j1 hp W e n A wd prog H0;cases c<;>first|exact h|exact ft hv
theorem Cq.nil {cx tb}:Cq cx tb (.l [] .nil):=fun H0 prog wd A Pk n e W=>fun _=>BJ
theorem Cq.cons {cx tb x xs c cs} (hs:eI x=false) (j1:Cq cx tb (.e false x c)) (j2:Cq cx tb (.l xs cs)):Cq cx tb (.l (x::xs) (.cons c cs)):=fun H0 prog wd A Pk n e W=>fun pos=>z8 (rH hs) (j1 _ _ _ _ _ _ _ W) ((j2 _ _ _ _ _ _ _ W) pos)
theorem Cq.star {cx tb x ps xs c cs} (j1:Cq cx tb (.e false x c)) (j2:Cq cx tb (.l xs cs)):Cq cx tb (.l (.Starred x ps::xs) (.cons (.star c) cs)):=fun H0 prog wd A Pk n e W=>fun pos=>z7 (j1 _ _ _ _ _ _ _ W) (j2 _ _ _ _ _ _ _ W pos)
theorem Cq.oNone {cx tb}:Cq cx tb (.o none (.lit .none)):=fun H0 prog wd A Pk n e W=>fun f G s st Q p h=>wpN_pure (.now (Q:=fun x st=>Q [x] st) p (vp (x:=.none) rfl) h)
theorem Cq.oSome {cx tb x c} (j1:Cq cx tb (.e false x c)):Cq cx tb (.o (some x) c):=fun H0 prog wd A Pk n e W=>(j1 _ _ _ _ _ _ _ W)
theorem Cq.iRng {cx tb n p2 args pos c} (h:cx.sc.names.lookup n=some .globalImplicit) (hx:tb.glb.lookup n=some (.fn .range)) (hd:dbg n=false) (hp:dG args=true) (j1:Cq cx tb (.l args c)):Cq cx tb (.it (.Call (.Name n p2) args [] pos) .rng c):=fun H0 prog wd A Pk n e W=>BV W.gd.handled (by rw [W.kof];exact h) W.hgl W.hbi (CR hd) (W.T.glb _ _ hx) hp ((j1 _ _ _ _ _ _ _ W) _)
theorem Cq.iRev {cx tb n p2 a pos c} (h:cx.sc.names.lookup n=some .globalImplicit) (hx:tb.glb.lookup n=some (.fn .reversed)) (hd:dbg n=false) (hp:dG [a]=true) (j1:Cq cx tb (.l [a] c)):Cq cx tb (.it (.Call (.Name n p2) [a] [] pos) .rev c):=fun H0 prog wd A Pk n e W=>BW W.gd.handled (by rw [W.kof];exact h) W.hgl W.hbi (CR hd) (W.T.glb _ _ hx) hp ((j1 _ _ _ _ _ _ _ W) _)
theorem Cq.iLst {cx tb x c} (j1:Cq cx tb (.e false x c)):Cq cx tb (.it x .lst c):=fun H0 prog wd A Pk n e W=>BX W.gd.handled (j1 _ _ _ _ _ _ _ W)
theorem Cq.gName {cx tb n pos i} (h:cx.nm[i]? = some (some n)) (hi:cx.nm.idxOf (some n)=i) (hk:cx.sc.names.lookup n=some .local∨cx.sc.names.lookup n=some .cell):Cq cx tb (.tgt (.Name n pos) (.var i)):=fun H0 prog wd A Pk n e W=>.name (W.st h hk)
theorem Cq.gTup {cx tb es is k pos} (j1:Cq cx tb (.tgts es is)):Cq cx tb (.tgt (.Tuple es k pos) (.tup is)):=fun H0 prog wd A Pk n e W=>.tup (j1 _ _ _ _ _ _ _ W)
theorem Cq.gNil {cx tb}:Cq cx tb (.tgts [] []):=fun H0 prog wd A Pk n e W=>.nil
theorem Cq.gCons {cx tb n pos i es is} (h:cx.nm[i]? = some (some n)) (hi:cx.nm.idxOf (some n)=i) (hk:cx.sc.names.lookup n=some .local∨cx.sc.names.lookup n=some .cell) (j1:Cq cx tb (.tgts es is)):Cq cx tb (.tgts (.Name n pos::es) (i::is)):=fun H0 prog wd A Pk n e W=>.cons (W.st h hk) (j1 _ _ _ _ _ _ _ W)
theorem Cq.sNil {cx tb}:Cq cx tb (.ss [] .skip):=fun H0 prog wd A Pk n e W=>zD
theorem Cq.sCons {cx tb x xs c cs} (j1:Cq cx tb (.s x c)) (j2:Cq cx tb (.ss xs cs)):Cq cx tb (.ss (x::xs) (.seq c cs)):=fun H0 prog wd A Pk n e W=>Bo (j1 _ _ _ _ _ _ _ W) (j2 _ _ _ _ _ _ _ W)
theorem Cq.sExpr {cx tb l pos c} (hc:fC l=false) (j1:Cq cx tb (.e false l c)):Cq cx tb (.s (.Expr l pos) (.expr c)):=fun H0 prog wd A Pk n e W=>zJ hc (by rw [W.hsc];exact W.hk) (j1 _ _ _ _ _ _ _ W)
theorem Cq.sPass {cx tb pos}:Cq cx tb (.s (.Pass pos) .skip):=fun H0 prog wd A Pk n e W=>zI
theorem Cq.sBrk {cx tb pos}:Cq cx tb (.s (.Break pos) .brk):=fun H0 prog wd A Pk n e W=>Br
theorem Cq.sCont {cx tb pos}:Cq cx tb (.s (.Continue pos) .cont):=fun H0 prog wd A Pk n e W=>zK
theorem Cq.sRaise {cx tb e c pos}:Cq cx tb (.s (.Raise e c pos) .raise):=fun H0 prog wd A Pk n e W=>xu
theorem Cq.sRet {cx tb l pos c} (j1:Cq cx tb (.e false l c)):Cq cx tb (.s (.Return (some l) pos) (.ret c)):=fun H0 prog wd A Pk n e W=>Bp (j1 _ _ _ _ _ _ _ W)
theorem Cq.sRet0 {cx tb pos}:Cq cx tb (.s (.Return none pos) (.ret (.lit .none))):=fun H0 prog wd A Pk n e W=>zH
theorem Cq.sAsgN {cx tb n p2 l pos i c} (hc:fC l=false)  (j1:Cq cx tb (.tgt (.Name n p2) (.var i))) (j2:Cq cx tb (.e (cx.own.contains n) l c)):Cq cx tb (.s (.Assign [.Name n p2] l pos) (.asg (.var i) c)):=fun H0 prog wd A Pk n e W=>by
 cases (j1 _ _ _ _ _ _ _ W) with|name hs=>exact zM hc hs (j2 _ _ _ _ _ _ _ W)
theorem Cq.sAsgT {cx tb es k p2 l pos is c} (hc:fC l=false) (ht:uc l=false) (j1:Cq cx tb (.tgts es is)) (j2:Cq cx tb (.e false l c)):Cq cx tb (.s (.Assign [.Tuple es k p2] l pos) (.asg (.tup is) c)):=fun H0 prog wd A Pk n e W=>zL W.gd.handled hc ht (j1 _ _ _ _ _ _ _ W) (j2 _ _ _ _ _ _ _ W)
theorem Cq.sAsgC {cx tb n p2 elt t it ifs sc pos spos i ce tt m ik ci cc} (hsw:CN cx.sc sc n p2.line pos.line=true) (hok:AY sc cx.sc=true) (hset:eM it=true) (hm:m=(gZ sc).length) (hk:oj tt cx.nm.length=true) (j0:Cq cx tb (.tgt (.Name n p2) (.var i))) (j1:Cq cx tb (.it it ik ci)) (j2:Cq (cx.inner sc) tb (.tgt t tt)) (j3:Cq (cx.inner sc) tb (.e false elt ce)) (j4:Cq (cx.inner sc) tb (.q ifs cc)):Cq cx tb (.s (.Assign [.Name n p2] (.ListComp elt [⟨t,it,ifs,0⟩] sc pos) spos) (.asg (.var i) (.comp false ce tt m ik ci cc))):=fun H0 prog wd A Pk n e W=>by
 have ok:=uW hok
 clear hok;cases j0 _ _ _ _ _ _ _ W with
 |name hs=>
  exact tW (uM (by rw [W.hsc];exact W.hk) (by rw [W.hsc];exact hsw)) hs W.gd.handled (by rw [W.hsc];exact ok) hset hm (j1 _ _ _ _ _ _ _ W) (fun C=>j2 _ _ _ _ _ _ _ (W.inner ok C)) hk
   (fun C=>j3 _ _ _ _ _ _ _ (W.inner ok C)) (fun C=>j4 _ _ _ _ _ _ _ (W.inner ok C))
theorem Cq.sAug {cx tb n p2 op l pos i c} (hop:(op==.Add||op==.Sub||op==.Mult||op==.BitAnd)=true) (hd:dbg n=false)  (j1:Cq cx tb (.tgt (.Name n p2) (.var i))) (j2:Cq cx tb (.e false l c)):Cq cx tb (.s (.AugAssign (.Name n p2) op l pos) (.aug i op c)):=fun H0 prog wd A Pk n e W=>by
 cases (j1 _ _ _ _ _ _ _ W) with
 |name hs=>exact Bs (by clear j1;cases op<;>first|(exact .inl rfl)|(exact .inr (.inl rfl))|(exact .inr (.inr (.inl rfl)))|(exact .inr (.inr (.inr rfl)))|exact ft hop) hs (DW hd) (j2 _ _ _ _ _ _ _ W)
theorem Cq.sSetA {cx tb o n p2 l pos co i c} (hc:fC l=false) (ht:uc l=false) (hi:tb.at_.lookup n=some i) (j1:Cq cx tb (.e false o co)) (j2:Cq cx tb (.e true l c)):Cq cx tb (.s (.Assign [.Attribute o n p2] l pos) (.setA co i c)):=fun H0 prog wd A Pk n e W=>zG (W.T.set _ _ hi) hc ht (j2 _ _ _ _ _ _ _ W) (j1 _ _ _ _ _ _ _ W)
theorem Cq.sSetS {cx tb o lo hi p3 p2 l pos co clo chi c} (hc:fC l=false) (j1:Cq cx tb (.e false o co)) (j2:Cq cx tb (.o lo clo)) (j3:Cq cx tb (.o hi chi)) (j4:Cq cx tb (.e false l c)):Cq cx tb (.s (.Assign [.Subscript o (.Slice lo hi none p3) p2] l pos) (.setS co clo chi c)):=fun H0 prog wd A Pk n e W=>zE hc W.gd.guards (j4 _ _ _ _ _ _ _ W) (j1 _ _ _ _ _ _ _ W) (j2 _ _ _ _ _ _ _ W) (j3 _ _ _ _ _ _ _ W)
theorem Cq.sSetI {cx tb o i p2 l pos co ci c} (hc:fC l=false) (hs:jH i=true) (j1:Cq cx tb (.e false o co)) (j2:Cq cx tb (.e false i ci)) (j3:Cq cx tb (.e false l c)):Cq cx tb (.s (.Assign [.Subscript o i p2] l pos) (.setI co ci c)):=fun H0 prog wd A Pk n e W=>zF W.hu hc (j3 _ _ _ _ _ _ _ W) (j1 _ _ _ _ _ _ _ W) (j2 _ _ _ _ _ _ _ W)
theorem Cq.sIf {cx tb t a b pos ct sa sb} (j1:Cq cx tb (.t t ct)) (j2:Cq cx tb (.ss a sa)) (j3:Cq cx tb (.ss b sb)):Cq cx tb (.s (.If t a b pos) (.ite ct sa sb)):=fun H0 prog wd A Pk n e W=>C5 (j1 _ _ _ _ _ _ _ W) (j2 _ _ _ _ _ _ _ W) (j3 _ _ _ _ _ _ _ W)
theorem Cq.sWhl {cx tb t a pos ct sa} (j1:Cq cx tb (.t t ct)) (j2:Cq cx tb (.ss a sa)):Cq cx tb (.s (.While t a [] pos) (.whl ct sa)):=fun H0 prog wd A Pk n e W=>xt (j1 _ _ _ _ _ _ _ W) (j2 _ _ _ _ _ _ _ W)
theorem Cq.sFor {cx tb t it a pos tt ik ci sa} (hs:eM it=true) (j1:Cq cx tb (.tgt t tt)) (j2:Cq cx tb (.it it ik ci)) (j3:Cq cx tb (.ss a sa)):Cq cx tb (.s (.For t it a [] pos) (.forIn tt ik ci sa)):=fun H0 prog wd A Pk n e W=>Bq W.gd.handled hs (j1 _ _ _ _ _ _ _ W) (j2 _ _ _ _ _ _ _ W) (j3 _ _ _ _ _ _ _ W)
theorem Cq.sAssert {cx tb t m pos ct} (j1:Cq cx tb (.t t ct)):Cq cx tb (.s (.Assert t m pos) (.assert ct)):=fun H0 prog wd A Pk n e W=>uT (j1 _ _ _ _ _ _ _ W)
theorem C3 {H0:Heap} {prog:Program} {wd:World} {A:Around} {e:Env} {cx:Cx} {tb:Tb} {Pk:Pg} {n:Nat} (hP:wU H0 prog wd n Pk) (hF:ux H0 Pk) (gd:p6 n A) (hsm:∃b o,sysModules≤b∧H0.get? b=some o) (T:CG H0 prog wd tb)
  (hsc:e.scope=cx.sc) (hk:cx.sc.kind=.function) (hgl:e.globals=mainGlobals) (hbi:e.builtins=builtinsNs) {j:J} (h:Cq cx tb j):DY H0 prog wd A e cx.nm Pk j:=h _ _ _ _ _ _ _ ⟨hP,hF,gd,hsm,T,hsc,hk,hgl,hbi⟩
end
section
open PySem PySem.W PySem.Calls PyProof.Rows Builtin Builtin.ObjectAttr Builtin.Getset_descriptor
section
variable {prog:Program} {wd:World} {A:Around} {H0:Heap} {K:Frag} {s:Shared}
theorem nD {h:Heap} {a c dx:Addr} {sl:Array (Option Value)} (h1:h.get? a=some (kX c dx sl)) (h2:h.get? dx=some emptyDict):InstAt h a (kX c dx sl) c (some emptyDict):=⟨h1,rfl,rfl,h2⟩
noncomputable def jD (K:Frag) (c:Addr) (nme:Str) (k:Nat):Bool:=
 findIn K (.ref c) "__getattribute__" == some (some (.builtin "object.__getattribute__"))&&findIn K (.ref c) "__getattr__" == some none &&
 findIn K (.ref c) "__setattr__" == some (some (.builtin "object.__setattr__"))&&plainOver K c &&
 (match findObj K c (some emptyDict) nme with|some (.bind (.builtin g) (.ref p))=>g == "member_descriptor.__get__" && slotIn K p c==some k&&takerIn K c nme==some (some (.ref p))&&typeIn K (.ref p)==some (.type "member_descriptor")|_=>false)&&decide (k<1000)
theorem qp (X:K.In H0) {c:Addr} {nme:Str} {k:Nat} (h:jD K c nme k=true):wY H0 prog wd nme c k:=by
 unfold jD at h
 simp only [Bool.and_eq_true,beq_iff_eq,decide_eq_true_eq] at h
 obtain ⟨⟨⟨⟨⟨h1,h2⟩,h3⟩,h4⟩,h5⟩,h6⟩:=h
 split at h5
 ·rename_i g p hf
  simp only [Bool.and_eq_true,beq_iff_eq] at h5
  clear h6 h4 h3;obtain ⟨⟨⟨rfl,h7⟩,h8⟩,h9⟩:=h5
  intro A s a dx sl v Q hk ha hd hv hh hQ
  have Xs:K.In s.heap:=X.keeps hk
  refine cQ (get_bind Xs (nD ha hd) h1 hf h2 ?_)
  refine wpAny_call (slot_get (s:={s with toks:=s.toks+1}) Xs (nD ha hd) h7 hv ?_)
  exact handed_on hh (hQ _)
 ·exact ft h5
theorem uQ {x c:Addr} {ox:Obj} {od:Option Obj} {v:Value} {p i:Nat} {R:Result→Shared→Prop} (X:K.In s.heap) (I:InstAt s.heap x ox c od) (hp:slotIn K p c=some i) (hi:i<1000)
  (h:R (.ok (.ret .none)) {s with heap:=s.heap.update x fun o=>{o with slots:=(o.slots++Array.replicate (i+1-o.slots.size) none).setIfInBounds i (some v)}}) :
  codeAny (model prog wd) A (.call (.builtin "member_descriptor.__set__") ⟨[.ref p, .ref x,v],[]⟩) R s:=by
 obtain ⟨n,tn,owner,behind,tb,d,sl,cd,ho,hc,hm,hb,rfl⟩:=slot_of X hp
 clear hp;obtain ⟨hh,g,dr,t,os⟩:=s
 have L0:=I.type (M:=model prog wd)
 have L1:=looks_mroIn (M:=model prog wd) X hm
 have L2:Looks (model prog wd) hh (Slots.slotNamesOf (.ref c)) cd.slotNames:=(looks_clsIn X hc).andThen .now
 have hx:=I.at_
 dsimp only at ho hx L0 L1
 have f0:=looks_field (M:=model prog wd) ho 0 (v:=.str n tn) rfl
 have f1:=looks_field (M:=model prog wd) ho 1 (v:=owner) rfl
 have f3:=looks_field (M:=model prog wd) ho 3 (v:=.builtin "proto.slot#set") rfl
 have f4:=looks_field (M:=model prog wd) ho 4 (v:=.int behind tb) rfl
 refine codeAny_call_builtin KF.slot_mset.plain KF.entry_mset (KF.slot_mset.check _ _ _ _ _ _ _ _ ⟨_,ho,rfl⟩ (KF.args_mset _ _ _) ?_)
 unfold Builtin.«member_descriptor.__set__» descrSet descrStoreThrough descrCheckInstance descrNameAndClass isInstance
 have f5:Looks (model prog wd) hh (descrItself (.ref p)) [.ref p]:=((Looks.ld (part:=none) ho).andThen .now).andThen (Looks.of_pure (by kernel_rfl))
 repeat lk
 refine ⟨Code.quiet_builtin _ (by decide +kernel),codeAny_builtin KF.entry_slotset ?_⟩
 unfold Builtin.«proto.slot#set» Slots.target
 repeat lk
 rw [if_neg hb]
 refine wpAny_pure (wpAny_bind ?_)
 unfold setSlotAt
 dsimp only
 rw [if_neg (by rw [sizeLine_eq];exact Nat.not_le.mpr (cT [] [_] a8 aq 1 [.j 1 a8 aI] rfl hi))]
 exact wpAny_updatePart hx (wpAny_pure h)
theorem qn (X:K.In H0) {c:Addr} {nme:Str} {k:Nat} (h:jD K c nme k=true):wQ H0 prog wd nme c k:=by
 unfold jD at h
 simp only [Bool.and_eq_true,beq_iff_eq,decide_eq_true_eq] at h
 obtain ⟨⟨⟨⟨⟨h1,h2⟩,h3⟩,h4⟩,h5⟩,h6⟩:=h
 split at h5
 ·rename_i g p hf
  simp only [Bool.and_eq_true,beq_iff_eq] at h5
  clear h2 h1;obtain ⟨⟨⟨rfl,h7⟩,h8⟩,h9⟩:=h5
  intro A s a dx sl v Q hk ha hd hQ
  have Xs:K.In s.heap:=X.keeps hk
  refine cQ (set_plain Xs (nD ha hd) h3 ?_)
  refine osa_descr (s:={s with toks:=s.toks+1}) KF.slot_mset Xs (nD ha hd) h4 h8 h9 ?_
  refine uQ (s:={s with toks:=s.toks+1}) Xs (nD ha hd) h7 h6 ?_
  exact hQ _ _ (Heap.get?_update_self _ ha rfl) (Heap.SameBut.update ..)
 ·exact ft h5
noncomputable def mB (K:Frag) (c:Addr) (nme:Str) (fa:Addr):Bool:=
 findIn K (.ref c) "__getattribute__" == some (some (.builtin "object.__getattribute__"))&&findIn K (.ref c) "__getattr__" == some none &&
 findIn K (.ref c) nme==some (some (.ref fa))&&typeIn K (.ref fa)==some (.type "function")
theorem rP (X:K.In H0) {c fa:Addr} {nme:Str} (h:mB K c nme fa=true):zi H0 prog wd nme c fa:=by
 unfold mB at h
 simp only [Bool.and_eq_true,beq_iff_eq] at h
 obtain ⟨⟨⟨h1,h2⟩,h3⟩,h4⟩:=h
 intro A s a dx sl pl Q hk ha hd hQ
 exact cQ (method_fn (X.keeps hk) (nD ha hd) h1 h2 h3 h4 rfl hQ)
noncomputable def Bf:Value→Tok|.int _ t=>t|.str _ t=>t|.bytes _ t=>t|_=>0
noncomputable def relV (x:P) (t:Tok):Option Value:=match x with
 |.none=>some .none
 |.bool b=>some (.bool b)
 |.int i=>some (.int i t)
 |.str s=>some (.str s t)
 |.fn b=>some b.val
 |.st a=>some (.ref a)
 |_=>none
noncomputable def yR (x:P) (v:Value):Bool:=relV x (Bf v)==some v
theorem na {g:Gm} {x:P} {v:Value} (h:yR x v=true):PRel g x v:=by
 have h:=eq_of_beq h
 cases x with
 |none=>exact (Option.some.inj h).symm
 |bool b=>exact (Option.some.inj h).symm
 |int i=>exact ⟨_,(Option.some.inj h).symm⟩
 |str s=>exact ⟨_,(Option.some.inj h).symm⟩
 |fn b=>exact (Option.some.inj h).symm
 |st a=>exact (Option.some.inj h).symm
 |_=>exact ns h
noncomputable def my (K:Frag) (c:Addr) (nme:Str) (x:P):Bool:=
 readsIn K c (.type "type")&&(match findCls K (.ref c) (.type "type") nme with|some (.val v)=>yR x v&&handedIn v|_=>false)
theorem rG (X:K.In H0) {c:Addr} {nme:Str} {x:P} (h:my K c nme x=true):wX H0 prog wd nme c x:=by
 unfold my at h
 simp only [Bool.and_eq_true] at h
 refine e0b h fun h1 h2=>?_
 split at h2
 ·rename_i v hf
  simp only [Bool.and_eq_true] at h2
  intro A s Q hk hQ
  exact cQ (cls_value (X.keeps hk) h1 hf h2.2 (hQ v _ (na h2.1)))
 ·exact ft h2
noncomputable def rW (K:Frag) (C:Addr) (name:Str):Bool:=readsIn K C (.type "type")&&findIn K (.type "type") name==some none&&findIn K (.ref C) name==some (some (.type "int"))&&findIn K (.type "type") "__get__" == some none &&
 findIn K (.type "type") "__getattribute__" == some (some (.builtin "type.__getattribute__"))&&specialIn K (.ref C) "__getattribute__" == some (some (.builtin "type.__getattribute__"))
theorem rE {M:Model} {h:Heap}:Looks M h (typeOf (.type "int")) (.type "type"):=Looks.of_pure (by refine (?_:(pure (.type ((Manifest.find? "int").elim "type" (·.metatype))):Sem Value)=_);rw [show (Manifest.find? "int").elim "type" (·.metatype) = "type" by kernel_rfl])
theorem zv {C:Addr} {name:Str} {tk:Tok} {E:Value→Shared→Prop} {Q:Fin→Shared→Prop} (X:K.In s.heap) (ho:Looks (model prog wd) s.heap (opaqueClassAbove (.ref C)) none) (ht:Looks (model prog wd) s.heap (typeOf (.ref C)) (.type "type"))
 (h1:findIn K (.type "type") name=some none) (h4:findIn K (.ref C) name=some (some (.type "int"))) (h6:findIn K (.type "type") "__get__" = some none) (h:Q (.done (.ret (.type "int"))) s) :
 wpAny (model prog wd) A (Builtin.«type.__getattribute__» ⟨[.ref C, .str name tk],[]⟩) Q E s:=by
 obtain ⟨hh,g,d,t,os⟩:=s
 have L1:=looks_findIn (M:=model prog wd) X h1
 have L4:=looks_findIn (M:=model prog wd) X h4
 have L5:=rE (M:=model prog wd) (h:=hh)
 have L6:Looks (model prog wd) hh (specialOf (.type "int") "__get__") none:=L5.andThen (looks_findIn X h6)
 unfold Builtin.«type.__getattribute__»
 refine wpAny_bind (wpAny_pure (wpAny_bind (ho.at (wpAny_bind (ht.at (wpAny_bind (L1.at (wpAny_bind (wpAny_pure ?_)))))))))
 refine wpAny_bind (L4.at ?_)
 dsimp only
 rw [if_neg (show ¬(heldUnderItsOwnName name (.type "int")=true) from fun q=>ft q)]
 refine wpAny_bind (L5.at ?_)
 rw [if_neg (by decide +kernel)]
 refine wpAny_bind (L6.at ?_)
 exact wpAny_bind (wpAny_pure (wpAny_pure h))
theorem ud (X:K.In H0) {c:Addr} {nme:Str} (h:rW K c nme=true):wW H0 prog wd nme c (.fn .int):=by
 unfold rW readsIn at h
 simp only [Bool.and_eq_true,beq_iff_eq] at h
 obtain ⟨⟨⟨⟨⟨⟨⟨⟨⟨a,b⟩,c'⟩,d⟩,f⟩,h1⟩,h4⟩,h6⟩,hga⟩,h0⟩:=h
 clear c';obtain ⟨hk,d⟩:=Option.isSome_iff_exists.mp d
 intro A s pl Q hkeep hQ
 have Xs:K.In s.heap:=X.keeps hkeep
 refine cQ (method_cls Xs h0 ?_)
 have ht:=looks_typeIn (M:=model prog wd) Xs b
 refine wpAny_bind (wpAny_mkText (wpAny_holding (wpAny_bind (ht _ _ _ _ (fun _ _ e=>e) (wpAny_bind (looks_findIn Xs hga _ _ _ _ (fun _ _ e=>e) ?_))))))
 dsimp only
 rw [show (onTheHeap (Value.type "type")&&Value.builtin "type.__getattribute__" == Value.builtin "object.__getattribute__")=false from rfl,if_neg (by decide)]
 refine wpAny_bind (looks_hook Xs d _ _ _ _ (fun _ _ e=>e) (wpAny_bind (wpAny_attempt (wpAny_holding ?_))))
 unfold callGetattribute
 rw [show ((false:Bool)&&onTheHeap (Value.builtin "type.__getattribute__"))=false from rfl,if_neg (by decide)]
 unfold boundAndCalled
 rw [KF.slot_tga.bind]
 refine wpAny_bind (wpAny_pure ?_)
 show wpAny _ _ (_root_.PySem.call (.builtin "type.__getattribute__") [.ref c, .str nme s.toks]) _ _ _
 refine wpAny_call ?_
 refine codeAny_call_builtin KF.slot_tga.plain KF.entry_tga ?_
 refine @check_slot (model prog wd) _ _ {s with toks:=s.toks+1} "type.__getattribute__" "type" "__getattribute__" (.ref c) [.str nme s.toks] [] _ (by decide +kernel) (by decide +kernel) (ht.andThen (looks_subIn Xs f)) (KF.args_tga (.ref c) (.str nme s.toks)) ?_
 refine zv (s:={s with toks:=s.toks+1}) Xs (looks_opaque Xs a) ht h1 h4 h6 ?_
 exact wpAny_pure (hQ (.type "int") _ rfl)
noncomputable def pW (K:Frag) (c:Addr) (nme:Str) (fa:Addr):Bool:=
 findIn K (.ref c) "__getattribute__" == some (some (.builtin "object.__getattribute__"))&&findIn K (.ref c) "__getattr__" == some none &&
 (match findObj K c (some emptyDict) nme with|some (.bind (.builtin g) (.ref p))=>g == "function.__get__" && p==fa|_=>false)&&typeIn K (.ref fa)==some (.type "function") &&
 (match K.lookup fa with|some ⟨_,_, .func _,_⟩=>true|_=>false)
theorem up (X:K.In H0) {c fa:Addr} {nme:Str} (h:pW K c nme fa=true):CI H0 prog wd nme c fa∧∃o fd,H0.get? fa=some o∧o.data=.func fd:=by
 unfold pW at h
 simp only [Bool.and_eq_true,beq_iff_eq] at h
 obtain ⟨⟨⟨⟨h1,h2⟩,h3⟩,h4⟩,h5⟩:=h
 refine ⟨?_,?_⟩
 ·split at h3
  ·rename_i g p hf
   simp only [Bool.and_eq_true,beq_iff_eq] at h3
   refine e0b h3 fun zq0 zq1=>?_;clear h3;subst zq0 zq1
   intro A s a dx sl Q hk ha hd hQ
   have Xs:K.In s.heap:=X.keeps hk
   refine cQ (get_bind Xs (nD ha hd) h1 hf h2 ?_)
   exact wpAny_call (fn_get (s:={s with toks:=s.toks+1}) Xs h4 (handed_on rfl (hQ _)))
  ·exact ft h3
 ·split at h5
  ·rename_i fd _ hl;exact ⟨_,fd,X _ _ hl,rfl⟩
  ·exact ft h5
noncomputable def jK (K:Frag) (n:Str) (x:P):Bool:=match nsIn K mainGlobals n with
 |some (some v)=>yR x v
 |some none=>n != "__name__" && (match bootBuiltins n with|some v=>yR x v|none=>false)
 |none=>false
theorem r5 (X:K.In H0) {mg mb:Str→Option Value} (hg:H0.Ns mainGlobals mg) (hb:H0.Ns builtinsNs mb) (hbb:∀x:Str,x≠"__name__"→mb x=bootBuiltins x) {n:Str} {x:P} (h:jK K n x=true):rp H0 n x:=by
 unfold jK at h
 split at h
 ·rename_i v hv
  exact ⟨mg,mb,v,hg,hb, .inl (mg_of X hg hv),na h⟩
 ·rename_i hv
  simp only [Bool.and_eq_true] at h
  refine e0b h fun h1 h2=>?_
  split at h2
  ·rename_i v hv2
   have hn:n≠"__name__":=by simpa using h1
   exact ⟨mg,mb,v,hg,hb, .inr ⟨mg_none_of X hg hv,(hbb n hn).trans hv2⟩,na h2⟩
  ·exact ft h2
 ·exact ft h
noncomputable def pI:Data→Option (Array Value)|.fields vs=>some vs|_=>none
theorem r9 {d:Data} {vs:Array Value} (h:pI d=some vs):d=.fields vs:=by
 cases d<;>first|(cases h;rfl)|cases h
noncomputable def nE (K:Frag) (S:Addr) (F:Fm):Bool:=match K.lookup S with
 |some o=>o.cls==.type "_struct.Struct" && o.dict==none&&o.slots==#[]&&pI o.data==some #[.bytes F.fmt ((pI o.data).elim 0 fun vs=>Bf (vs.getD 0 .none))]
 |none=>false
theorem uf {K:Frag} {H0:Heap} (X:K.In H0) {S:Addr} {F:Fm} (h:nE K S F=true):mJ H0 S F:=by
 unfold nE at h
 cases q:K.lookup S with
 |none=>rw [q] at h;exact ft h
 |some o=>
  rw [q] at h
  refine e0b (Bool.and_eq_true_iff.mp h) fun h h4=>?_
  refine e0b (Bool.and_eq_true_iff.mp h) fun h h3=>?_
  refine e0b (Bool.and_eq_true_iff.mp h) fun h1 h2=>?_
  obtain ⟨c,d,x,sl⟩:=o
  cases eq_of_beq h1
  cases eq_of_beq h2
  cases eq_of_beq h3
  obtain ⟨t,ht⟩:∃t,x=.fields #[.bytes F.fmt t]:=⟨_,r9 (eq_of_beq h4)⟩
  clear h h4 h2 h1 h3;subst ht
  exact ⟨t,X _ _ q⟩
end
end
section
noncomputable def A4 (K:Frag) (fa:Addr):Option FuncData:=match K.lookup fa with
 |some ⟨_,_, .func fd,_⟩=>some fd
 |_=>none
noncomputable def wF:FuncBody→List Stmt|.stmts b=>b|.expr _=>[]
noncomputable def Ac:FuncBody→Bool|.stmts _=>true|.expr _=>false
noncomputable def pO (K:Frag) (c:Value) (q:Str):Bool:=match c with
 |.ref a=>(match K.lookup a with|some ⟨_,_, .fields vs,_⟩=>(match vs.toList with|_::.str s _::_=>s==q|_=>false)|_=>false)
 |_=>false
theorem sk {K:Frag} {H0:Heap} (X:K.In H0) {c:Value} {q:Str} (h:pO K c q=true):H0.CodeRec c q:=by
 unfold pO at h
 split at h
 ·rename_i a
  split at h
  ·rename_i cl d vs sl hl
   split at h
   ·rename_i x s t r hv
    have hs:s=q:=by simpa using h
    subst hs
    refine ⟨a,_,vs,t,rfl,X _ _ hl,rfl,?_⟩
    rw [←Array.getElem?_toList,hv];rfl
   ·exact ft h
  ·exact ft h
 ·exact ft h
noncomputable def tz (K:Frag) (fa:Addr) (pn ln:List Str):Bool:=match A4 K fa with
 |some fd=>Ac fd.body&&fd.closure.isEmpty&&pO K fd.code fd.qualname&&fd.globals==mainGlobals&&fd.builtins==builtinsNs&&!fd.scope.isCoroutine&&!fd.scope.isGenerator&&(fd.scope.kind==.function)&&decide ((pn++ln).Nodup) &&
   pn.all fun n=>fd.scope.names.lookup n==some .local||fd.scope.names.lookup n==some .cell
 |none=>false
theorem qJ {K:Frag} {H0:Heap} (X:K.In H0) {fa:Addr} {pn ln:List Str} {fd:FuncData} (hf:A4 K fa=some fd) (h:tz K fa pn ln=true):D0 H0 fa fd (wF fd.body) pn ln:=by
 unfold tz at h
 rw [hf] at h
 simp only [Bool.and_eq_true,beq_iff_eq,Bool.not_eq_true',decide_eq_true_eq,List.all_eq_true,Bool.or_eq_true,List.isEmpty_iff] at h
 obtain ⟨⟨⟨⟨⟨⟨⟨⟨⟨h1,h2⟩,h3⟩,h4⟩,h5⟩,h6⟩,h7⟩,h8⟩,h9⟩,h10⟩:=h
 refine ⟨?_,?_,h2,sk X h3,h4,h5,h6,h7,h8,h9,h10⟩
 ·unfold A4 at hf
  split at hf
  ·rename_i hl;clear h10 h9 h8 h7 h6 h5 h4 h3 h2;obtain rfl:=sj hf;exact ⟨_,X _ _ hl,rfl⟩
  ·exact ns hf
 ·clear hf fa X H0 h10 h9 h8 h7 h6 h5 h4 h3 h2;cases hb:fd.body with
  |stmts b=>rfl
  |expr x=>rw [hb] at h1;exact ft h1
noncomputable def db (k:Nat):List V→List (Str × P)→Option (List V):=fun args kws=>match kws with
 |[]=>(match args.length==k with|true=>some args|false=>none)
 |_=>none
end
section
noncomputable def CW (tb:Tb) (cx:Cx) (md:Bool) (n:Str) (pos:Pos):Option {c:C // Cq cx tb (.e md (.Name n pos) c)}:=
 if hd:dbg n=false then
  if h:cx.nm[cx.nm.idxOf (some n)]? = some (some n) then some ⟨.var (cx.nm.idxOf (some n)), .var h rfl hd⟩
  else if h:cx.sc.names.lookup n=some .globalImplicit then match hx:tb.glb.lookup n with|some x=>some ⟨.glob x, .glob h hx hd⟩|none=>none
  else none
 else none
noncomputable def xk (tb:Tb) (cx:Cx) (n:Str) (pos:Pos):Option {i:Nat // Cq cx tb (.tgt (.Name n pos) (.var i))}:=
 if h:cx.nm[cx.nm.idxOf (some n)]? = some (some n) then
  if hk:cx.sc.names.lookup n=some .local∨cx.sc.names.lookup n=some .cell then some ⟨_, .gName h rfl hk⟩ else none
 else none
noncomputable def CY (tb:Tb) (cx:Cx):(xs:List PySem.Expr)→Option {is:List Nat // Cq cx tb (.tgts xs is)}
 |[]=>some ⟨[], .gNil⟩
 |.Name n pos::es=>
  if h:cx.nm[cx.nm.idxOf (some n)]? = some (some n) then
   if hk:cx.sc.names.lookup n=some .local∨cx.sc.names.lookup n=some .cell then
    match CY tb cx es with|some ⟨is,hi⟩=>some ⟨_, .gCons h rfl hk hi⟩|none=>none
   else none
  else none
 |_=>none
noncomputable def trG (tb:Tb) (cx:Cx):(x:PySem.Expr)→Option {t:T // Cq cx tb (.tgt x t)}
 |.Name n pos=>match xk tb cx n pos with|some ⟨i,h⟩=>some ⟨.var i,h⟩|none=>none
 |.Tuple es k pos=>match CY tb cx es with|some ⟨is,h⟩=>some ⟨.tup is, .gTup h⟩|none=>none
 |_=>none
structure TR (tb:Tb) where
 e:(cx:Cx)→(md:Bool)→(x:PySem.Expr)→Option {c:C // Cq cx tb (.e md x c)}
 t:(cx:Cx)→(x:PySem.Expr)→Option {c:C // Cq cx tb (.t x c)}
 l:(cx:Cx)→(xs:List PySem.Expr)→Option {c:C // Cq cx tb (.l xs c)}
 o:(cx:Cx)→(x:Option PySem.Expr)→Option {c:C // Cq cx tb (.o x c)}
 q:(cx:Cx)→(xs:List PySem.Expr)→Option {c:C // Cq cx tb (.q xs c)}
 it:(cx:Cx)→(x:PySem.Expr)→Option {c:It × C // Cq cx tb (.it x c.1 c.2)}
 r:(cx:Cx)→(x:PySem.Expr)→Option {c:It × C // Cq cx tb (.it x c.1 c.2)}
 s:(cx:Cx)→(x:Stmt)→Option {c:S // Cq cx tb (.s x c)}
 ss:(cx:Cx)→(xs:List Stmt)→Option {c:S // Cq cx tb (.ss xs c)}
noncomputable def trE1 (tb:Tb) (R:TR tb):(cx:Cx)→(md:Bool)→(x:PySem.Expr)→Option {c:C // Cq cx tb (.e md x c)}
 |cx,md, .Constant .none k pos=>some ⟨_, .cNone⟩
 |cx,md, .Constant (.bool b) k pos=>some ⟨_, .cBool⟩
 |cx,md, .Constant (.int b) k pos=>some ⟨_, .cInt⟩
 |cx,md, .Constant (.str b) k pos=>some ⟨_, .cStr⟩
 |cx,md, .Constant (.bytes b) k pos=>some ⟨_, .cBytes⟩
 |cx,md, .Name n pos=>CW tb cx md n pos
 |cx,md, .BinOp (.List x p2) .Mult r pos=>match R.e cx false (.List x p2),R.e cx false r with|some ⟨_,h1⟩,some ⟨_,h2⟩=>some ⟨_, .repl h1 h2⟩|_,_=>none
 |cx,md, .BinOp l op r pos=>match R.e cx false l,R.e cx false r with|some ⟨_,h1⟩,some ⟨_,h2⟩=>some ⟨_, .bin h1 h2⟩|_,_=>none
 |cx,md, .UnaryOp .USub l pos=>match R.e cx false l with|some ⟨_,h1⟩=>some ⟨_, .neg h1⟩|_=>none
 |cx,md, .UnaryOp .Invert l pos=>match R.e cx false l with|some ⟨_,h1⟩=>some ⟨_, .inv h1⟩|_=>none
 |cx,md, .UnaryOp .Not l pos=>match R.e cx false l with|some ⟨_,h1⟩=>some ⟨_, .not h1⟩|_=>none
 |cx,md, .BoolOp .And [l,r] pos=>match R.e cx false l,R.e cx false r with|some ⟨_,h1⟩,some ⟨_,h2⟩=>some ⟨_, .and h1 h2⟩|_,_=>none
 |cx,md, .BoolOp .Or [l,r] pos=>match R.e cx false l,R.e cx false r with|some ⟨_,h1⟩,some ⟨_,h2⟩=>some ⟨_, .or h1 h2⟩|_,_=>none
 |cx,md, .Compare l [op] [r] pos=>if hs:eM r=true then match R.e cx false l,R.e cx false r with|some ⟨_,h1⟩,some ⟨_,h2⟩=>some ⟨_, .cmp hs h1 h2⟩|_,_=>none else none
 |cx,md, .Compare l [o1,o2] [r,t] pos=>if hs:eM r=true then if hs':eM t=true then
   match R.e cx false l,R.e cx false r,R.e cx false t with|some ⟨_,h1⟩,some ⟨_,h2⟩,some ⟨_,h3⟩=>some ⟨_, .chain hs hs' h1 h2 h3⟩|_,_,_=>none else none else none
 |cx,md, .IfExp t l r pos=>match R.t cx t,R.e cx false l,R.e cx false r with|some ⟨_,h0⟩,some ⟨_,h1⟩,some ⟨_,h2⟩=>some ⟨_, .ite h0 h1 h2⟩|_,_,_=>none
 |cx,md, .Attribute o a pos=>if hs:fq o=true then match hi:tb.at_.lookup a with
  |some i=>match R.e cx false o with|some ⟨_,h1⟩=>some ⟨_, .attr hi hs h1⟩|_=>none
  |none=>none
  else none
 |cx,md, .Subscript l (.Slice lo hi sp p2) pos=>match R.e cx false l,R.o cx lo,R.o cx hi,R.o cx sp with|some ⟨_,h1⟩,some ⟨_,h2⟩,some ⟨_,h3⟩,some ⟨_,h4⟩=>some ⟨_, .slc h1 h2 h3 h4⟩|_,_,_,_=>none
 |cx,md, .Subscript l r pos=>if hs:jH r=true then match R.e cx false l,R.e cx false r with|some ⟨_,h1⟩,some ⟨_,h2⟩=>some ⟨_, .idx hs h1 h2⟩|_,_=>none else none
 |cx,md, .Tuple es k pos=>match R.l cx es with|some ⟨_,h1⟩=>some ⟨_, .tup h1⟩|_=>none
 |cx,md, .List es pos=>match R.l cx es with|some ⟨_,h1⟩=>some ⟨_, .lst h1⟩|_=>none
 |cx,md, .Call (.Name f p2) args [] pos=>if hp:dG args=true then match R.e cx false (.Name f p2),R.l cx args with|some ⟨_,h1⟩,some ⟨_,h2⟩=>some ⟨_, .call hp h1 h2⟩|_,_=>none else none
 |cx,md, .Call (.Attribute o a apos) args [] pos=>if hs:fq o=true then match hm:tb.me.lookup a with
  |some m=>match R.e cx false o,R.l cx args with
   |some ⟨_,h1⟩,some ⟨_,h2⟩=>
    if hp:dG args=true then if hl:decide (args.length<29)=true then if hn:(apos.endLine==pos.line)=true then some ⟨_, .meth hm hs hp hl hn h1 h2⟩ else none else none
    else if hst:mz args=true then if hbd:m.bd=true then some ⟨_, .methS hm hbd hs hst h1 h2⟩ else none else none
   |_,_=>none
  |none=>none
  else none
 |cx,md, .Call (.Attribute o a apos) args [⟨some kn,k,kp⟩] pos=>if hs:fq o=true then match hm:tb.me.lookup a with
  |some m=>match R.e cx false o,R.l cx args,R.e cx false k with
   |some ⟨_,h1⟩,some ⟨_,h2⟩,some ⟨_,h3⟩=>
    if hp:dG args=true then if hl:decide (args.length<28)=true then if hn:(apos.endLine==pos.line)=true then some ⟨_, .methK hm hs hp hl hn h1 h2 h3⟩ else none else none else none
   |_,_,_=>none
  |none=>none
  else none
 |cx,md, .Dict [] [] pos=>some ⟨_, .dict0⟩
 |cx,md, .ListComp elt [⟨t,it,ifs,0⟩] sc pos=>if hok:AY sc cx.sc=true then if hset:eM it=true then
   match R.it cx it,trG tb (cx.inner sc) t,R.e (cx.inner sc) false elt,R.q (cx.inner sc) ifs with
   |some ⟨_,h1⟩,some ⟨tt,h2⟩,some ⟨_,h3⟩,some ⟨_,h4⟩=>if hk:oj tt cx.nm.length=true then some ⟨_, .comp hok hset rfl hk h1 h2 h3 h4⟩ else none
   |_,_,_,_=>none
  else none else none
 |_,_,_=>none
noncomputable def trT1 (tb:Tb) (R:TR tb):(cx:Cx)→(x:PySem.Expr)→Option {c:C // Cq cx tb (.t x c)}
 |cx, .Constant (.bool b) k pos=>some ⟨_, .tTrue⟩
 |cx, .UnaryOp .Not l pos=>match R.t cx l with|some ⟨_,h1⟩=>some ⟨_, .tNot h1⟩|_=>none
 |cx, .BoolOp .And [l,r] pos=>match R.t cx l,R.t cx r with|some ⟨_,h1⟩,some ⟨_,h2⟩=>some ⟨_, .tAnd h1 h2⟩|_,_=>none
 |cx, .BoolOp .Or [l,r] pos=>match R.t cx l,R.t cx r with|some ⟨_,h1⟩,some ⟨_,h2⟩=>some ⟨_, .tOr h1 h2⟩|_,_=>none
 |cx, .IfExp t l r pos=>match R.t cx t,R.t cx l,R.t cx r with|some ⟨_,h0⟩,some ⟨_,h1⟩,some ⟨_,h2⟩=>some ⟨_, .tIte h0 h1 h2⟩|_,_,_=>none
 |cx, .Compare l [op] [r] pos=>if hs:eM r=true then match R.e cx false l,R.e cx false r with|some ⟨_,h1⟩,some ⟨_,h2⟩=>some ⟨_, .tCmp hs h1 h2⟩|_,_=>none else none
 |cx, .Compare l [o1,o2] [r,t] pos=>if hs:eM r=true then if hs':eM t=true then
   match R.e cx false l,R.e cx false r,R.e cx false t with|some ⟨_,h1⟩,some ⟨_,h2⟩,some ⟨_,h3⟩=>some ⟨_, .tChain hs hs' h1 h2 h3⟩|_,_,_=>none else none else none
 |cx,x=>if hp:ni x=true then match R.e cx false x with|some ⟨c,h1⟩=>if hv:yN c=true then some ⟨c, .tVal hp h1 hv⟩ else none|_=>none else none
noncomputable def trL1 (tb:Tb) (R:TR tb):(cx:Cx)→(xs:List PySem.Expr)→Option {c:C // Cq cx tb (.l xs c)}
 |cx,[]=>some ⟨_, .nil⟩
 |cx, .Starred x ps::xs=>match R.e cx false x,R.l cx xs with|some ⟨_,h1⟩,some ⟨_,h2⟩=>some ⟨_, .star h1 h2⟩|_,_=>none
 |cx,x::xs=>if hs:eI x=false then match R.e cx false x,R.l cx xs with|some ⟨_,h1⟩,some ⟨_,h2⟩=>some ⟨_, .cons hs h1 h2⟩|_,_=>none else none
noncomputable def trO1 (tb:Tb) (R:TR tb):(cx:Cx)→(x:Option PySem.Expr)→Option {c:C // Cq cx tb (.o x c)}
 |cx,none=>some ⟨_, .oNone⟩
 |cx,some x=>match R.e cx false x with|some ⟨_,h1⟩=>some ⟨_, .oSome h1⟩|_=>none
noncomputable def trQ1 (tb:Tb) (R:TR tb):(cx:Cx)→(xs:List PySem.Expr)→Option {c:C // Cq cx tb (.q xs c)}
 |cx,[]=>some ⟨_, .qNil⟩
 |cx,[x]=>match R.t cx x with|some ⟨_,h1⟩=>some ⟨_, .qOne h1⟩|_=>none
 |_,_=>none
noncomputable def trI1 (tb:Tb) (R:TR tb):(cx:Cx)→(x:PySem.Expr)→Option {c:It × C // Cq cx tb (.it x c.1 c.2)}
 |cx,x=>match R.r cx x with
  |some r=>some r
  |none=>match R.e cx false x with|some ⟨c,h1⟩=>some ⟨(.lst,c), .iLst h1⟩|_=>none
noncomputable def trR1 (tb:Tb) (R:TR tb):(cx:Cx)→(x:PySem.Expr)→Option {c:It × C // Cq cx tb (.it x c.1 c.2)}
 |cx, .Call (.Name f p2) args [] pos=>if hd:dbg f=false then if h:cx.sc.names.lookup f=some .globalImplicit then if hp:dG args=true then
   match hx:tb.glb.lookup f with
   |some (.fn .range)=>match R.l cx args with|some ⟨c,h1⟩=>some ⟨(.rng,c), .iRng h hx hd hp h1⟩|_=>none
   |some (.fn .reversed)=>match args with
    |[a]=>match R.l cx [a] with|some ⟨c,h1⟩=>if hp':dG [a]=true then some ⟨(.rev,c), .iRev h hx hd hp' h1⟩ else none|_=>none
    |_=>none
   |_=>none
  else none else none else none
 |_,_=>none
noncomputable def trS1 (tb:Tb) (R:TR tb):(cx:Cx)→(x:Stmt)→Option {c:S // Cq cx tb (.s x c)}
 |cx, .Expr l pos=>if hc:fC l=false then match R.e cx false l with|some ⟨_,h1⟩=>some ⟨_, .sExpr hc h1⟩|_=>none else none
 |cx, .Pass pos=>some ⟨_, .sPass⟩
 |cx, .Break pos=>some ⟨_, .sBrk⟩
 |cx, .Continue pos=>some ⟨_, .sCont⟩
 |cx, .Raise e c pos=>some ⟨_, .sRaise⟩
 |cx, .Return (some l) pos=>match R.e cx false l with|some ⟨_,h1⟩=>some ⟨_, .sRet h1⟩|_=>none
 |cx, .Return none pos=>some ⟨_, .sRet0⟩
 |cx, .Assign [.Name x p2] (.ListComp elt [⟨t,it,ifs,0⟩] sc pos) spos=>if hsw:CN cx.sc sc x p2.line pos.line=true then if hok:AY sc cx.sc=true then if hset:eM it=true then
   match xk tb cx x p2,R.it cx it,trG tb (cx.inner sc) t,R.e (cx.inner sc) false elt,R.q (cx.inner sc) ifs with
   |some ⟨_,h0⟩,some ⟨_,h1⟩,some ⟨tt,h2⟩,some ⟨_,h3⟩,some ⟨_,h4⟩=>if hk:oj tt cx.nm.length=true then some ⟨_, .sAsgC hsw hok hset rfl hk h0 h1 h2 h3 h4⟩ else none
   |_,_,_,_,_=>none
  else none else none else none
 |cx, .Assign [.Name x p2] l pos=>if hc:fC l=false then match xk tb cx x p2,R.e cx (cx.own.contains x) l with|some ⟨_,h0⟩,some ⟨_,h1⟩=>some ⟨_, .sAsgN hc h0 h1⟩|_,_=>none else none
 |cx, .Assign [.Tuple es k p2] l pos=>if hc:fC l=false then if ht:uc l=false then match CY tb cx es,R.e cx false l with|some ⟨_,h0⟩,some ⟨_,h1⟩=>some ⟨_, .sAsgT hc ht h0 h1⟩|_,_=>none else none else none
 |cx, .Assign [.Attribute o a p2] l pos=>if hc:fC l=false then if ht:uc l=false then match hi:tb.at_.lookup a with
  |some i=>match R.e cx false o,R.e cx true l with|some ⟨_,h0⟩,some ⟨_,h1⟩=>some ⟨_, .sSetA hc ht hi h0 h1⟩|_,_=>none
  |none=>none
  else none else none
 |cx, .Assign [.Subscript o (.Slice lo hi none p3) p2] l pos=>if hc:fC l=false then match R.e cx false o,R.o cx lo,R.o cx hi,R.e cx false l with
  |some ⟨_,h0⟩,some ⟨_,h1⟩,some ⟨_,h2⟩,some ⟨_,h3⟩=>some ⟨_, .sSetS hc h0 h1 h2 h3⟩|_,_,_,_=>none else none
 |cx, .Assign [.Subscript o i p2] l pos=>if hc:fC l=false then if hs:jH i=true then match R.e cx false o,R.e cx false i,R.e cx false l with
  |some ⟨_,h0⟩,some ⟨_,h1⟩,some ⟨_,h2⟩=>some ⟨_, .sSetI hc hs h0 h1 h2⟩|_,_,_=>none else none else none
 |cx, .AugAssign (.Name x p2) op l pos=>if hop:(op==.Add||op==.Sub||op==.Mult||op==.BitAnd)=true then if hd:dbg x=false then
   match xk tb cx x p2,R.e cx false l with|some ⟨_,h0⟩,some ⟨_,h1⟩=>some ⟨_, .sAug hop hd h0 h1⟩|_,_=>none else none else none
 |cx, .If t a b pos=>match R.t cx t,R.ss cx a,R.ss cx b with|some ⟨_,h0⟩,some ⟨_,h1⟩,some ⟨_,h2⟩=>some ⟨_, .sIf h0 h1 h2⟩|_,_,_=>none
 |cx, .While t a [] pos=>match R.t cx t,R.ss cx a with|some ⟨_,h0⟩,some ⟨_,h1⟩=>some ⟨_, .sWhl h0 h1⟩|_,_=>none
 |cx, .For t it a [] pos=>if hs:eM it=true then match trG tb cx t,R.it cx it,R.ss cx a with|some ⟨_,h0⟩,some ⟨_,h1⟩,some ⟨_,h2⟩=>some ⟨_, .sFor hs h0 h1 h2⟩|_,_,_=>none else none
 |cx, .Assert t m pos=>match R.t cx t with|some ⟨_,h0⟩=>some ⟨_, .sAssert h0⟩|_=>none
 |_,_=>none
noncomputable def CX (tb:Tb) (R:TR tb):(cx:Cx)→(xs:List Stmt)→Option {c:S // Cq cx tb (.ss xs c)}
 |cx,[]=>some ⟨_, .sNil⟩
 |cx,x::xs=>match R.s cx x,R.ss cx xs with|some ⟨_,h0⟩,some ⟨_,h1⟩=>some ⟨_, .sCons h0 h1⟩|_,_=>none
noncomputable def tr (tb:Tb) (n:Nat):TR tb:=Nat.rec (motive:=fun _=>TR tb) ⟨fun _ _ _=>none,fun _ _=>none,fun _ _=>none,fun _ _=>none,fun _ _=>none,fun _ _=>none,fun _ _=>none,fun _ _=>none,fun _ _=>none⟩ (fun _ R=>⟨trE1 tb R,trT1 tb R,trL1 tb R,trO1 tb R,trQ1 tb R,trI1 tb R,trR1 tb R,trS1 tb R,CX tb R⟩) n
noncomputable def trB (tb:Tb) (cx:Cx) (xs:List Stmt):Option S:=((tr tb 60).ss cx xs).map (·.1)
theorem Bc {tb:Tb} {cx:Cx} {xs:List Stmt} {s:S} (h:trB tb cx xs=some s):Cq cx tb (.ss xs s):=by
 refine e1b (Option.map_eq_some_iff.mp h) fun zn1 _ zq2=>?_;clear h;subst zq2;obtain ⟨s',hs⟩:=zn1
 exact hs
end
section
section
variable {prog:Program} {wd:World} {A:Around} {s:Shared}
theorem jw {id:String} {args:Args} {b:Builtin} {R:Flow→Shared→Prop} (hq:(PySem.Code.builtin id args).quiet=true) (hb:entryFor table id=some b) (hd:Builtin.Bytes.decodersThatHold.contains id=false)
  (h:wpN (model prog wd) A.in1 (checkBuiltinCall id args) (fun _ s₁=>wpN (model prog wd) (A.under (.builtin id args)) (b args) (Aj (model prog wd) A R) s₁) s):eW (model prog wd) A (.call (.builtin id) args) R s:=by
 refine dj rfl ?_
 refine (?_:wpN _ A.in1 (do checkBuiltinCall id args;again (.builtin id args)) _ s)
 exact cO (cV h fun _ s₁ h₁=>wpN_pure ⟨hq,iE hb hd h₁⟩)
theorem Dg {c:Addr} {rest:List Value} {kw:List (Str × Value)} {fI:Addr} {R:Flow→Shared→Prop} (Y:Makes (model prog wd) s.heap c) (hi:Looks (model prog wd) s.heap (typeLookup (.ref c) "__init__") (some (.ref fI)))
  (hb:∀self,Looks (model prog wd) s.heap (bindSpecial (.ref fI) self) (.ref fI,[self]))
  (hq:eW (model prog wd) (A.under (.builtin "type.__call__" ⟨.ref c::rest,kw⟩)) (.call (.ref fI) ⟨.ref (s.heap.objs.size+1)::rest,kw⟩)
   (fun f s'=>f=.ret .none∧R (.ret (.ref (s.heap.objs.size+1))) s') {s with heap:=(s.heap.push emptyDict).push (kX c s.heap.objs.size #[])}) :
  eW (model prog wd) A (.call (.ref c) ⟨rest,kw⟩) R s:=by
 have Y':=Y
 obtain ⟨zn1,made,base,self,top,call,typ⟩:=Y;refine e4d zn1 fun oc od cd sl hC e1 e2 e4=>?_
 refine dj rfl ?_
 refine (?_:wpN _ _ (callAny (.ref c) _) _ _)
 simp only [callAny]
 refine cX (wpAny_load hC ?_)
 refine (?_:wpN _ _ (callAny.viaDunder (.ref c) _) _ _)
 unfold callAny.viaDunder
 refine cX (call.here ?_)
 dsimp only
 rw [tc_bind]
 refine cO (wpN_pure (cO (wpN_pure ?_)))
 refine wpN_pure (a:=PySem.Fin.again (.call (.builtin "type.__call__") ⟨.ref c::rest,kw⟩)) ⟨rfl,?_⟩
 refine jw (Code.quiet_builtin _ (by decide +kernel)) entry_typeCall (by decide +kernel) (cQ (check_slot tc_kind tc_split typ (tc_args _ _ _) ?_))
 unfold Builtin.«type.__call__»
 have hm:Looks (model prog wd) s.heap (mroOf (.ref c)) cd.mro:=((Looks.ld (part:=none) hC).andThen .now).andThen .now
 refine cW rfl ?_
 refine cX (hm.here ?_)
 refine cW e4 ?_
 refine cX (made.here ?_)
 refine cO (wpN_pure ?_)
 have hnew:codeAny (model prog wd) (A.under (.builtin "type.__call__" ⟨.ref c::rest,kw⟩)) (.call (.builtin "object.__new__") ⟨.ref c::rest,kw⟩) (okR fun f s'=>f=.ret (.ref (s.heap.objs.size+1))∧s'={s with heap:=(s.heap.push emptyDict).push (kX c s.heap.objs.size #[])}) s:=by
  clear typ call top base made zn1 hm e4 e2 e1 hC sl cd od oc;obtain ⟨hh,g,d,t,os⟩:=s
  exact new_K Y' hi (.inl rfl) ⟨rfl,rfl⟩
 refine cO (cR (wpN_call (dY (qX hnew) fun f s₁ hf=>?_)))
 refine e0b hf fun zq0 zq1=>?_;clear hf;subst zq0 zq1
 have k:∀b o,s.heap.get? b=some o→((s.heap.push emptyDict).push (kX c s.heap.objs.size #[])).get? b=some o:=fun b o e=>Heap.get?_push_of_some _ (Heap.get?_push_of_some _ e)
 have hx:((s.heap.push emptyDict).push (kX c s.heap.objs.size #[])).get? (s.heap.objs.size+1)=some (kX c s.heap.objs.size #[]):=by heap_get
 have t1:Looks (model prog wd) ((s.heap.push emptyDict).push (kX c s.heap.objs.size #[])) (typeOf (.ref (s.heap.objs.size+1))) (.ref c):=(Looks.ld hx).andThen .now
 dsimp only
 unfold isInstance
 refine cO ?_
 refine cX (Looks.here (s:={s with heap:=(s.heap.push emptyDict).push (kX c s.heap.objs.size #[])}) t1 ?_)
 refine cQ (Looks.here (s:={s with heap:=(s.heap.push emptyDict).push (kX c s.heap.objs.size #[])}) (self.keeps k) ?_)
 refine cW rfl ?_
 refine cO (cR ?_)
 unfold callSpecial? specialOf
 refine cO ?_
 refine cX (Looks.here (s:={s with heap:=(s.heap.push emptyDict).push (kX c s.heap.objs.size #[])}) t1 ?_)
 refine cQ (Looks.here (s:={s with heap:=(s.heap.push emptyDict).push (kX c s.heap.objs.size #[])}) (hi.keeps k) ?_)
 dsimp only
 refine cR ?_
 refine cX (Looks.here (s:={s with heap:=(s.heap.push emptyDict).push (kX c s.heap.objs.size #[])}) ((hb (.ref (s.heap.objs.size+1))).keeps k) ?_)
 dsimp only
 refine cO (wpN_call (dY hq fun f s₂ hf=>?_))
 refine e0b hf fun zq0 hR=>?_;clear hf;subst zq0
 exact wpN_pure (cW rfl (wpN_pure hR))
end
end
section
theorem Inv.newInst {H0:Heap} {f:Gm} {G:Gh} {σ:List O} {h:Heap} (I:Inv H0 f G σ h) (c:Addr) (n:Nat) :
  ∃G':Gh,G.Le G'∧Inv H0 f G' (σ++[.cinst c (List.replicate n .unset) 0]) ((h.push emptyDict).push (kX c h.objs.size #[]))∧G'.k.id σ.length=some (h.objs.size+1)∧((∀a j,G.ow a≠some (0,j))→∀a j,G'.ow a≠some (0,j)):=by
 have fresh:∀a,h.objs.size≤a→G.g a=none∧f a=none∧G.ow a=none:=fun a ha=>by
  refine ⟨?_,?_,?_⟩
  ·cases q:G.g a with
   |none=>rfl
   |some o=>exact absurd (Heap.lt_size (I.gg _ _ q)) (Nat.not_lt.mpr ha)
  ·cases q:f a with
   |none=>rfl
   |some o=>exact absurd (Heap.lt_size (I.ff _ _ q)) (Nat.not_lt.mpr ha)
  ·cases q:G.ow a with
   |none=>rfl
   |some o=>refine e1a ((I.own _ _ q).2.2) fun x hx=>?_;exact absurd (Heap.lt_size hx) (Nat.not_lt.mpr ha)
 refine e0c (fresh h.objs.size (Nat.le_refl _)) fun d1 d2 d3=>?_
 refine e0c (fresh (h.objs.size+1) (Nat.le_succ _)) fun x1 x2 x3=>?_
 have hk:∀b o,h.get? b=some o→((h.push emptyDict).push (kX c h.objs.size #[])).get? b=some o:=fun b o e=>Heap.get?_push_of_some _ (Heap.get?_push_of_some _ e)
 have hd:((h.push emptyDict).push (kX c h.objs.size #[])).get? h.objs.size=some emptyDict:=Heap.get?_push_of_some _ (Heap.get?_push_size _ rfl)
 have hx:((h.push emptyDict).push (kX c h.objs.size #[])).get? (h.objs.size+1)=some (kX c h.objs.size #[]):=by heap_get
 let G':Gh:=⟨fun a=>if a=h.objs.size then some emptyDict else G.g a,⟨fun i=>if i=σ.length then some (h.objs.size+1) else G.k.id i,G.k.inn⟩,fun a=>if a=h.objs.size+1 then some (σ.length+1,0) else G.ow a⟩
 have hg:∀a o,G.g a=some o→G'.g a=some o:=fun a o e=>(if_neg fun q=>by subst q;rw [d1] at e;exact ns e).trans e
 have hid:∀i a,G.k.id i=some a→G'.k.id i=some a:=fun i a e=>(if_neg fun q=>by subst q;rw [(I.dom _ (Nat.le_refl _)).1] at e;exact ns e).trans e
 have how:∀a y,G.ow a=some y→G'.ow a=some y:=fun a y e=>(if_neg fun q=>by subst q;rw [x3] at e;exact ns e).trans e
 refine ⟨G',⟨hg,hid,fun _ _ _ _ e=>e⟩,⟨fun a o e=>hg _ _ (I.base a o e),fun a o e=>?_,fun a o e=>hk _ _ (I.ff a o e),fun a o e=>?_,fun a y e=>?_,fun i o e=>?_,fun i e=>?_⟩,if_pos rfl,fun hno a j e=>?_⟩
 ·change (if a=h.objs.size then some emptyDict else G.g a)=some o at e
  split at e
  ·rename_i q;subst q;obtain rfl:=sj e;exact hd
  ·exact hk _ _ (I.gg a o e)
 ·exact (if_neg fun q=>by subst q;rw [d2] at e;exact ns e).trans (I.fg a o e)
 ·change (if a=h.objs.size+1 then some (σ.length+1,0) else G.ow a)=some y at e
  split at e
  ·rename_i q;subst q;exact ⟨(if_neg (Nat.succ_ne_self _)).trans x1,x2,_,hx⟩
  ·refine e0c (I.own a y e) fun h1 h2 zr=>e1a zr fun o h3=>?_
   exact ⟨(if_neg fun q=>by subst q;exact absurd (Heap.lt_size h3) (Nat.lt_irrefl _)).trans h1,h2,o,hk _ _ h3⟩
 ·rcases Nat.lt_trichotomy i σ.length with hi|hi|hi
  ·rw [List.getElem?_append_left hi] at e
   exact nX.mono (G:=G) hg (hid i) (fun _ _=>rfl) (fun a j e=>⟨how _ _ e,hk a⟩) (I.obj i o e)
  ·subst hi
   rw [List.getElem?_append_right (Nat.le_refl _),Nat.sub_self] at e
   obtain rfl:=sj e
   refine ⟨h.objs.size+1,h.objs.size,#[],if_pos rfl,if_pos rfl,hx,if_pos rfl,fun m y hy=>?_,fun m v a hy=>?_⟩
   ·rw [List.getElem?_replicate] at hy
    split at hy
    ·obtain rfl:=sj hy;simp [A9]
    ·exact ns hy
   ·have:G.k.inn σ.length m v=some a:=hy
    rw [(I.dom _ (Nat.le_refl _)).2] at this;exact ns this
  ·rw [List.getElem?_eq_none (by simp;exact cT [] [_,_] a8 ae 1 [.j 1 a8 ae] rfl hi)] at e;exact ns e
 ·simp only [List.length_append,List.length_cons,List.length_nil] at e
  exact ⟨(if_neg (by exact Nat.ne_of_gt (cT [] [_,_] a8 ae 1 [.j 1 cM ae] rfl e))).trans (I.dom i (by exact cT [] [_,_] ab ae 1 [.j 1 cM ae] rfl e)).1,(I.dom i (by exact cT [] [_,_] ab ae 1 [.j 1 cM ae] rfl e)).2⟩
 ·change (if a=h.objs.size+1 then some (σ.length+1,0) else G.ow a)=some (0,j) at e
  split at e
  ·cases e
  ·exact hno a j e
noncomputable def fH (ctr:Ctr) (c:Addr) (n:Nat):Ctr:=fun args kws objs Q=>ctr (.ref objs.length::args) kws (objs++[.cinst c (List.replicate n .unset) 0]) fun v objs'=>tv v=true∧Q (.ref objs.length) objs'
theorem xe (A:Around) (c:Addr) (rest:List Value) (kw:List (Str × Value)):(A.under (.builtin "type.__call__" ⟨.ref c::rest,kw⟩)).guards=A.guards∧(A.under (.builtin "type.__call__" ⟨.ref c::rest,kw⟩)).handled=A.handled∧(A.under (.builtin "type.__call__" ⟨.ref c::rest,kw⟩)).depth≤A.depth+1:=by
 refine ⟨?_,rfl,?_⟩
 ·have:PySem.Code.guards (.builtin "type.__call__" ⟨.ref c::rest,kw⟩)=[]:=by unfold PySem.Code.guards;rw [if_neg];refine (?_:¬(guardIds.contains "type.__call__" = true));decide +kernel
  unfold Around.under;dsimp only;rw [this];rfl
 ·unfold Around.under;dsimp only
  have:PySem.Code.weight (.builtin "type.__call__" ⟨.ref c::rest,kw⟩)≤1:=by
   unfold PySem.Code.weight
   have h1:PySem.Code.frames (.builtin "type.__call__" ⟨.ref c::rest,kw⟩)=0:=by kernel_rfl
   have h2:PySem.Code.isGuard (.builtin "type.__call__" ⟨.ref c::rest,kw⟩)=false:=by refine (?_:guardIds.contains "type.__call__" = false);decide +kernel
   have h3:PySem.Code.isCaller (.builtin "type.__call__" ⟨.ref c::rest,kw⟩)=false:=by kernel_rfl
   rw [h1,h2,h3]
   simp only [Bool.false_eq_true,if_false]
   split<;>(first|exact (cT [] [] (.a (.a bg ay) ay) aj 1 [] rfl)|exact cT [] [] (.a (.a (.a ay ay) ay) ay) aj 1 [] rfl)
  exact cT [] [_,_] a9 a8 1 [.j 1 ae aj] rfl this
theorem nY.make {H0:Heap} {prog:Program} {wd:World} {n:Nat} {c fi:Addr} {ctr:Ctr} {K:Frag} {k:Nat} (X:K.In H0) (hF:nY H0 prog wd n fi ctr) (hmk:makesIn K c=true) (hfi:findIn K (.ref c) "__init__" = some (some (.ref fi))) (ht:typeIn K (.ref fi)=some (.type "function")) :
  nY H0 prog wd (n+1) c (fH ctr c k):=by
 refine ⟨?_,fun A f G s σ args kws vs kvs Q gd I hno hv hk h=>?_⟩
 ·have Y:=makes_of (M:=model prog wd) X hmk
  obtain ⟨zn1,_,_,_,_,call,_⟩:=Y;refine e4b zn1 fun oc od cd sl hC _=>?_
  refine ⟨.machine,?_⟩
  unfold keeperOf
  refine (Looks.ld hC).andThen ?_
  refine call.andThen ?_
  exact .now
 ·have h0:∀b o,H0.get? b=some o→s.heap.get? b=some o:=fun b o e=>I.gg b o (I.base b o e)
  have Xs:K.In s.heap:=X.keeps h0
  refine e1d (I.newInst c k) fun G₁ le₁ I₁ hid hno₁=>?_
  refine Dg (makes_of Xs hmk) (looks_findIn Xs hfi) (fun self=>bind_fn Xs self ht) ?_
  refine e0c (xe A c vs kvs) fun u1 u2 u3=>?_
  have gu:(A.under (.builtin "type.__call__" ⟨.ref c::vs,kvs⟩)).units=A.units+1:=by
   have h1:PySem.Code.frames (.builtin "type.__call__" ⟨.ref c::vs,kvs⟩)=0:=by kernel_rfl
   refine (?_:A.units+(1+3*PySem.Code.frames (.builtin "type.__call__" ⟨.ref c::vs,kvs⟩))=_)
   rw [h1]
  have gd':p6 n (A.under (.builtin "type.__call__" ⟨.ref c::vs,kvs⟩)):=⟨u1.trans gd.guards,u2.trans gd.handled,by have:=gd.depth;exact (cT [] [_,_,_] a9 (.n 900) 1 [.j 1 ab bt,.j 1 (.a ak bc) (.n 900)] rfl u3 this),by have:=gd.units;exact cT [] [_,_,_] (.a ab (.m 8 ae)) (.n 9000) 1 [.j 1 ab bt,.j 1 (.a ak (.m 8 bc)) (.n 9000)] rfl (Nat.le_of_eq gu) this⟩
  have hw:=hF.call (A.under (.builtin "type.__call__" ⟨.ref c::vs,kvs⟩)) f G₁ {s with heap:=(s.heap.push emptyDict).push (kX c s.heap.objs.size #[])} _ (.ref σ.length::args) kws (.ref (s.heap.objs.size+1)::vs) kvs _ gd' I₁ (hno₁ hno)
   ⟨_,_,rfl,⟨_,hid,rfl⟩,hv.le le₁⟩ (hk.mono le₁.g) h
  refine dY hw fun fl s' zp=>e1b zp fun v hfl zp=>e3g zp fun G' σ' x sm le hl I' hx hn q=>?_
  subst hfl
  have hv0:v=.none:=by have:=nC hx;rw [hn] at this;exact beq_iff_eq.mp this
  subst hv0
  refine ⟨rfl,_,rfl,G',σ', .ref σ.length,(show gr s {s with heap:=(s.heap.push emptyDict).push (kX c s.heap.objs.size #[])} from ⟨rfl,rfl,rfl⟩).trans sm,(le₁.toN _).trans (le.mono (by simp)),by simp at hl;exact (cT [] [_,_] ab ae 1 [.j 1 a8 ae] rfl hl),I',⟨_,le.id _ _ (by simp) hid,rfl⟩,q⟩
end
section
theorem mF (i:Int) (n d:Nat) (h0:0≤i) (h1:i≤n):ww (.int i) n d=some i.toNat:=by
 refine (?_:some (max 0 (min (at_ i n) n)).toNat=_)
 have:at_ i n=i:=if_neg (by exact Int.not_lt.mpr (lin [_] [] ai aa 1 [.i 1 ai aa] rfl h0))
 rw [this]
 congr 1
 exact Nat.le_antisymm (cT [_,_,_] [_,_] ab ae 1 [.i 1 aa an,.i 1 an am,.i 1 aB aa,.i 1 af aB] rfl (Int.le_of_eq (Int.min_eq_left (lin [_] [_] aa af 1 [.i 1 aa af] rfl h1))) (Int.le_of_eq (Eq.symm (Int.toNat_of_nonneg (lin [_] [] ai aa 1 [.i 1 ai aa] rfl h0)))) (Int.le_of_eq (Int.max_eq_right (lin [_,_] [] ai aa 1 [.i 1 ai an,.i 1 an aa] rfl h0 (Int.le_of_eq (Eq.symm (Int.min_eq_left (lin [_] [_] aa af 1 [.i 1 aa af] rfl h1))))))) (Int.le_of_eq (Int.toNat_of_nonneg (lin [_] [] ai aa 1 [.i 1 ai aa] rfl (Int.le_max_left _ _))))) (cT [_,_,_] [_,_] ab ae 1 [.i 1 aa am,.i 1 an aa,.i 1 aB an,.i 1 af aB] rfl (Int.self_le_toNat _) (Int.le_max_right _ _) (Int.le_of_eq (Eq.symm (Int.min_eq_left (lin [_] [_] aa af 1 [.i 1 aa af] rfl h1)))) (Int.le_of_eq (Int.toNat_of_nonneg (lin [_] [] ai aa 1 [.i 1 ai aa] rfl h0))))
theorem Do (w:Nat) (n:Int):(gl (le w n):Int)=n % 2 ^ (8*w):=by
 have key:∀(w k m:Nat),gl ((List.range' k w).map fun j=>(m / 256 ^ j % 256).toUInt8)=m / 256 ^ k % 256 ^ w:=by
  intro w
  induction w with
  |zero=>intro k m;simp [gl,Nat.mod_one]
  |succ w ih=>
   intro k m
   rw [List.range'_succ,List.map_cons]
   refine (?_:gl _*256+(m / 256 ^ k % 256).toUInt8.toNat=_)
   rw [ih]
   have h1:(m / 256 ^ k % 256).toUInt8.toNat=m / 256 ^ k % 256:=by
    simp [Nat.toUInt8,UInt8.toNat_ofNat']
   rw [h1,Nat.pow_succ 256 k,←Nat.div_div_eq_div_mul,Nat.pow_succ 256 w,Nat.mul_comm (256 ^ w) 256,Nat.mod_mul]
   exact Nat.le_antisymm (cT [] [_,_] (.a (.r ab 256) ae) (.a ae (.m 256 ab)) 1 [] rfl) (cT [] [_,_] (.a ab (.m 256 ae)) (.a (.r ae 256) ab) 1 [] rfl)
 unfold le
 rw [List.range_eq_range',key w 0]
 have h2:(256:Nat) ^ w=2 ^ (8*w):=by rw [show (256:Nat)=2 ^ 8 from rfl,←Nat.pow_mul]
 rw [Nat.pow_zero,Nat.div_one,h2]
 have hp:(0:Int)<2 ^ (8*w):=Int.pow_pos (by decide)
 have h0:(0:Int)≤n % 2 ^ (8*w):=Int.emod_nonneg _ (by exact Int.ne_of_gt (lin [_] [] bn aa 1 [.i 1 bn aa] rfl hp))
 rw [Nat.mod_eq_of_lt]
 ·exact Int.toNat_of_nonneg h0
 ·have:=Int.emod_lt_of_pos n hp
  have e:((2 ^ (8*w):Nat):Int)=2 ^ (8*w):=by push_cast;rfl
  exact cT [_,_] [_,_] a8 ae 1 [.i 1 be an,.i 1 an am,.i 1 af aa] rfl this (Int.le_of_eq (Eq.symm e)) (Int.le_of_eq (Int.toNat_of_nonneg (lin [_] [] ai aa 1 [.i 1 ai aa] rfl h0)))
theorem Dc (F:Fm) (n:Int) (h0:F.lo≤n) (h1:n≤F.hi):F.rd (le F.w n)=n:=by
 have h:=Do F.w n
 unfold Fm.rd
 by_cases hd:gl (le F.w n)≥2 ^ (8*F.w-1)
 ·rw [decide_eq_true hd]
  cases F<;>simp only [Fm.lo,Fm.hi] at h0 h1<;>simp only [Fm.w,Fm.sg,Nat.reduceMul,Nat.reduceSub,Nat.reducePow,Int.reducePow,Bool.and_true,Bool.false_eq_true,if_false,if_true] at h hd ⊢<;>lia
 ·rw [decide_eq_false hd]
  cases F<;>simp only [Fm.lo,Fm.hi] at h0 h1<;>simp only [Fm.w,Fm.sg,Nat.reduceMul,Nat.reduceSub,Nat.reducePow,Int.reducePow,Bool.and_false,Bool.false_eq_true,if_false] at h hd ⊢<;>lia
theorem nz {n0:Nat} {chk:St→Prop} {step:P→St→(Fl→St→Prop)→Prop} {Q:Fl→St→Prop} (I:List P→St→Prop)
  (hstep:∀x xs st (K:Fl→St→Prop),I (x::xs) st→(∀st',I xs (iT n0 st')→K .next st'∧K .cont st')→(∀st',Q .next st'→K .brk st')→(∀v st',Q (.ret v) st'→K (.ret v) st')→chk st∧step x st K)
  (hend:∀st,I [] st→chk st∧Q .next st):∀xs st,I xs st→vH n0 chk step xs st Q
 |[],st,h=>hend st h
 |x::xs,st,h=>hstep x xs st _ h (fun st' h'=>⟨nz I hstep hend xs _ h',nz I hstep hend xs _ h'⟩) (fun _ h=>h) (fun _ _ h=>h)
theorem qV {chk:St→Prop} {step:P→St→(List P→St→Prop)→Prop} {Q:List P→St→Prop} (I:List P→List P→St→Prop)
  (hstep:∀x xs acc st (K:List P→St→Prop),I (x::xs) acc st→(∀ys st',I xs (acc++ys) st'→K ys st')→chk st∧step x st K)
  (hend:∀acc st,I [] acc st→chk st∧Q acc st):∀xs acc st,I xs acc st→qW chk step xs acc st Q
 |[],acc,st,h=>hend acc st h
 |x::xs,acc,st,h=>hstep x xs acc st _ h fun ys st' h'=>qV I hstep hend xs _ _ h'
theorem qG {n0:Nat} {chk:St→Prop} {step:P→St→(Fl→St→Prop)→Prop} {Q:Fl→St→Prop} (I:List P→St→Prop)
  (hstep:∀x xs st (K:Fl→St→Prop),I (x::xs) st→(∀st',I xs (iT n0 st')→K .next st'∧K .cont st')→(∀st',Q .next st'→K .brk st')→(∀v st',Q (.ret v) st'→K (.ret v) st')→chk st∧step x st K)
  (hend:∀st,I [] st→chk st∧Q .next st) (xs:List P) (st:St) (h:I xs st):t0 n0 chk step xs st Q:=by
 unfold t0;exact nz I hstep hend xs st h
theorem wo {chk:St→Prop} {step:P→St→(List P→St→Prop)→Prop} {Q:List P→St→Prop} (I:List P→List P→St→Prop)
  (hstep:∀x xs acc st (K:List P→St→Prop),I (x::xs) acc st→(∀ys st',I xs (acc++ys) st'→K ys st')→chk st∧step x st K)
  (hend:∀acc st,I [] acc st→chk st∧Q acc st) (xs acc:List P) (st:St) (h:I xs acc st):wq chk step xs acc st Q:=by
 unfold wq;exact qV I hstep hend xs acc st h
theorem zl {n0:Nat} {test:St→(Bool→St→Prop)→Prop} {body:St→(Fl→St→Prop)→Prop} {Q:Fl→St→Prop} (I:Nat→St→Prop)
  (hstep:∀k st (K:Fl→St→Prop),I k st→(∀st' m,m<k→I m (iT n0 st')→K .next st'∧K .cont st')→(∀st',Q .next st'→K .brk st')→(∀v st',Q (.ret v) st'→K (.ret v) st')→
   test st fun b st=>br b (body st K) (Q .next st)) (k:Nat) (st:St) (h:I k st):∃n,zm n0 test body n st Q:=by
 refine ⟨k+1,?_⟩
 have key:∀n k st,k<n→I k st→zm n0 test body n st Q:=by
  intro n
  induction n with
  |zero=>intro k st h;lia
  |succ n ih=>
   intro k st hk h
   exact hstep k st _ h (fun st' m hm h'=>⟨ih m _ (by exact cT [] [_,_,_] a8 ae 1 [.j 1 bt bc,.j 1 a8 ak] rfl hk hm) h',ih m _ (by exact cT [] [_,_,_] a8 ae 1 [.j 1 bt bc,.j 1 a8 ak] rfl hk hm) h'⟩) (fun _ h=>h) (fun _ _ h=>h)
 exact key _ k st (Nat.lt_succ_self k) h
structure Ab where
 T:List UInt8
 room:Int
 mal:Int
 vt:Option (List Int)
 nested:Bool
 oe:P
 force:Bool
 fin:Bool
 sh:P
 vne:Option P
 vts:List (P × P)
noncomputable def vtS (v:Option (List Int)):Sl:=match v with|none=>.v .none|some l=>.bx (.lst (l.map .int))
noncomputable def vneS (v:Option P):Sl:=match v with|none=>.unset|some p=>.v p
noncomputable def bo (c:Addr) (a:Ab) (bytes:List UInt8) (head:Int) (ver:Nat):O:=
 .cinst c [.bx (.ba bytes),vtS a.vt, .v (.bool a.fin), .v (.bool a.force), .v (.int head), .v (.int a.mal), .v (.bool a.nested), .v a.oe, .v a.sh,vneS a.vne, .bx (.dict a.vts)] ver
structure Rb (T:List UInt8) (room:Int) (bytes:List UInt8) (head:Int):Prop where
 h0:0≤head
 rm:room≤head
 eq:bytes.drop head.toNat=T
 le:head≤bytes.length
 cap:bytes.length≤4194304
theorem Rb.len {T:List UInt8} {room:Int} {bytes:List UInt8} {head:Int} (h:Rb T room bytes head):(bytes.length:Int)-head=T.length:=by
 have:=congrArg List.length h.eq
 rw [List.length_drop] at this
 have:=h.h0;have:=h.le
 exact Int.le_antisymm (lin [_] [_,_,_,_] bf am 1 [.j 1 ak ae,.i 1 ax aa,.j 1 ab bB] rfl (Nat.le_of_eq (by assumption)) (Int.le_of_eq (Int.toNat_of_nonneg (lin [_] [] ai aa 1 [.i 1 ai aa] rfl (by assumption)))) (Nat.le_of_eq (Eq.symm (Nat.sub_add_cancel (cT [_] [_,_] ab ae 1 [.i 1 aa am,.i 1 af aa] rfl this (Int.le_of_eq (Int.toNat_of_nonneg (lin [_] [] ai aa 1 [.i 1 ai aa] rfl (by assumption))))))))) (lin [_] [_,_,_,_] af (.s am aa) 1 [.j 1 ab ak,.i 1 aa ax,.j 1 bB ae] rfl (Nat.le_of_eq (Eq.symm (by assumption))) (Int.le_of_eq (Eq.symm (Int.toNat_of_nonneg (lin [_] [] ai aa 1 [.i 1 ai aa] rfl (by assumption))))) (Nat.le_of_eq (Nat.sub_add_cancel (cT [_] [_,_] ab ae 1 [.i 1 aa am,.i 1 af aa] rfl this (Int.le_of_eq (Int.toNat_of_nonneg (lin [_] [] ai aa 1 [.i 1 ai aa] rfl (by assumption))))))))
theorem A7 {b:Bool} {X Y:Prop} (h:b=true) (x:X):br b X Y:=⟨fun _=>x,fun q=>(by rw [h] at q;exact tf q)⟩
theorem o9 {b:Bool} {X Y:Prop} (h:b=false) (y:Y):br b X Y:=⟨fun q=>(by rw [h] at q;exact ft q),fun _=>y⟩
theorem uV {G:Pg} {a b:S} {st:St} {Q:Fl→St→Prop} (R:St→Prop) (h1:∀K:Fl→St→Prop,(∀st',R st'→K .next st')→(∀f st',f≠.next→Q f st'→K f st')→wS G a st K) (h2:∀st',R st'→wS G b st' Q) :
  wS G (.seq a b) st Q:=by
 refine (?_:wS G a st fun f st=>match f with|.next=>wS G b st Q|f=>Q f st)
 refine h1 _ (fun st' h=>h2 st' h) fun f st' hf h=>?_
 clear h2 h1 R st;cases f<;>first|exact absurd rfl hf|exact h
noncomputable def uu (k:Nat) (d:P):List V→List (Str × P)→Option (List V):=fun args kws=>match kws with
 |[]=>match Nat.beq args.length k with
  |true=>some (args++[.p d])
  |false=>match Nat.beq args.length (k+1) with|true=>some args|false=>none
 |_=>none
noncomputable def ut (k:Nat) (n:Str):List V→List (Str × P)→Option (List V):=fun args kws=>match kws with
 |[(m,x)]=>match decide (m=n),Nat.beq args.length k with|true,true=>some (args++[.p x])|_,_=>none
 |_=>none
theorem uq {k:Nat} {n:Str} {args:List V} {x:P} (h:Nat.beq args.length k=true):ut k n args [(n,x)]=some (args++[.p x]):=by
 simp only [ut,decide_true,h]
end
section
section
variable {H0:Heap} {prog:Program} {wd:World} {K:Frag} {fd:FuncData} {pn:List Str} {k:Nat}
theorem ph {pn:List Str} {vs:List Value} (h:pn.length=vs.length):(pn.zip vs).map (·.1)=pn:=List.map_fst_zip (by exact cT [] [_,_] ab ae 1 [.j 1 ab ae] rfl (Nat.le_of_eq h))
theorem pg {pn:List Str} {vs:List Value} (h:pn.length=vs.length):(pn.zip vs).map (·.2)=vs:=List.map_snd_zip (by exact cT [] [_,_] ab ae 1 [.j 1 ab ae] rfl (Nat.le_of_eq (Eq.symm h)))
theorem rk (X:K.In H0) (hk:pn.length=k) (h:∀vs:List Value,vs.length=k→∀S,peek K S (bindArgs fd ⟨vs,[]⟩)=some (pn.zip vs)):pf H0 prog wd fd pn (db k):=by
 intro A f G s σ args kws vs kvs env I hno hv hkr hb
 have Xs:K.In s.heap:=X.keeps fun b o h=>I.gg b o (I.base b o h)
 unfold db at hb
 split at hb
 ·split at hb
  ·rename_i hl
   obtain rfl:=sj hb
   clear X;subst hkr
   have hl:args.length=k:=by simpa using hl
   have hvl:vs.length=k:=by rw [hv.length,hl]
   refine cQ ((Looks.of_peek Xs (h vs hvl _)).here ?_)
   exact ⟨G, .refl _, .refl _,I,hno,ph (by exact Nat.le_antisymm (cT [] [_,_,_] ab ae 1 [.j 1 ab ak,.j 1 ak ae] rfl (Nat.le_of_eq hk) (Nat.le_of_eq (Eq.symm hvl))) (cT [] [_,_,_] ab ae 1 [.j 1 ak ae,.j 1 ab ak] rfl (Nat.le_of_eq (Eq.symm hk)) (Nat.le_of_eq hvl))),by rw [pg (by exact Nat.le_antisymm (cT [] [_,_,_] ab ae 1 [.j 1 ab ak,.j 1 ak ae] rfl (Nat.le_of_eq hk) (Nat.le_of_eq (Eq.symm hvl))) (cT [] [_,_,_] ab ae 1 [.j 1 ak ae,.j 1 ab ak] rfl (Nat.le_of_eq (Eq.symm hk)) (Nat.le_of_eq hvl)))];exact hv⟩
  ·exact ns hb
 ·exact ns hb
theorem du.snoc {g:Gm} {b:lI}:∀{xs:List V} {vs:List Value} {x:V} {v:Value},du g b xs vs→dL g b x v→du g b (xs++[x]) (vs++[v])
 |[],vs,x,v,h,hx=>by subst h;exact ⟨v,[],rfl,hx,rfl⟩
 |y::ys,vs,x,v,h,hx=>by
  refine e2c h fun w r zq2 h1 h2=>?_;clear h;subst zq2
  exact ⟨w,r++[v],rfl,h1,h2.snoc hx⟩
theorem ur (X:K.In H0) {n:Str} (hk:pn.length=k+1) (h:∀(vs:List Value) (v:Value),vs.length=k→∀S,peek K S (bindArgs fd ⟨vs,[(n,v)]⟩)=some (pn.zip (vs++[v]))):pf H0 prog wd fd pn (ut k n):=by
 intro A f G s σ args kws vs kvs env I hno hv hkr hb
 have Xs:K.In s.heap:=X.keeps fun b o h=>I.gg b o (I.base b o h)
 unfold ut at hb
 split at hb
 ·rename_i m x
  split at hb
  ·rename_i hm hl
   obtain rfl:=sj hb
   have hm:m=n:=of_decide_eq_true hm
   clear X;subst hm
   have hl:args.length=k:=Nat.eq_of_beq_eq_true hl
   have hvl:vs.length=k:=by rw [hv.length,hl]
   refine e2c hkr fun v t zq2 hx ht=>?_;clear hkr;clear hl hm;subst zq2
   clear hl;subst ht
   refine cQ ((Looks.of_peek Xs (h vs v hvl _)).here ?_)
   exact ⟨G, .refl _, .refl _,I,hno,ph (by simp;exact Nat.le_antisymm (cT [] [_,_,_] ab bc 1 [.j 1 ab bt,.j 1 ak ae] rfl (Nat.le_of_eq hk) (Nat.le_of_eq (Eq.symm hvl))) (cT [] [_,_,_] a8 ae 1 [.j 1 bt ae,.j 1 ab ak] rfl (Nat.le_of_eq (Eq.symm hk)) (Nat.le_of_eq hvl))),by rw [pg (by simp;exact Nat.le_antisymm (cT [] [_,_,_] ab bc 1 [.j 1 ab bt,.j 1 ak ae] rfl (Nat.le_of_eq hk) (Nat.le_of_eq (Eq.symm hvl))) (cT [] [_,_,_] a8 ae 1 [.j 1 bt ae,.j 1 ab ak] rfl (Nat.le_of_eq (Eq.symm hk)) (Nat.le_of_eq hvl)))];exact hv.snoc (vp hx)⟩
  ·exact ns hb
 ·exact ns hb
theorem Inv.pushG {f:Gm} {G:Gh} {σ:List O} {h:Heap} (I:Inv H0 f G σ h) (o:Obj) (hf:o.isFreed=false) :
  ∃G',G.Le G'∧Inv H0 f G' σ (h.push o)∧G'.g h.objs.size=some o∧G'.k=G.k∧G'.ow=G.ow:=by
 have hk:∀a x,h.get? a=some x→(h.push o).get? a=some x:=fun a x e=>Heap.get?_push_of_some _ e
 have I1:=I.keeps hk
 have fr:∀a,h.objs.size≤a→G.g a=none∧f a=none∧G.ow a=none:=fun a q=>by
  refine ⟨?_,?_,?_⟩
  ·cases e:G.g a with
   |none=>rfl
   |some o=>exact absurd (Heap.lt_size (I.gg _ _ e)) (Nat.not_lt.mpr q)
  ·cases e:f a with
   |none=>rfl
   |some o=>exact absurd (Heap.lt_size (I.ff _ _ e)) (Nat.not_lt.mpr q)
  ·cases e:G.ow a with
   |none=>rfl
   |some o=>refine e1a ((I.own _ _ e).2.2) fun x hx=>?_;exact absurd (Heap.lt_size hx) (Nat.not_lt.mpr q)
 refine e0c (fr _ (Nat.le_refl _)) fun f1 f2 f3=>?_
 have key:∀b x,G.g b=some x→(if b=h.objs.size then some o else G.g b)=some x:=fun b x e=>by
  by_cases q:b=h.objs.size
  ·clear fr hk;subst q;rw [f1] at e;exact ns e
  ·rw [if_neg q];exact e
 refine ⟨⟨fun b=>if b=h.objs.size then some o else G.g b,G.k,G.ow⟩,⟨key,fun _ _ e=>e,fun _ _ _ _ e=>e⟩,?_,if_pos rfl,rfl,rfl⟩
 exact {
  base:=fun a x e=>key a x (I.base a x e)
  gg:=fun a x e=>by
   dsimp only at e
   split at e
   ·rename_i q;obtain rfl:=sj e;clear fr hk f1;subst q;exact Heap.get?_push_size _ hf
   ·exact I1.gg a x e
  ff:=I1.ff
  fg:=fun a x e=>by
   dsimp only
   split
   ·rename_i q;clear hf fr hk f1;subst q;rw [f2] at e;exact ns e
   ·exact I.fg a x e
  own:=fun a x e=>by
   refine e0c (I1.own a x e) fun o1 o2 o3=>?_
   refine ⟨?_,o2,o3⟩
   dsimp only
   split
   ·rename_i q;clear hf I o3 o2 fr hk f2 f1;subst q;rw [f3] at e;exact ns e
   ·exact o1
  obj:=fun i x e=>(I1.obj i x e).mono key (fun _ e=>e) (fun _ _=>rfl) fun a j y=>⟨y,fun o z=>z⟩
  dom:=I1.dom}
theorem uD {α:Type} {A:Around} {Q:α→Shared→Prop} {s:Shared} {o:Obj} {r:Addr→α} (X:K.In s.heap) (hf:o.isFreed=false) (q:Q (r s.heap.objs.size) {s with heap:=s.heap.push o}) :
  ∀(t:Sem α) (g:Addr→Option α),peek1 K ⟨prog,wd.params⟩ t=some (o,g)→(∀D,g D=some (r D))→wpN (model prog wd) A t Q s:=by
 suffices H:∀(t:Sem α) (g:Addr→Option α),peek1 K ⟨prog,wd.params⟩ t=some (o,g)→(∀D,g D=some (r D))→wpAny (model prog wd) A t Q noE s from fun t g e h=>cQ (H t g e h)
 intro t
 induction t with
 |rule _ k ih=>intro g e hg Γ p hΓ;exact ih () g e hg Γ p hΓ
 |point _ k ih=>intro g e hg Γ p hΓ;exact ih () g e hg Γ p hΓ
 |ask k ih=>intro g e hg Γ p hΓ;exact ih _ g e hg Γ p hΓ
 |load a _ k ih=>
  intro g e hg Γ p hΓ
  simp only [peek1] at e
  split at e
  ·rename_i ob ho;exact ⟨ob,X _ _ ho,ih ob g e hg Γ p hΓ⟩
  ·exact ns e
 |alloc ob k _=>
  intro g e hg
  have e:some (ob,fun D=>peek K ⟨prog,wd.params⟩ (k D))=some (o,g):=e
  refine e0b (Prod.mk.inj (Option.some.inj e)) fun e1 e2=>?_
  clear hf;subst e1
  subst e2
  have X':K.In (s.heap.push ob):=X.keeps fun b x hb=>Heap.get?_push_of_some _ hb
  refine (?_:wpAny (model prog wd) A (alloc ob>>=k) Q noE s)
  refine wpAny_bind (wpAny_alloc ?_)
  exact (Looks.of_peek (M:=model prog wd) (h:=s.heap.push ob) X' (hg s.heap.objs.size)).here (s:={s with heap:=s.heap.push ob}) q
 |_=>intro g e;exact ns e
noncomputable def wH:List V→List (Str × P)→Option (List V):=fun args kws=>match args with
 |[]=>none
 |a::r=>(ps? r).bind fun ps=>bif Nat.beq ps.length 3&&kws.isEmpty then some [a, .p (.tup ps)] else none
theorem uv {args:List V} {kws:List (Str × P)} {env:List V} (h:wH args kws=some env) {G:Prop} (k:∀a x y z,args=[a, .p x, .p y, .p z]→kws=[]→env=[a, .p (.tup [x,y,z])]→G):G:=by
 cases args with
 |nil=>exact ns h
 |cons a r=>
  refine e1b (Option.bind_eq_some_iff.mp h) fun ps h1 h2=>?_
  have h1:=yS h1
  clear h;cases q:Nat.beq ps.length 3&&kws.isEmpty with
  |false=>rw [q] at h2;exact ns h2
  |true=>
   rw [q] at h2
   refine e0b (Bool.and_eq_true_iff.mp q) fun q1 q2=>?_
   have h2:=sj h2
   clear q
   cases ps with
   |nil=>exact ft q1
   |cons x ps=>cases ps with
    |nil=>exact ft q1
    |cons y ps=>cases ps with
     |nil=>exact ft q1
     |cons z ps=>cases ps with
      |nil=>exact k a x y z (h1▸rfl) (List.isEmpty_iff.mp q2) h2.symm
      |cons _ _=>exact ft q1
theorem uw (X:K.In H0) {m n:Str} (h:∀a b c d:Value,∀S,peek1 K S (bindArgs fd ⟨[a,b,c,d],[]⟩)=some ({cls:=.type "tuple",data:=.seq #[b,c,d]},fun D=>some [(m,a),(n, .ref D)])):pf H0 prog wd fd [m,n] wH:=by
 intro A f G s σ args kws vs kvs env I hno hv hkr hb
 have Xs:K.In s.heap:=X.keeps fun b o h=>I.gg b o (I.base b o h)
 refine uv hb fun a x y z q1 q2 q3=>?_
 clear hb X;subst q1 q2 q3 hkr
 refine e2c hv fun va r1 q ha hv1=>?_;clear hv;subst q
 refine e2c hv1 fun vx r2 q hx hv2=>?_;clear hv1;subst q
 refine e2c hv2 fun vy r3 q hy hv3=>?_;clear hv2;subst q
 refine e2c hv3 fun vz r4 q hz hv4=>?_;clear hv3;subst q
 subst hv4
 refine uD Xs rfl ?_ _ _ (h va vx vy vz _) (r:=fun D=>[(m,va),(n, .ref D)]) (fun D=>rfl)
 refine e1e (I.pushG {cls:=.type "tuple",data:=.seq #[vx,vy,vz]} rfl) fun G' le I' g' k' o'=>?_
 refine ⟨G',⟨rfl,rfl,rfl⟩,le,I',fun a j=>by rw [o'];exact hno a j,rfl,va,_,rfl,ha.le le, .ref s.heap.objs.size,[],rfl,?_,rfl⟩
 exact vp (x:=.tup [x,y,z]) ⟨s.heap.objs.size,_,[vx,vy,vz],0,rfl,g',rfl,vx,_,rfl,PRel.mono le.g hx,vy,_,rfl,PRel.mono le.g hy,vz,_,rfl,PRel.mono le.g hz,rfl⟩
end
end
section
noncomputable section
noncomputable abbrev zy:=PySem.W.Fast.tw10156331382660048174
noncomputable abbrev Du:=PySem.W.Fast.tw11892475500146522536
noncomputable abbrev C0:=PySem.W.Fast.tw14364793385576792824
noncomputable abbrev okQ:=PySem.W.Fast.tw6613529449190102663
noncomputable abbrev B4:=PySem.W.Fast.tw3805553451399329143
noncomputable abbrev qj:=PySem.W.Fast.tw1435165496053646825
noncomputable abbrev v8:=PySem.W.Fast.tw14289696077712309145
noncomputable abbrev vi:=PySem.W.Fast.tw8920871248978507458
noncomputable abbrev Bv:=PySem.W.Fast.tw4187177175401517315
theorem sP : @stepT=zy:=PySem.W.Fast.te10156331382660048174
theorem wn : @denote=Du:=PySem.W.Fast.te11892475500146522536
theorem uL : @treeTable=C0:=PySem.W.Fast.te14364793385576792824
theorem BG : @stepOk=okQ:=PySem.W.Fast.te6613529449190102663
theorem x5 : @Thread.atExitBegin=B4:=PySem.W.Fast.te3805553451399329143
theorem uO : @start=qj:=PySem.W.Fast.te1435165496053646825
theorem v7 : @fenceModules? = v8:=PySem.W.Fast.te14289696077712309145
theorem vh : @Heap.nsMap=vi:=PySem.W.Fast.te8920871248978507458
theorem xw : @openSeen=Bv:=PySem.W.Fast.te4187177175401517315
noncomputable def BU (p:Program) (w:World):Nat→SharedT→Thread→Option SharedT
 |0,_,_=>none
 |n+1,s,t=>match B4 t with
  |some []=>some s
  |some (_::_)=>none
  |none=>match zy (Du C0) p w s t with
   |some (s',t')=>BU p w n s' t'
   |none=>none
noncomputable def Be (p:Program) (w:World) (n₀:Nat) (ann:Option Value):Nat→SharedT→Thread→Option SharedT
 |0,_,_=>none
 |n+1,s,t=>match through t with
  |true=>some s
  |false=>match okQ n₀ ann t with
   |false=>none
   |true=>match zy (Du C0) p w s t with
    |some (s',t')=>Be p w n₀ ann n s' t'
    |none=>none
theorem vU {p:Program} {w:World}:∀{n:Nat} {s r:SharedT} {t:Thread},BU p w n s t=some r→importEnds treeTable p w n s.abs t=some r.abs
 |0,_,_,_,h=>by exact ns h
 |n+1,s,r,t,h=>by
  unfold BU at h
  unfold importEnds
  rw [←x5] at h
  cases he:t.atExitBegin with
  |some l=>cases l with
   |nil=>rw [he] at h;obtain rfl:=sj h;rfl
   |cons a l=>rw [he] at h;exact ns h
  |none=>
   rw [he] at h
   rw [←sP,←wn,←uL] at h
   cases hs:stepT (denote treeTable) p w s t with
   |none=>rw [hs] at h;exact ns h
   |some x=>obtain ⟨s',t'⟩:=x;rw [hs] at h;dsimp only;rw [stepT_spec hs];exact vU h
theorem uI {p:Program} {w:World} {n₀:Nat} {ann:Option Value}:∀{n:Nat} {s r:SharedT} {t:Thread},Be p w n₀ ann n s t=some r→topRun treeTable p w n₀ ann n s.abs t=some r.abs
 |0,_,_,_,h=>by exact ns h
 |n+1,s,r,t,h=>by
  unfold Be at h
  unfold topRun
  cases he:through t with
  |true=>rw [he] at h;obtain rfl:=sj h;rfl
  |false=>
   rw [he,←BG] at h
   cases hk:stepOk n₀ ann t with
   |false=>rw [hk] at h;exact ns h
   |true=>
    rw [hk,←sP,←wn,←uL] at h
    cases hs:stepT (denote treeTable) p w s t with
    |none=>rw [hs] at h;exact ns h
    |some x=>obtain ⟨s',t'⟩:=x;rw [hs] at h;dsimp only;rw [stepT_spec hs];exact uI h
noncomputable def Ch:List Obj→Nat→BT→Option (BT × Nat)
 |[],n,t=>some (t,n)
 |o::l,n,t=>match ((t.ins n o).get n).isSome with
  |true=>Ch l (n+1) (t.ins n o)
  |false=>none
noncomputable def oH (s:Shared):Option SharedT:=match Ch s.heap.objs.toList 0 .nil with
 |some (t,n)=>some ⟨t,n,s.heap.life,s.gens,s.drawn,s.toks,s.os⟩
 |none=>none
theorem wE {life:Life}:∀{l:List Obj} {n:Nat} {t t':BT} {n':Nat},Ch l n t=some (t',n')→∀{k:List Obj},absHeap t n life=⟨k.toArray,life⟩→absHeap t' n' life=⟨(k++l).toArray,life⟩
 |[],n,t,t',n',h,k,e=>by cases h;rw [List.append_nil];exact e
 |o::l,n,t,t',n',h,k,e=>by
  unfold Ch at h
  cases q:((t.ins n o).get n).isSome with
  |false=>rw [q] at h;exact ns h
  |true=>
   rw [q] at h
   have e2:absHeap (t.ins n o) (n+1) life=⟨(k++[o]).toArray,life⟩:=by
    rw [absHeap_ins q,e]
    refine (?_:Heap.mk _ _=_)
    simp
   have:=wE h e2
   rw [this,List.append_assoc];rfl
theorem oG {s:Shared} {x:SharedT} (h:oH s=some x):x.abs=s:=by
 unfold oH at h
 cases q:Ch s.heap.objs.toList 0 .nil with
 |none=>rw [q] at h;exact ns h
 |some r=>
  obtain ⟨t,n⟩:=r
  rw [q] at h
  obtain rfl:=sj h
  have e:absHeap t n s.heap.life=s.heap:=(wE (life:=s.heap.life) q (k:=[]) rfl).trans rfl
  refine (?_:Shared.mk (absHeap t n s.heap.life) s.gens s.drawn s.toks s.os=s)
  rw [e]
noncomputable def vf (p:Program) (w:World) (N:Nat):Option (Shared × SharedT):=(oH (qj (opening p)).1).bind fun s=>(BU (opening p) w N s (qj (opening p)).2).bind fun s=>(v8 p s.abs).bind fun s₀=>
 bif s₀.heap.isNs mainGlobals&&s₀.gens.size==0 then (oH s₀).bind fun s=>(Be p w s₀.heap.objs.size (vi s₀.heap mainGlobals "__annotations__") N s (topStub p)).map fun s₁=>(s₀,s₁) else none
theorem pY {α β:Type} {o:Option α} {k:α→Option β} {r:β} {G:Prop} (h:o.bind k=some r) (K:∀a,o=some a→k a=some r→G):G:=by
 cases o with
 |none=>exact ns h
 |some a=>exact K a rfl h
theorem Au {α:Type} {b:Bool} {x:Option α} {r:α} {G:Prop} (h:(bif b then x else none)=some r) (K:b=true→x=some r→G):G:=by
 cases b with
 |false=>exact ns h
 |true=>exact K rfl h
theorem xI {p:Program} {w:World} {N:Nat} {s₀:Shared} {s₁:SharedT} {G:Prop} (h:vf p w N=some (s₀,s₁))
  (K:∀a b d,oH (qj (opening p)).1=some a→BU (opening p) w N a (qj (opening p)).2=some b→v8 p b.abs=some s₀→(s₀.heap.isNs mainGlobals&&s₀.gens.size==0)=true→oH s₀=some d→
   Be p w s₀.heap.objs.size (vi s₀.heap mainGlobals "__annotations__") N d (topStub p)=some s₁→G):G:=
 pY h fun a h1 h=>pY h fun b h2 h=>pY h fun c h3 h=>Au h fun h4 h=>pY h fun d h5 h=>(Option.map_eq_some_iff.mp h).elim fun e h=>by cases h.2;exact K a b d h1 h2 h3 h4 h5 h.1
theorem xH {p:Program} {w:World} {N:Nat} {s₀:Shared} {s₁:SharedT} (h:vf p w N=some (s₀,s₁)) :
  fencedOpening treeTable p w N=some s₀∧(s₀.heap.isNs mainGlobals&&s₀.gens.size==0)=true∧topRun treeTable p w s₀.heap.objs.size (s₀.heap.nsMap mainGlobals "__annotations__") N s₀ (topStub p)=some s₁.abs:=
 xI h fun a b d h1 h2 h3 h4 h5 h6=>by
  rw [←uO] at h1 h2
  rw [←v7] at h3
  rw [←vh] at h6
  have i1:=vU h2
  rw [oG h1] at i1
  have i2:=uI h6
  rw [oG h5] at i2
  exact ⟨by unfold fencedOpening;rw [i1];exact h3,h4,i2⟩
noncomputable def xO {α:Type} (p q:Program) (loose:List Str) (Yt:SharedT→α) (x:Shared × SharedT):=
 (staticsOk (importedModules p.main.body) x.1.heap x.2.abs.heap&&namesBound p x.2.abs.heap&&gensDone x.2.abs&&laidKept x.1.heap x.2.abs.heap,Bv q loose (importedModules p.main.body) (fun _=>true) true x.2.abs,Yt x.2)
theorem Dj {p q:Program} {loose:List Str} {α:Type} {Yf:Shared→α} {Yt:SharedT→α} {Ya:World→α} {N:Nat} (hy:∀x,Yt x=Yf x.abs) (h:∀w,(vf p w N).map (xO p q loose Yt)=some (true,openGood q loose,Ya w)):LeftO p q loose (fun _=>true) Yf Ya N:=fun w=>by
 refine e1b (Option.map_eq_some_iff.mp (h w)) fun zn1 e l=>?_;clear h;obtain ⟨s₀,s₁⟩:=zn1
 refine e0c (xH e) fun e1 e2 e3=>?_
 unfold xO at l
 rw [←xw] at l
 refine e0b (Prod.mk.inj l) fun l1 l2=>?_
 dsimp only at l1 l2
 rw [hy] at l2
 clear hy l e;generalize s₁.abs=s₁ at *
 have t:topFrom treeTable p w N s₀=some s₁:=by
  unfold topFrom
  rw [e2,e3]
  refine (?_:(match staticsOk (importedModules p.main.body) s₀.heap s₁.heap&&namesBound p s₁.heap&&gensDone s₁&&laidKept s₀.heap s₁.heap with|true=>_|false=>_)=_)
  rw [l1]
 unfold openEnds
 rw [e1]
 refine (?_:(topFrom treeTable p w N _).map _=_)
 rw [t]
 exact congrArg some l2
end
end
section
noncomputable section
inductive BK where
 |pos (k:Nat)|dflt (k:Nat) (d:P)|kw (k:Nat) (n:Str)|star
structure Fe where
 fa:Addr
 pn:List Str
 ln:List Str
 own:List Str
 bk:BK
 s:S
structure yG where
 tb:Tb
 fm:List (Addr × Fm)
 cl:List (Addr × Addr)
 fe:List Fe
noncomputable def Ag (K:Frag) (tb:Tb):Bool:=tb.glb.all fun e=>jK K e.1 e.2
noncomputable def DE (K:Frag) (tb:Tb):Bool:=tb.at_.all fun e=>e.2.slots.all (fun x=>jD K x.1 e.1 x.2)&&e.2.stat.all fun x=>my K x.1 e.1 x.2
noncomputable def xR (K:Frag) (n:Str) (x:Addr × P):Bool:=match x.2 with|.fn .int=>rW K x.1 n|_=>false
theorem xQ {K:Frag} {H0:Heap} {prog:Program} {wd:World} (X:K.In H0) {c:Addr} {n:Str} {x:P} (h:xR K n (c,x)=true):wW H0 prog wd n c x:=by
 unfold xR at h
 dsimp only at h
 split at h
 ·exact ud X h
 ·exact ft h
noncomputable def Df (K:Frag) (tb:Tb):Bool:=tb.me.all fun e=>e.2.fn.all (fun x=>mB K x.1 e.1 x.2)&&e.2.val.all (fun x=>xR K e.1 x)&&(!e.2.bd||e.2.fn.all fun x=>pW K x.1 e.1 x.2)&&(e.2.bm==.none||e.1==tI e.2.bm)
noncomputable def CS (K:Frag) (c:Addr × Addr):Bool:=makesIn K c.1&&findIn K (.ref c.1) "__init__" == some (some (.ref c.2))&&typeIn K (.ref c.2)==some (.type "function")
noncomputable abbrev Bd:=Option (List (Str × Value))
noncomputable abbrev Bt:=Option (List Str × List Value × Bool)
noncomputable def Bl (d:P) (k:Nat):Bd→Bt
 |some l=>some (l.map (·.1),(l.map (·.2)).take k,match (l.map (·.2)).drop k with|[v]=>yR d v|_=>false)
 |none=>none
noncomputable abbrev Ob:=Bd × Bt × Bd × Option (Obj × (Addr→Bd))
noncomputable def BK.obs (K:Frag) (fd:FuncData) (S:Setting) (v:List Value) (a:Value):BK→Ob
 |.pos k=>(peek K S (bindArgs fd ⟨v.take k,[]⟩),none,none,none)
 |.dflt k d=>(none,Bl d k (peek K S (bindArgs fd ⟨v.take k,[]⟩)),peek K S (bindArgs fd ⟨v.take (k+1),[]⟩),none)
 |.kw k n=>(peek K S (bindArgs fd ⟨v.take k,[(n,a)]⟩),none,none,none)
 |.star=>(none,none,none,peek1 K S (bindArgs fd ⟨v.take 4,[]⟩))
noncomputable def BK.exp (pn:List Str) (v:List Value) (a:Value):BK→Ob
 |.pos k=>(some (pn.zip (v.take k)),none,none,none)
 |.dflt k d=>(none,some (pn,v.take k,true),some (pn.zip (v.take (k+1))),none)
 |.kw k n=>(some (pn.zip (v.take k++[a])),none,none,none)
 |.star=>(none,none,none,some ({cls:=.type "tuple",data:=.seq ((v.take 4).drop 1).toArray},fun D=>some (pn.zip [v.headD .none, .ref D])))
noncomputable def BK.fit (n:Nat):BK→Bool
 |.pos k=>n==k&&Nat.ble k 6|.dflt k _=>n==k+1&&Nat.ble k 5|.kw k _=>n==k+1&&Nat.ble k 6|.star=>n==2
noncomputable abbrev F6 (β:Type):=Value→Value→Value→Value→Value→Value→Value→β
noncomputable def ff6 {β:Type} (f:List Value→Value→β):F6 β:=fun a0 a1 a2 a3 a4 a5 a=>f [a0,a1,a2,a3,a4,a5] a
noncomputable abbrev Fo:=Option (Bool × Option S × (Setting→F6 Ob))
noncomputable def Fe.see (tb:Tb) (K:Frag) (e:Fe):Fo:=(A4 K e.fa).map fun fd=>(tz K e.fa e.pn e.ln,trB tb ⟨fd.scope,(e.pn++e.ln).map some,e.own⟩ (wF fd.body),fun S=>ff6 fun v a=>e.bk.obs K fd S v a)
noncomputable def Fe.exp (e:Fe):Fo:=some (true,some e.s,fun S=>ff6 fun v a=>e.bk.exp e.pn v a)
noncomputable abbrev DZ:=Bool × List Fo
noncomputable def yG.see (t:yG) (K:Frag):DZ:=(Ag K t.tb&&DE K t.tb&&Df K t.tb&&t.fm.all (fun x=>nE K x.1 x.2)&&t.cl.all (CS K),t.fe.map (Fe.see t.tb K))
noncomputable def yG.exp (t:yG):DZ:=(true,t.fe.map Fe.exp)
section
variable {K:Frag} {H0:Heap} {prog:Program} {wd:World} {t:yG}
theorem iw {α β:Type} [BEq α] [LawfulBEq α] {p:α × β→Bool} {n:α} {x:β}:∀{l:List (α × β)},l.all p=true→List.lookup n l=some x→p (n,x)=true
 |[],_,h=>ns h
 |(k,v)::l,ha,h=>by
  rw [List.all_cons,Bool.and_eq_true] at ha
  rw [List.lookup_cons] at h
  cases q:n==k with
  |true=>rw [q] at h;obtain rfl:=sj h;rw [eq_of_beq q];exact ha.1
  |false=>rw [q] at h;exact iw ha.2 h
theorem iZ (h:t.see K=t.exp):Ag K t.tb=true∧DE K t.tb=true∧Df K t.tb=true∧t.fm.all (fun x=>nE K x.1 x.2)=true∧t.cl.all (CS K)=true∧t.fe.map (Fe.see t.tb K)=t.fe.map Fe.exp:=by
 have h1:(Ag K t.tb&&DE K t.tb&&Df K t.tb&&t.fm.all (fun x=>nE K x.1 x.2)&&t.cl.all (CS K))=true:=congrArg Prod.fst h
 have h2:=congrArg Prod.snd h
 rw [Bool.and_eq_true,Bool.and_eq_true,Bool.and_eq_true,Bool.and_eq_true] at h1
 exact ⟨h1.1.1.1.1,h1.1.1.1.2,h1.1.1.2,h1.1.2,h1.2,h2⟩
theorem zx (X:K.In H0) {mg mb:Str→Option Value} (hg:H0.Ns mainGlobals mg) (hb:H0.Ns builtinsNs mb) (hbb:∀x:Str,x≠"__name__"→mb x=bootBuiltins x) (h:t.see K=t.exp):CG H0 prog wd t.tb:=by
 have hs:=iZ h
 have at2:∀n i,t.tb.at_.lookup n=some i→i.slots.all (fun x=>jD K x.1 n x.2)=true∧i.stat.all (fun x=>my K x.1 n x.2)=true:=fun n i e=>by
  have:=iw hs.2.1 e
  rw [Bool.and_eq_true] at this
  exact this
 have me2:∀n m,t.tb.me.lookup n=some m→((m.fn.all (fun x=>mB K x.1 n x.2)=true∧m.val.all (fun x=>xR K n x)=true)∧(!m.bd||m.fn.all fun x=>pW K x.1 n x.2)=true)∧(m.bm==.none||n==tI m.bm)=true:=fun n m e=>by
  have:=iw hs.2.2.1 e
  rw [Bool.and_eq_true,Bool.and_eq_true,Bool.and_eq_true] at this
  exact this
 refine ⟨fun n x e=>r5 X hg hb hbb (iw hs.1 e),fun n i e=>⟨fun c k e2=>qp X (iw (at2 n i e).1 e2),fun c x e2=>rG X (iw (at2 n i e).2 e2)⟩,
  fun n i e=>⟨fun c k e2=>qn X (iw (at2 n i e).1 e2)⟩,fun n m e=>⟨fun c fa e2=>rP X (iw (me2 n m e).1.1.1 e2),fun c x e2=>xQ X (iw (me2 n m e).1.1.2 e2),fun q c fa e2=>?_,fun q=>?_⟩⟩
 ·have:=(me2 n m e).1.2
  rw [q] at this
  exact up X (iw this e2)
 ·have:=(me2 n m e).2
  rw [Bool.or_eq_true] at this
  exact this.elim (fun z=>absurd (by simpa using z) q) eq_of_beq
theorem xY (X:K.In H0) (h:t.see K=t.exp) {Φ:Addr→Option Ctr} {own:Addr→Bool}:ux H0 ⟨Φ,fun a=>t.fm.lookup a,own⟩:=fun S F e=>uf X (iw (iZ h).2.2.2.1 e)
theorem Aw (h:t.see K=t.exp) {c fi:Addr} (e:t.cl.lookup c=some fi):makesIn K c=true∧findIn K (.ref c) "__init__" = some (some (.ref fi))∧typeIn K (.ref fi)=some (.type "function"):=by
 have:=iw (iZ h).2.2.2.2.1 e
 unfold CS at this
 rw [Bool.and_eq_true,Bool.and_eq_true] at this
 exact ⟨this.1.1,eq_of_beq this.1.2,eq_of_beq this.2⟩
theorem yY {α β:Type} {f g:α→β}:∀{l:List α},l.map f=l.map g→∀{i:Nat} {e:α},l[i]? = some e→f e=g e
 |[],_,i,e,h=>by exact ns h
 |a::l,h,0,e,q=>by obtain rfl:=sj q;exact (List.cons.inj h).1
 |a::l,h,i+1,e,q=>yY (List.cons.inj h).2 q
theorem Ds (h:t.see K=t.exp) {i:Nat} {e:Fe} (q:t.fe[i]? = some e):∃fd,A4 K e.fa=some fd∧tz K e.fa e.pn e.ln=true∧trB t.tb ⟨fd.scope,(e.pn++e.ln).map some,e.own⟩ (wF fd.body)=some e.s∧
  ∀S a0 a1 a2 a3 a4 a5 a,e.bk.obs K fd S [a0,a1,a2,a3,a4,a5] a=e.bk.exp e.pn [a0,a1,a2,a3,a4,a5] a:=by
 have:=yY (iZ h).2.2.2.2.2 q
 unfold Fe.see Fe.exp at this
 cases hf:A4 K e.fa with
 |none=>rw [hf] at this;exact ns this
 |some fd=>
  rw [hf] at this
  have:=Option.some.inj this
  have h1:=congrArg (fun x=>x.2.2) this
  exact ⟨fd,rfl,congrArg Prod.fst this,congrArg (fun x=>x.2.1) this,fun S a0 a1 a2 a3 a4 a5 a=>congrFun (congrFun (congrFun (congrFun (congrFun (congrFun (congrFun (congrFun h1 S) a0) a1) a2) a3) a4) a5) a⟩
theorem six {w:List Value} (h:w.length=6):∃a0 a1 a2 a3 a4 a5,w=[a0,a1,a2,a3,a4,a5]:=by
 refine e2a (List.exists_cons_of_length_eq_add_one h) fun a0 w zq2=>?_;subst zq2
 refine e2a (List.exists_cons_of_length_eq_add_one (Nat.succ.inj h)) fun a1 w zq2=>?_;subst zq2
 refine e2a (List.exists_cons_of_length_eq_add_one (Nat.succ.inj (Nat.succ.inj h))) fun a2 w zq2=>?_;subst zq2
 refine e2a (List.exists_cons_of_length_eq_add_one (Nat.succ.inj (Nat.succ.inj (Nat.succ.inj h)))) fun a3 w zq2=>?_;subst zq2
 refine e2a (List.exists_cons_of_length_eq_add_one (Nat.succ.inj (Nat.succ.inj (Nat.succ.inj (Nat.succ.inj h))))) fun a4 w zq2=>?_;subst zq2
 refine e2a (List.exists_cons_of_length_eq_add_one (Nat.succ.inj (Nat.succ.inj (Nat.succ.inj (Nat.succ.inj (Nat.succ.inj h)))))) fun a5 w zq2=>?_;subst zq2
 exact ⟨a0,a1,a2,a3,a4,a5,congrArg (fun w=>[a0,a1,a2,a3,a4,a5]++w) (List.eq_nil_of_length_eq_zero (Nat.succ.inj (Nat.succ.inj (Nat.succ.inj (Nat.succ.inj (Nat.succ.inj (Nat.succ.inj h)))))))⟩
theorem xm {vs:List Value} (h:vs.length≤6):∃a0 a1 a2 a3 a4 a5,vs=[a0,a1,a2,a3,a4,a5].take vs.length:=by
 obtain ⟨a0,a1,a2,a3,a4,a5,e⟩:=six (w:=vs++List.replicate (6-vs.length) .none) (by rw [List.length_append,List.length_replicate];exact Nat.add_sub_of_le h)
 exact ⟨a0,a1,a2,a3,a4,a5,by rw [←e,List.take_left]⟩
noncomputable def BK.fn:BK→List V→List (Str × P)→Option (List V)
 |.pos k=>db k|.dflt k d=>uu k d|.kw k n=>ut k n|.star=>wH
theorem sC {fd:FuncData} {pn:List Str} {k:Nat} (X:K.In H0) {d:P} (hk:pn.length=k+1) (h1:∀vs:List Value,vs.length=k→∀S,∃dv,yR d dv=true∧peek K S (bindArgs fd ⟨vs,[]⟩)=some (pn.zip (vs++[dv])))
  (h2:∀vs:List Value,vs.length=k+1→∀S,peek K S (bindArgs fd ⟨vs,[]⟩)=some (pn.zip vs)):pf H0 prog wd fd pn (uu k d):=by
 intro A f G s σ args kws vs kvs env I hno hv hkr hb
 have Xs:K.In s.heap:=X.keeps fun b o h=>I.gg b o (I.base b o h)
 unfold uu at hb
 cases kws with
 |cons x r=>exact ns hb
 |nil=>
  subst hkr
  dsimp only at hb
  cases q:Nat.beq args.length k with
  |true=>
   rw [q] at hb
   obtain rfl:=sj hb
   have hvl:vs.length=k:=by rw [hv.length];exact Nat.eq_of_beq_eq_true q
   refine e1b (h1 vs hvl ⟨prog,wd.params⟩) fun dv hd h1=>?_
   refine cQ ((Looks.of_peek Xs h1).here ?_)
   exact ⟨G, .refl _, .refl _,I,hno,ph (by rw [List.length_append,hvl,hk];rfl),by rw [pg (by rw [List.length_append,hvl,hk];rfl)];exact hv.snoc (vp (x:=d) (na hd))⟩
  |false=>
   rw [q] at hb
   dsimp only at hb
   cases q2:Nat.beq args.length (k+1) with
   |false=>rw [q2] at hb;exact ns hb
   |true=>
    rw [q2] at hb
    obtain rfl:=sj hb
    have hvl:vs.length=k+1:=by rw [hv.length];exact Nat.eq_of_beq_eq_true q2
    refine cQ ((Looks.of_peek Xs (h2 vs hvl _)).here ?_)
    exact ⟨G, .refl _, .refl _,I,hno,ph (by rw [hvl,hk]),by rw [pg (by rw [hvl,hk])];exact hv⟩
theorem xn {d:P} {k:Nat} {x:Bd} {pn:List Str} {vs:List Value} (h:Bl d k x=some (pn,vs,true)):∃dv,yR d dv=true∧x=some (pn.zip (vs++[dv])):=by
 cases x with
 |none=>exact ns h
 |some l=>
  have e:=Option.some.inj h
  have e1:l.map (·.1)=pn:=congrArg Prod.fst e
  have e2:(l.map (·.2)).take k=vs:=congrArg (fun x=>x.2.1) e
  have e3:(match (l.map (·.2)).drop k with|[v]=>yR d v|_=>false)=true:=congrArg (fun x=>x.2.2) e
  have e4:(l.map (·.2)).take k++(l.map (·.2)).drop k=l.map (·.2):=List.take_append_drop ..
  generalize (l.map (·.2)).drop k=r at e3 e4
  cases r with
  |nil=>exact ft e3
  |cons v r=>cases r with
   |cons _ _=>exact ft e3
   |nil=>
    refine ⟨v,e3,?_⟩
    rw [e2] at e4
    rw [e4,←e1,←List.unzip_fst,←List.unzip_snd,List.zip_unzip]
theorem AC {fd:FuncData} {pn:List Str} {bk:BK} (X:K.In H0) (hf:bk.fit pn.length=true) (h:∀S a0 a1 a2 a3 a4 a5 a,bk.obs K fd S [a0,a1,a2,a3,a4,a5] a=bk.exp pn [a0,a1,a2,a3,a4,a5] a):pf H0 prog wd fd pn bk.fn:=by
 cases bk with
 |pos k=>
  refine e0b (Bool.and_eq_true_iff.mp hf) fun f1 f2=>?_
  refine rk X (eq_of_beq f1) fun vs hv S=>?_
  obtain ⟨a0,a1,a2,a3,a4,a5,e⟩:=xm (vs:=vs) (hv▸Nat.le_of_ble_eq_true f2)
  have:=congrArg Prod.fst (h S a0 a1 a2 a3 a4 a5 .none)
  rw [hv] at e
  rw [e];exact this
 |dflt k d=>
  refine e0b (Bool.and_eq_true_iff.mp hf) fun f1 f2=>?_
  have f2:=Nat.le_of_ble_eq_true f2
  refine sC X (eq_of_beq f1) (fun vs hv S=>?_) fun vs hv S=>?_
  ·obtain ⟨a0,a1,a2,a3,a4,a5,e⟩:=xm (vs:=vs) (hv▸Nat.le_succ_of_le f2)
   have:=congrArg (fun x=>x.2.1) (h S a0 a1 a2 a3 a4 a5 .none)
   rw [hv] at e
   rw [e];exact xn this
  ·obtain ⟨a0,a1,a2,a3,a4,a5,e⟩:=xm (vs:=vs) (hv▸Nat.succ_le_succ f2)
   have:=congrArg (fun x=>x.2.2.1) (h S a0 a1 a2 a3 a4 a5 .none)
   rw [hv] at e
   rw [e];exact this
 |kw k n=>
  refine e0b (Bool.and_eq_true_iff.mp hf) fun f1 f2=>?_
  refine ur X (eq_of_beq f1) fun vs v hv S=>?_
  obtain ⟨a0,a1,a2,a3,a4,a5,e⟩:=xm (vs:=vs) (hv▸Nat.le_of_ble_eq_true f2)
  have:=congrArg Prod.fst (h S a0 a1 a2 a3 a4 a5 v)
  rw [hv] at e
  rw [e];exact this
 |star=>
  match pn,hf with
  |[m,n],_=>exact uw X fun a b c d S=>congrArg (fun x=>x.2.2.2) (h S a b c d .none .none .none)
theorem fn_of {d:Nat} {Φ:Addr→Option Ctr} {own:Addr→Bool} {ctr:Ctr} (hlim:H0.NoLimit) (hsm:∃b o,sysModules≤b∧H0.get? b=some o) (X:K.In H0) (T:CG H0 prog wd t.tb) (h:t.see K=t.exp) (hP:wU H0 prog wd d ⟨Φ,fun a=>t.fm.lookup a,own⟩)
  (i:Nat) {e:Fe} (q:t.fe[i]? = some e) (hb:e.bk.fit e.pn.length=true) (hw:∀args kws objs Q,ctr args kws objs Q→eY e.bk.fn e.ln.length e.s ⟨Φ,fun a=>t.fm.lookup a,own⟩ args kws objs Q):nY H0 prog wd (d+1) e.fa ctr:=by
 refine e1d (Ds h q) fun fd h1 h2 h3 h4=>?_
 exact (nY.of_body hlim (qJ X h1 h2) (AC X hb h4) (fun A e' gd hsc hgl hbi=>C3 hP (xY X h) gd hsm T (cx:=⟨fd.scope,(e.pn++e.ln).map some,e.own⟩) hsc (qJ X h1 h2).kind hgl hbi (Bc h3))).weaken (Nat.le_refl _) hw
end
noncomputable def xX (as:List Addr) (h:Heap):Frag:=as.filterMap fun a=>(h.get? a).map fun o=>(a,o)
noncomputable def xV (as:List Addr) (t:BT) (n:Nat):Frag:=as.filterMap fun a=>match Nat.blt a n with
 |true=>(alive ((t.get a).getD default)).map fun o=>(a,o)
 |false=>none
theorem xW (as:List Addr) (h:Heap):(xX as h).In h:=by
 intro a o e
 have key:∀(l:List Nat),List.lookup a (l.filterMap fun a=>(h.get? a).map fun o=>(a,o))=some o→h.get? a=some o:=by
  intro l
  induction l with
  |nil=>intro e;exact ns e
  |cons b l ih=>
   intro e
   rw [List.filterMap_cons] at e
   cases q:h.get? b with
   |none=>rw [q] at e;exact ih e
   |some x=>
    rw [q] at e
    dsimp only [Option.map_some] at e
    rw [List.lookup_cons] at e
    cases z:a==b with
    |true=>rw [z] at e;obtain rfl:=sj e;rw [show a=b by simpa using z];exact q
    |false=>rw [z] at e;exact ih e
 exact key _ e
theorem xU (as:List Addr) {t:BT} {n:Nat} {life:Life}:xV as t n=xX as (absHeap t n life):=by
 unfold xV xX
 congr 1
 funext a
 cases q:Nat.blt a n with
 |false=>rw [abs_get_none (fun z=>by rw [show Nat.blt a n=true from Nat.ble_eq_true_of_le z] at q;exact tf q)];rfl
 |true=>
  have lt:a<n:=Nat.le_of_ble_eq_true q
  have e:(absHeap t n life).get? a=alive ((t.get a).getD default):=by
   unfold Heap.get?
   rw [absHeap_at,if_pos lt]
   generalize (t.get a).getD default=o
   obtain ⟨c,d,dt,sl⟩:=o
   cases dt<;>rfl
  rw [e]
end
end
section
noncomputable section
theorem De {K:Frag} {h:Heap} {mg:Str→Option Value} {n:Str} {a:Addr} {v:Value} (X:K.In h) (hg:h.Ns mainGlobals mg) (hf:jK K n (.st a)=true) (hn:mg n=some v):v=.ref a:=by
 unfold jK at hf
 split at hf
 ·rename_i v' hv
  have:=mg_of X hg hv
  rw [hn] at this
  obtain rfl:=sj this
  exact na (g:=fun _=>none) hf
 ·rename_i hv
  have:=mg_none_of X hg hv
  rw [hn] at this
  exact sn this
 ·exact ft hf
theorem tP {P:Params} {h:Heap} {xs:List Int}:∀{vs:List Value},WellAll P h vs (xs.map .int)→dJ h.get? (xs.map .int) vs:=by
 induction xs with
 |nil=>intro vs w;cases w;exact rfl
 |cons x xs ih=>intro vs w;cases w with|cons a r=>cases a;exact ⟨_,_,rfl,⟨_,rfl⟩,ih r⟩
theorem Dd {xs:List Int} (h:WTm.holds [] (.and (.not (.lt (.lit (.int ((63:Nat):Int))) (.len (.arg 0)))) (.lit (.bool true))) {args:=[.list (xs.map .int)]}=true):xs.length≤63:=by
 by_cases q:(63:Int)<xs.length
 ·exfalso
  have e:WTm.value [] (.lt (.lit (.int ((63:Nat):Int))) (.len (.arg 0))) {args:=[.list (xs.map .int)]}=some (.bool (decide ((63:Int)<xs.length))):=by
   simp only [WTm.value,List.getElem?_cons_zero,List.length_map];rfl
  have e2:WTm.value [] (.not (.lt (.lit (.int ((63:Nat):Int))) (.len (.arg 0)))) {args:=[.list (xs.map .int)]}=some (.bool false):=by
   rw [WTm.value,e,decide_eq_true q];rfl
  unfold WTm.holds at h
  rw [WTm.value,e2] at h
  exact ft h
 ·exact cT [] [_] ab (.n 63) 1 [.i 1 af (.n 63)] rfl (Int.not_lt.mp q)
theorem zT (args:List WData):(WShape.has [] (.bool true) .bool&&WTm.holds [] (.eq .res (.lit (.bool true))) {args:=args,res:=some (.bool true),after:=args})=true:=by
 have e:WTm.value [] (.eq .res (.lit (.bool true))) {args:=args,res:=some (.bool true),after:=args}=some (.bool true):=by
  simp [WTm.value,same]
 unfold WTm.holds
 rw [e]
 simp [WShape.has,WShape.arms]
@[irreducible] noncomputable def AA:Ctr:=fun args kws objs Q=>∃xs:List Int,args=[.p (.lst (xs.map .int))]∧kws=[]∧objs=[]∧xs.length≤64∧Q (.p (.bool true)) []
noncomputable def qOf (l:OpenLaw):Program:={l.prog with main:={l.prog.main with body:=l.prog.main.body.filter fun st=>match st with|.FunctionDef n ..=>n==l.name|_=>false}}
noncomputable def vI (l:OpenLaw):List Str:=l.prog.boundNames.filter (· != l.name)
structure Gd (t:yG) (K:Frag) (H0:Heap) (prog:Program) (wd:World):Prop where
 X:K.In H0
 T:CG H0 prog wd t.tb
 lim:H0.NoLimit
 sm:∃b o,sysModules≤b∧H0.get? b=some o
 see:t.see K=t.exp
theorem Ai {t:yG} {K:Frag} {prog:Program} {w:World} {s:Shared} {mg:Str→Option Value} {fl a:Addr} (B:Gd t K s.heap prog w) (hg:s.heap.Ns mainGlobals mg) (hgl:jK K "law" (.st fl)=true) (F:nY s.heap prog w 40 fl AA)
  (hmg:mg "law" = some (.ref a)) {vals:List Value} {xs:List Int} (hw:WellAll w.params s.heap vals [.list (xs.map .int)]) (hl:xs.length≤63) :
  wpN (model prog w) callerA (_root_.PySem.call (.ref a) vals) (fun v s'=>v=.bool true∧(∀b o,s.heap.get? b=some o→s'.heap.get? b=some o)∧s'.os=s.os∧s'.gens=s.gens) s:=by
 cases De B.X hg hgl hmg
 refine e2c (wellAll_cons_inv hw) fun v vs' zq2 hv hvs=>?_;clear hw hmg hgl hg B mg K t;subst zq2
 cases hvs
 cases hv with
 |list ho hit=>
  rename_i l vs
  have I:Inv s.heap (fun _=>none) ⟨s.heap.get?,⟨fun _=>none,fun _ _ _=>none⟩,fun _=>none⟩ [] s.heap:={
   base:=fun _ _ e=>e
   gg:=fun _ _ e=>e
   ff:=fun _ _ e=>ns e
   fg:=fun _ _ e=>ns e
   own:=fun _ _ e=>ns e
   obj:=fun i o e=>by exact ns e
   dom:=fun _ _=>⟨rfl,fun _ _=>rfl⟩}
  have hc:AA [.p (.lst (xs.map .int))] [] [] (fun v _=>v=.p (.bool true)):=by
   unfold AA;exact ⟨xs,rfl,rfl,rfl,Nat.le_succ_of_le hl,rfl⟩
  refine wpN_call (dY (F.call callerA (fun _=>none) ⟨s.heap.get?,⟨fun _=>none,fun _ _ _=>none⟩,fun _=>none⟩ s [] [.p (.lst (xs.map .int))] [] [.ref l] [] _ ⟨rfl,rfl,by decide,by decide⟩ I (fun _ _ e=>ns e)
   ⟨_,[],rfl,vp (x:=.lst (xs.map .int)) ⟨l,_,vs,0,rfl,ho,rfl,tP hit⟩,rfl⟩ rfl hc) fun fl s' zp=>e1b zp fun v hfl zp=>e3f zp fun G' σ' x sm le hl I' hx q=>?_)
  clear hl F prog zp hc hit ho vs;subst hfl
  clear hl xs fl w zp;subst q
  have hx:v=.bool true:=hx
  exact ⟨hx,fun b o e=>I'.gg b o (le.g b o e),sm.os,sm.gens⟩
theorem vK {l:OpenLaw} (as:List Addr) (t:yG) (N:Nat) (fl:Addr) {d:DefRec} {kwd:List (Str × PySem.Expr)}
  (look:∀w,(vf l.prog w N).map (xO l.prog (qOf l) (vI l) fun x=>t.see (xV as x.tree x.n))=some (true,openGood (qOf l) (vI l),t.exp)) (ok:l.wellSaid=true)
  (hdef:defOf (qOf l) l.name=some (d,kwd)) (hp:l.prog.theDef l.name=some (d.params,d.body,d.scope)) (hk:kwWritten? d.params.kwonlyargs d.params.kw_defaults=some kwd) (hn:d.name = "law")
  (ok2:(chainsOk (qOf l)&&opensWell l.row.prog&&(frees l.row.toRowW&&l.row.within.isEmpty))=true) (hb:l.row.prog.bare) (hw:l.row.toRowW.promised)
  (hpre:l.pre=.and (.not (.lt (.lit (.int ((63:Nat):Int))) (.len (.arg 0)))) (.lit (.bool true))) (hgl:t.tb.glb.lookup ("law" : Str)=some (.st fl))
  (hF:∀{K:Frag} {H0:Heap} {prog:Program} {wd:World},Gd t K H0 prog wd→nY H0 prog wd 40 fl AA):l.Holds:=by
 refine holds_law ok fun said=>PySem.W.holds_open (r:=l.row) (q:=qOf l) (loose:=vI l) (Xt:=fun _=>true) (XP:=fun _ _=>True) (Yf:=fun s=>t.see (xX as s.heap)) (Ya:=fun _=>t.exp) (YP:=fun _ h=>∃K:Frag,K.In h∧t.see K=t.exp)
  (Dj (fun x=>congrArg t.see (xU as)) look) (fun w s e=>⟨_,xW as s.heap,e⟩) (fun w h h' y k=>e1b y fun K x e=>⟨K,x.keeps k,e⟩) (fun _ _=>trivial) (fun _ _ _ _ _=>trivial) hdef hp hk (fun _ _=>recFacts_nil rfl)
  (by refine (?_:(!l.row.writes||true)=true);rw [Bool.or_true]) said ok2 hb hw ?_
 intro w s₀ s₁ mg mb G Y a o pm cd doc dV kV ha hod hcr hdf hmg hgens args vals as hpre' hlay hrd hwell has
 refine e1b Y fun K X see=>?_
 refine e0b (pre_splitW hpre') fun h1 h2=>?_
 refine e2c (hasAllW_cons (e:=.list .int) (es:=[]) h1) fun dd r zq2 h3 h4=>?_;clear has hrd hlay hpre' as hdf hcr hod kV dV doc cd pm Y;subst zq2
 cases hasAllW_nil h4
 refine e1b (hasW_list h3) fun ds zq1 h5=>?_;subst zq1
 refine e1a (items_int h5) fun xs zq1=>?_;subst zq1
 have hl:xs.length≤63:=Dd (hpre▸h2)
 have lim:=G.T.nolimit
 have B:Gd t K s₁.heap l.row.prog w:=⟨X,zx X G.T.g G.T.b G.T.builtins see,lim,by refine e1b lim fun mc hn _=>?_;refine e3b hn fun o es ep ho _=>?_;exact ⟨cStatics,o,by decide,ho⟩,see⟩
 have gl:=iw (iZ see).1 hgl
 refine cV (Ai B G.T.g gl (hF B) (hn▸hmg) hwell hl) fun v s' q=>?_
 refine e0d q fun q1 q2 q3 q4=>?_
 clear hwell vals hmg G mb mg;subst q1
 refine ⟨.inl ⟨_, .bool true,[],rfl,fun cls=>rfl, .bool true,zT _,fun _=>⟨.nil,fun a ha=>nomatch ha⟩⟩, .of_keep q2,q3, .of_eq (q4.trans hgens)⟩
end
end
section
noncomputable abbrev eX:Addr:=63
noncomputable abbrev fE:Addr:=77
noncomputable abbrev fD:Addr:=91
noncomputable abbrev fA:Addr:=105
noncomputable abbrev d9:Addr:=119
noncomputable abbrev d8:Addr:=131
noncomputable abbrev d7:Addr:=143
noncomputable abbrev ef:Addr:=248
noncomputable abbrev cP:Addr:=732
noncomputable abbrev kE:Addr:=50
noncomputable abbrev g8:Addr:=51
noncomputable abbrev gt:Addr:=52
noncomputable abbrev gM:Addr:=53
noncomputable abbrev cY:Addr:=152
noncomputable abbrev pJ:Addr:=159
noncomputable abbrev jo:Addr:=166
noncomputable abbrev kZ:Addr:=181
noncomputable abbrev fU:Addr:=188
noncomputable abbrev gb:Addr:=195
noncomputable abbrev ug:Addr:=202
noncomputable abbrev fK:Addr:=209
noncomputable abbrev im:Addr:=216
noncomputable abbrev jp:Addr:=223
noncomputable abbrev iD:Addr:=230
noncomputable abbrev fV:Addr:=237
noncomputable abbrev ku:Addr:=244
noncomputable abbrev k7:Addr:=346
noncomputable abbrev v9:Addr:=353
noncomputable abbrev ip:Addr:=360
noncomputable abbrev ek:Addr:=367
noncomputable abbrev eU:Addr:=374
noncomputable abbrev e9:Addr:=381
noncomputable abbrev d0:Addr:=388
noncomputable abbrev k8:Addr:=395
noncomputable abbrev eu:Addr:=402
noncomputable abbrev nI:Addr:=409
noncomputable abbrev gm:Addr:=416
noncomputable abbrev dc:Addr:=423
noncomputable abbrev da:Addr:=430
noncomputable abbrev eV:Addr:=437
noncomputable abbrev fL:Addr:=445
noncomputable abbrev iP:Addr:=452
noncomputable abbrev mr:Addr:=459
noncomputable abbrev jY:Addr:=466
noncomputable abbrev dM:Addr:=473
noncomputable abbrev dI:Addr:=480
noncomputable abbrev io:Addr:=487
noncomputable abbrev jL:Addr:=494
noncomputable abbrev gG:Addr:=502
noncomputable abbrev iq:Addr:=510
noncomputable abbrev iO:Addr:=518
noncomputable abbrev fz:Addr:=525
noncomputable abbrev er:Addr:=532
noncomputable abbrev kA:Addr:=539
noncomputable abbrev kz:Addr:=546
noncomputable abbrev dD:Addr:=553
noncomputable abbrev js:Addr:=560
noncomputable abbrev jr:Addr:=567
noncomputable abbrev jq:Addr:=574
noncomputable abbrev ky:Addr:=581
noncomputable abbrev jX:Addr:=588
noncomputable abbrev dP:Addr:=595
noncomputable abbrev jW:Addr:=602
noncomputable abbrev c9:Addr:=609
noncomputable abbrev jt:Addr:=616
noncomputable abbrev nH:Addr:=623
noncomputable abbrev nG:Addr:=630
noncomputable abbrev eJ:Addr:=637
noncomputable abbrev lD:Addr:=644
noncomputable abbrev lC:Addr:=651
noncomputable abbrev lB:Addr:=658
noncomputable abbrev nF:Addr:=665
noncomputable abbrev mq:Addr:=672
noncomputable abbrev mo:Addr:=679
noncomputable abbrev mn:Addr:=686
noncomputable abbrev lF:Addr:=693
noncomputable abbrev dX:Addr:=700
noncomputable abbrev ju:Addr:=707
noncomputable abbrev lE:Addr:=714
noncomputable abbrev et:Addr:=721
noncomputable abbrev dT:Addr:=728
noncomputable abbrev fT:Addr:=752
noncomputable abbrev eL:Addr:=759
noncomputable abbrev il:Addr:=766
noncomputable abbrev gF:Addr:=771
noncomputable abbrev eZ:Addr:=776
noncomputable abbrev ga:Addr:=781
noncomputable abbrev gE:Addr:=788
noncomputable abbrev gD:Addr:=795
noncomputable abbrev x4:Addr:=800
noncomputable def dm:AI:=⟨[(cP,0),(ef,0)],[]⟩
noncomputable def dq:AI:=⟨[(cP,1)],[]⟩
noncomputable def iF:AI:=⟨[(cP,2)],[]⟩
noncomputable def fw:AI:=⟨[(cP,3)],[]⟩
noncomputable def eH:AI:=⟨[(cP,4)],[]⟩
noncomputable def gH:AI:=⟨[(cP,5)],[]⟩
noncomputable def ge:AI:=⟨[(cP,6)],[]⟩
noncomputable def gR:AI:=⟨[(cP,7)],[]⟩
noncomputable def iL:AI:=⟨[(cP,8)],[]⟩
noncomputable def ew:AI:=⟨[(cP,9)],[]⟩
noncomputable def jO:AI:=⟨[(cP,10)],[]⟩
noncomputable def kd:AI:=⟨[(ef,1)],[]⟩
noncomputable def di:AI:=⟨[],[(eX, .int 1),(fE, .int 2),(fD, .int 4),(fA, .int 4),(d9, .int 4),(d8, .int 4),(d7, .int 2)]⟩
noncomputable def jP:AI:=⟨[],[(eX, .int 0),(fE, .int 0),(fD, .int 0),(fA, .int (-2147483648)),(d9, .int (-2147483648)),(d8, .int 0),(d7, .int 0)]⟩
noncomputable def jQ:AI:=⟨[],[(eX, .int 255),(fE, .int 65535),(fD, .int 4294967295),(fA, .int 2147483647),(d9, .int 2147483647),(d8, .int 4294967295),(d7, .int 65535)]⟩
noncomputable def ec:AI:=⟨[],[(eX, .st kE),(fE, .st g8),(fD, .st gt),(fA, .st gM),(d9, .st gM),(d8, .st gt),(d7, .st g8)]⟩
noncomputable def eO:AI:=⟨[],[(cP, .int 2147483648)]⟩
noncomputable def dK:MI:=⟨[(ef,fU),(cP,eu)], .none,[],false⟩
noncomputable def nw:MI:=⟨[(ef,gb)], .none,[],false⟩
noncomputable def vB:MI:=⟨[(ef,ug)], .none,[],false⟩
noncomputable def lV:MI:=⟨[(ef,fK)], .none,[],false⟩
noncomputable def nj:MI:=⟨[(ef,im)], .none,[],false⟩
noncomputable def tg:MI:=⟨[(ef,jp)], .none,[],false⟩
noncomputable def lW:MI:=⟨[(ef,iD)], .none,[],false⟩
noncomputable def ig:MI:=⟨[(ef,fV)], .none,[],false⟩
noncomputable def kS:MI:=⟨[(ef,ku)], .none,[],false⟩
noncomputable def xM:MI:=⟨[(cP,v9)], .none,[],false⟩
noncomputable def nv:MI:=⟨[(cP,ip)], .none,[],false⟩
noncomputable def eK:MI:=⟨[(cP,ek)], .none,[],false⟩
noncomputable def j8:MI:=⟨[(cP,eU)], .none,[],false⟩
noncomputable def jk:MI:=⟨[(cP,e9)], .none,[],false⟩
noncomputable def ie:MI:=⟨[(cP,d0)], .none,[],false⟩
noncomputable def vC:MI:=⟨[(cP,k8)], .none,[],false⟩
noncomputable def yX:MI:=⟨[(cP,nI)], .none,[],false⟩
noncomputable def jg:MI:=⟨[(cP,gm)], .none,[],false⟩
noncomputable def fc:MI:=⟨[(cP,dc)], .none,[],false⟩
noncomputable def dF:MI:=⟨[(cP,da)], .none,[],false⟩
noncomputable def gU:MI:=⟨[(cP,eV)], .none,[],false⟩
noncomputable def jj:MI:=⟨[(cP,fL)], .none,[],false⟩
noncomputable def jl:MI:=⟨[(cP,iP)], .none,[],false⟩
noncomputable def nx:MI:=⟨[(cP,mr)], .none,[],false⟩
noncomputable def kq:MI:=⟨[(cP,jY)], .none,[],false⟩
noncomputable def fG:MI:=⟨[(cP,dM)], .none,[],false⟩
noncomputable def fF:MI:=⟨[(cP,dI)], .none,[],false⟩
noncomputable def iA:MI:=⟨[(cP,io)], .none,[],false⟩
noncomputable def rO:MI:=⟨[(cP,jL)], .none,[],false⟩
noncomputable def gB:MI:=⟨[(cP,gG)], .none,[],false⟩
noncomputable def qB:MI:=⟨[(cP,iq)], .none,[],false⟩
noncomputable def ji:MI:=⟨[(cP,iO)], .none,[],false⟩
noncomputable def jI:MI:=⟨[(cP,fz)], .none,[],false⟩
noncomputable def gV:MI:=⟨[(cP,er)], .none,[],true⟩
noncomputable def kR:MI:=⟨[(cP,kA)], .none,[],false⟩
noncomputable def kQ:MI:=⟨[(cP,kz)], .none,[],false⟩
noncomputable def fy:MI:=⟨[(cP,dD)], .none,[],false⟩
noncomputable def jT:MI:=⟨[(cP,js)], .none,[],false⟩
noncomputable def jS:MI:=⟨[(cP,jr)], .none,[],false⟩
noncomputable def jR:MI:=⟨[(cP,jq)], .none,[],false⟩
noncomputable def kP:MI:=⟨[(cP,ky)], .none,[],false⟩
noncomputable def km:MI:=⟨[(cP,jX)], .none,[],false⟩
noncomputable def gC:MI:=⟨[(cP,dP)], .none,[],false⟩
noncomputable def kk:MI:=⟨[(cP,jW)], .none,[],false⟩
noncomputable def dw:MI:=⟨[(cP,c9)], .none,[],false⟩
noncomputable def jU:MI:=⟨[(cP,jt)], .none,[],false⟩
noncomputable def oA:MI:=⟨[(cP,nH)], .none,[],false⟩
noncomputable def oz:MI:=⟨[(cP,nG)], .none,[],false⟩
noncomputable def je:MI:=⟨[(cP,eJ)], .none,[],false⟩
noncomputable def mh:MI:=⟨[(cP,lD)], .none,[],false⟩
noncomputable def mf:MI:=⟨[(cP,lC)], .none,[],false⟩
noncomputable def ma:MI:=⟨[(cP,lB)], .none,[],false⟩
noncomputable def oy:MI:=⟨[(cP,nF)], .none,[],false⟩
noncomputable def nu:MI:=⟨[(cP,mq)], .none,[],false⟩
noncomputable def jf:MI:=⟨[(cP,mo)], .none,[],false⟩
noncomputable def nq:MI:=⟨[(cP,mn)], .none,[],false⟩
noncomputable def mj:MI:=⟨[(cP,lF)], .none,[],false⟩
noncomputable def eN:MI:=⟨[(cP,dX)], .none,[],false⟩
noncomputable def pw:MI:=⟨[(cP,ju)], .none,[],false⟩
noncomputable def mi:MI:=⟨[(cP,lE)], .none,[],false⟩
noncomputable def iK:MI:=⟨[(cP,et)], .none,[],false⟩
noncomputable def gf:MI:=⟨[(cP,dT)], .none,[],false⟩
noncomputable def ei:MI:=⟨[], .none,[(eX, .fn .int),(fE, .fn .int),(fD, .fn .int),(fA, .fn .int),(d9, .fn .int),(d8, .fn .int),(d7, .fn .int)],false⟩
noncomputable def jd:MI:=⟨[], .append,[],false⟩
noncomputable def yW:MI:=⟨[], .get,[],false⟩
noncomputable def lU:MI:=⟨[], .pack_into,[],false⟩
noncomputable def j7:MI:=⟨[], .unpack_from,[],false⟩
noncomputable def vA:MI:=⟨[], .encode,[],false⟩
noncomputable def tb0:Tb:=⟨[(("len" : Str),(.fn .len:P)),(("min" : Str),(.fn .min:P)),(("bytearray" : Str),(.fn .bytearray:P)),(("bytes" : Str),(.fn .bytes:P)),(("tuple" : Str),(.fn .tuple:P)),(("reversed" : Str),(.fn .reversed:P)),(("range" : Str),(.fn .range:P)),(("sum" : Str),(.fn .sum:P)),(("type" : Str),(.fn .type:P)),(("int" : Str),(.fn .int:P)),(("max" : Str),(.fn .max:P)),(("sorted" : Str),(.fn .sorted:P)),(("isinstance" : Str),(.fn .isinstance:P)),(("list" : Str),(.fn .list:P)),(("str" : Str),(.fn .str:P)),(("unpack" : Str),(.fn .unpack:P)),(("enforce_number" : Str),(.st cY:P)),(("Get" : Str),(.st pJ:P)),(("Write" : Str),(.st jo:P)),(("_law_take" : Str),(.st fT:P)),(("_law_operand" : Str),(.st eL:P)),(("_law_row" : Str),(.st il:P)),(("_law_make" : Str),(.st gF:P)),(("_law_joined" : Str),(.st eZ:P)),(("_law_plain" : Str),(.st ga:P)),(("_law_part" : Str),(.st gE:P)),(("_law_read" : Str),(.st gD:P)),(("law" : Str),(.st x4:P)),(("Get_encode" : Str),(.st pJ:P)),(("Uint8Flags" : Str),(.st eX:P)),(("Uint16Flags" : Str),(.st fE:P)),(("Uint32Flags" : Str),(.st fD:P)),(("Int32Flags" : Str),(.st fA:P)),(("SOffsetTFlags" : Str),(.st d9:P)),(("UOffsetTFlags" : Str),(.st d8:P)),(("VOffsetTFlags" : Str),(.st d7:P)),(("Table" : Str),(.st ef:P)),(("Builder" : Str),(.st cP:P)),(("uint8" : Str),(.st kE:P)),(("uint16" : Str),(.st g8:P)),(("uint32" : Str),(.st gt:P)),(("int32" : Str),(.st gM:P)),(("uoffset" : Str),(.st gt:P)),(("soffset" : Str),(.st gM:P)),(("FILE_IDENTIFIER_LENGTH" : Str),(.int 4:P)),(("VtableMetadataFields" : Str),(.int 2:P))],
 [(("Bytes" : Str),dm),(("current_vtable" : Str),dq),(("finished" : Str),iF),(("forceDefaults" : Str),fw),(("head" : Str),eH),(("minalign" : Str),gH),(("nested" : Str),ge),(("objectEnd" : Str),gR),(("sharedStrings" : Str),iL),(("vectorNumElems" : Str),ew),(("vtables" : Str),jO),(("Pos" : Str),kd),(("bytewidth" : Str),di),(("min_val" : Str),jP),(("max_val" : Str),jQ),(("packer_type" : Str),ec),(("MAX_BUFFER_SIZE" : Str),eO)],
 [(("Offset" : Str),dK),(("Indirect" : Str),nw),(("String" : Str),vB),(("VectorLen" : Str),lV),(("Vector" : Str),nj),(("Union" : Str),tg),(("Get" : Str),lW),(("GetSlot" : Str),ig),(("GetVOffsetTSlot" : Str),kS),(("Clear" : Str),xM),(("Output" : Str),nv),(("StartObject" : Str),eK),(("WriteVtable" : Str),j8),(("EndObject" : Str),jk),(("GrowByteBuffer" : Str),ie),(("Head" : Str),vC),(("Pad" : Str),yX),(("Prep" : Str),jg),(("PrependSOffsetTRelative" : Str),fc),(("PrependUOffsetTRelative" : Str),dF),(("StartVector" : Str),gU),(("EndVector" : Str),jj),(("CreateSharedString" : Str),jl),(("CreateString" : Str),nx),(("CreateByteVector" : Str),kq),(("assertNested" : Str),fG),(("assertNotNested" : Str),fF),(("assertStructIsInline" : Str),iA),(("Slot" : Str),rO),(("_Builder__Finish" : Str),gB),(("Finish" : Str),qB),(("FinishSizePrefixed" : Str),ji),(("Prepend" : Str),jI),(("PrependSlot" : Str),gV),(("PrependBoolSlot" : Str),kR),(("PrependByteSlot" : Str),kQ),(("PrependUint8Slot" : Str),fy),(("PrependUint16Slot" : Str),jT),(("PrependUint32Slot" : Str),jS),(("PrependUint64Slot" : Str),jR),(("PrependInt8Slot" : Str),kP),(("PrependInt16Slot" : Str),km),(("PrependInt32Slot" : Str),gC),(("PrependInt64Slot" : Str),kk),(("PrependUOffsetTRelativeSlot" : Str),dw),(("PrependStructSlot" : Str),jU),(("PrependBool" : Str),oA),(("PrependByte" : Str),oz),(("PrependUint8" : Str),je),(("PrependUint16" : Str),mh),(("PrependUint32" : Str),mf),(("PrependUint64" : Str),ma),(("PrependInt8" : Str),oy),(("PrependInt16" : Str),nu),(("PrependInt32" : Str),jf),(("PrependInt64" : Str),nq),(("ForceDefaults" : Str),mj),(("PrependVOffsetT" : Str),eN),(("Place" : Str),pw),(("PlaceVOffsetT" : Str),mi),(("PlaceSOffsetT" : Str),iK),(("PlaceUOffsetT" : Str),gf),(("py_type" : Str),ei),(("append" : Str),jd),(("get" : Str),yW),(("pack_into" : Str),lU),(("unpack_from" : Str),j7),(("encode" : Str),vA)]⟩
noncomputable def CQ:Addr→Option Fm:=fun a=>[(kE,Fm.B),(g8,Fm.H),(gt,Fm.I),(gM,Fm.i)].lookup a
noncomputable def zV:Addr→Bool:=fun c=>Nat.beq c cP
end
section
noncomputable def iH:S:=(.seq (.ite (.and (.cmp .Is (.attr (.var 1) jP) (.lit .none)) (.cmp .Is (.attr (.var 1) jQ) (.lit .none))) (.seq (.ret (.lit .none)) .skip) .skip) (.seq (.ite (.not (.chain .LtE .LtE (.attr (.var 1) jP) (.var 0) (.attr (.var 1) jQ))) (.seq .raise .skip) .skip) .skip))
noncomputable def BA:S:=(.seq (.ret (.idx (.meth (.var 0) j7 (.cons (.var 1) (.cons (.var 2) .nil))) (.lit (.int 0)))) .skip)
noncomputable def uX:S:=(.seq (.expr (.meth (.var 0) lU (.cons (.var 1) (.cons (.var 2) (.cons (.var 3) .nil))))) .skip)
noncomputable def sS:S:=(.seq (.expr (.call (.glob (.st 152)) (.cons (.var 2) (.cons (.glob (.st 131)) .nil)))) (.seq (.setA (.var 0) dm (.var 1)) (.seq (.setA (.var 0) kd (.var 2)) .skip)))
noncomputable def oK:S:=(.seq (.asg (.var 2) (.bin .Sub (.attr (.var 0) kd) (.meth (.var 0) lW (.cons (.glob (.st 119)) (.cons (.attr (.var 0) kd) .nil))))) (.seq (.asg (.var 3) (.meth (.var 0) lW (.cons (.glob (.st 143)) (.cons (.var 2) .nil)))) (.seq (.ite (.cmp .Lt (.var 1) (.var 3)) (.seq (.ret (.meth (.var 0) lW (.cons (.glob (.st 143)) (.cons (.bin .Add (.var 2) (.var 1)) .nil)))) .skip) .skip) (.seq (.ret (.lit (.int 0))) .skip))))
noncomputable def lO:S:=(.seq (.expr (.call (.glob (.st 152)) (.cons (.var 1) (.cons (.glob (.st 131)) .nil)))) (.seq (.ret (.bin .Add (.var 1) (.call (.glob (.st 159)) (.cons (.attr (.glob (.st 131)) ec) (.cons (.attr (.var 0) dm) (.cons (.var 1) .nil)))))) .skip))
noncomputable def kH:S:=(.seq (.expr (.call (.glob (.st 152)) (.cons (.var 1) (.cons (.glob (.st 131)) .nil)))) (.seq (.aug 1 .Add (.attr (.var 0) kd)) (.seq (.aug 1 .Add (.call (.glob (.st 159)) (.cons (.attr (.glob (.st 131)) ec) (.cons (.attr (.var 0) dm) (.cons (.var 1) .nil))))) (.seq (.asg (.var 2) (.call (.glob (.st 159)) (.cons (.attr (.glob (.st 131)) ec) (.cons (.attr (.var 0) dm) (.cons (.var 1) .nil))))) (.seq (.ret (.var 2)) .skip)))))
noncomputable def oJ:S:=(.seq (.expr (.call (.glob (.st 152)) (.cons (.var 1) (.cons (.glob (.st 131)) .nil)))) (.seq (.aug 1 .Add (.attr (.var 0) kd)) (.seq (.asg (.var 2) (.bin .Add (.var 1) (.meth (.var 0) lW (.cons (.glob (.st 131)) (.cons (.var 1) .nil))))) (.seq (.aug 2 .Add (.attr (.glob (.st 131)) di)) (.seq (.ret (.var 2)) .skip)))))
noncomputable def qq:S:=(.seq (.assert (.cmp .Is (.call (.glob (.fn .type)) (.cons (.var 1) .nil)) (.glob (.st 248)))) (.seq (.expr (.call (.glob (.st 152)) (.cons (.var 2) (.cons (.glob (.st 131)) .nil)))) (.seq (.aug 2 .Add (.attr (.var 0) kd)) (.seq (.setA (.var 1) kd (.bin .Add (.var 2) (.meth (.var 0) lW (.cons (.glob (.st 131)) (.cons (.var 2) .nil))))) (.seq (.setA (.var 1) dm (.attr (.var 0) dm)) .skip)))))
noncomputable def uY:S:=(.seq (.expr (.call (.glob (.st 152)) (.cons (.var 2) (.cons (.glob (.st 131)) .nil)))) (.seq (.ret (.meth (.var 1) ei (.cons (.call (.glob (.st 159)) (.cons (.attr (.var 1) ec) (.cons (.attr (.var 0) dm) (.cons (.var 2) .nil)))) .nil))) .skip))
noncomputable def m7:S:=(.seq (.expr (.call (.glob (.st 152)) (.cons (.var 1) (.cons (.glob (.st 143)) .nil)))) (.seq (.ite (.cmp .IsNot (.var 3) (.lit .none)) (.seq (.expr (.call (.glob (.st 152)) (.cons (.var 2) (.cons (.var 3) .nil)))) .skip) .skip) (.seq (.asg (.var 4) (.meth (.var 0) dK (.cons (.var 1) .nil))) (.seq (.ite (.cmp .Eq (.var 4) (.lit (.int 0))) (.seq (.ret (.var 2)) .skip) .skip) (.seq (.ret (.meth (.var 0) lW (.cons (.var 3) (.cons (.bin .Add (.attr (.var 0) kd) (.var 4)) .nil)))) .skip)))))
noncomputable def sT:S:=(.seq (.ite (.not (.chain .LtE .LtE (.lit (.int 0)) (.var 1) (.attr (.glob (.st 732)) eO))) (.seq (.asg (.var 2) (.lit (.str (PySem.Str.ofString "flatbuffers: Cannot create Builder larger than 2 gigabytes.")))) (.seq .raise .skip)) .skip) (.seq (.setA (.var 0) dm (.call (.glob (.fn .bytearray)) (.cons (.var 1) .nil))) (.seq (.setA (.var 0) dq (.lit .none)) (.seq (.setA (.var 0) eH (.meth (.glob (.st 131)) ei (.cons (.var 1) .nil))) (.seq (.setA (.var 0) gH (.lit (.int 1))) (.seq (.setA (.var 0) gR (.lit .none)) (.seq (.setA (.var 0) jO .dict0) (.seq (.setA (.var 0) ge (.lit (.bool false))) (.seq (.setA (.var 0) fw (.lit (.bool false))) (.seq (.setA (.var 0) iL (.lit .none)) (.seq (.setA (.var 0) iF (.lit (.bool false))) .skip)))))))))))
noncomputable def oL:S:=(.seq (.ite (.not (.attr (.var 0) iF)) (.seq .raise .skip) .skip) (.seq (.ret (.slc (.attr (.var 0) dm) (.attr (.var 0) eH) (.lit .none) (.lit .none))) .skip))
noncomputable def i7:S:=(.seq (.expr (.meth (.var 0) fF .nil)) (.seq (.setA (.var 0) dq (.repl true (.lst false (.cons (.lit (.int 0)) .nil)) (.var 1))) (.seq (.setA (.var 0) gR (.meth (.var 0) dK .nil)) (.seq (.setA (.var 0) ge (.lit (.bool true))) .skip))))
noncomputable def i5:S:=(.seq (.expr (.meth (.var 0) fc (.cons (.lit (.int 0)) .nil))) (.seq (.asg (.var 1) (.meth (.var 0) dK .nil)) (.seq (.asg (.var 2) (.lst true .nil)) (.seq (.asg (.var 3) (.lit (.bool true))) (.seq (.forIn (.var 4) .rev (.cons (.attr (.var 0) dq) .nil) (.seq (.ite (.cmp .Eq (.var 4) (.lit (.int 0))) (.seq (.ite (.var 3) (.seq .cont .skip) .skip) .skip) (.seq (.asg (.var 4) (.bin .Sub (.var 1) (.var 4))) (.seq (.asg (.var 3) (.lit (.bool false))) .skip))) (.seq (.expr (.meth (.var 2) jd (.cons (.var 4) .nil))) .skip))) (.seq (.asg (.var 5) (.meth (.glob (.st 131)) ei (.cons (.bin .Sub (.var 1) (.attr (.var 0) gR)) .nil))) (.seq (.expr (.meth (.var 2) jd (.cons (.var 5) .nil))) (.seq (.asg (.var 2) (.call (.glob (.fn .tuple)) (.cons (.var 2) .nil))) (.seq (.asg (.var 6) (.meth (.attr (.var 0) jO) yW (.cons (.var 2) .nil))) (.seq (.ite (.cmp .Is (.var 6) (.lit .none)) (.seq (.asg (.var 7) (.bin .Sub (.call (.glob (.fn .len)) (.cons (.attr (.var 0) dq) .nil)) (.lit (.int 1)))) (.seq (.asg (.var 8) (.lit (.int 0))) (.seq (.asg (.var 3) (.lit (.bool true))) (.seq (.whl (.cmp .GtE (.var 7) (.lit (.int 0))) (.seq (.asg (.var 9) (.lit (.int 0))) (.seq (.asg (.var 4) (.idx (.attr (.var 0) dq) (.var 7))) (.seq (.aug 7 .Sub (.lit (.int 1))) (.seq (.ite (.cmp .Eq (.var 4) (.lit (.int 0))) (.seq (.ite (.var 3) (.seq (.aug 8 .Add (.lit (.int 1))) (.seq .cont .skip)) .skip) .skip) (.seq (.asg (.var 9) (.bin .Sub (.var 1) (.var 4))) (.seq (.asg (.var 3) (.lit (.bool false))) .skip))) (.seq (.expr (.meth (.var 0) eN (.cons (.var 9) .nil))) .skip)))))) (.seq (.expr (.meth (.var 0) eN (.cons (.meth (.glob (.st 143)) ei (.cons (.var 5) .nil)) .nil))) (.seq (.asg (.var 10) (.bin .Add (.bin .Sub (.call (.glob (.fn .len)) (.cons (.attr (.var 0) dq) .nil)) (.var 8)) (.glob (.int 2)))) (.seq (.aug 10 .Mult (.attr (.glob (.st 143)) di)) (.seq (.expr (.meth (.var 0) eN (.cons (.meth (.glob (.st 143)) ei (.cons (.var 10) .nil)) .nil))) (.seq (.asg (.var 11) (.meth (.glob (.st 119)) ei (.cons (.bin .Sub (.call (.glob (.fn .len)) (.cons (.attr (.var 0) dm) .nil)) (.var 1)) .nil))) (.seq (.expr (.call (.glob (.st 166)) (.cons (.glob (.st 53)) (.cons (.attr (.var 0) dm) (.cons (.var 11) (.cons (.meth (.glob (.st 119)) ei (.cons (.bin .Sub (.meth (.var 0) dK .nil) (.var 1)) .nil)) .nil)))))) (.seq (.setI (.attr (.var 0) jO) (.var 2) (.meth (.var 0) dK .nil)) .skip))))))))))) (.seq (.asg (.var 11) (.meth (.glob (.st 119)) ei (.cons (.bin .Sub (.call (.glob (.fn .len)) (.cons (.attr (.var 0) dm) .nil)) (.var 1)) .nil))) (.seq (.setA (.var 0) eH (.meth (.glob (.st 131)) ei (.cons (.var 11) .nil))) (.seq (.expr (.call (.glob (.st 166)) (.cons (.glob (.st 53)) (.cons (.attr (.var 0) dm) (.cons (.meth (.var 0) vC .nil) (.cons (.meth (.glob (.st 119)) ei (.cons (.bin .Sub (.var 6) (.var 1)) .nil)) .nil)))))) .skip)))) (.seq (.setA (.var 0) dq (.lit .none)) (.seq (.ret (.var 1)) .skip))))))))))))
noncomputable def kJ:S:=(.seq (.expr (.meth (.var 0) fG .nil)) (.seq (.setA (.var 0) ge (.lit (.bool false))) (.seq (.ret (.meth (.var 0) j8 .nil)) .skip)))
noncomputable def gN:S:=(.seq (.ite (.cmp .Eq (.call (.glob (.fn .len)) (.cons (.attr (.var 0) dm) .nil)) (.attr (.glob (.st 732)) eO)) (.seq (.asg (.var 1) (.lit (.str (PySem.Str.ofString "flatbuffers: cannot grow buffer beyond 2 gigabytes")))) (.seq .raise .skip)) .skip) (.seq (.asg (.var 2) (.call (.glob (.fn .min)) (.cons (.bin .Mult (.call (.glob (.fn .len)) (.cons (.attr (.var 0) dm) .nil)) (.lit (.int 2))) (.cons (.attr (.glob (.st 732)) eO) .nil)))) (.seq (.ite (.cmp .Eq (.var 2) (.lit (.int 0))) (.seq (.asg (.var 2) (.lit (.int 1))) .skip) .skip) (.seq (.asg (.var 3) (.call (.glob (.fn .bytearray)) (.cons (.var 2) .nil))) (.seq (.setS (.var 3) (.bin .Sub (.var 2) (.call (.glob (.fn .len)) (.cons (.attr (.var 0) dm) .nil))) (.lit .none) (.attr (.var 0) dm)) (.seq (.setA (.var 0) dm (.var 3)) .skip))))))
noncomputable def sW:S:=(.seq (.ret (.attr (.var 0) eH)) .skip)
noncomputable def oM:S:=(.seq (.ret (.bin .Sub (.call (.glob (.fn .len)) (.cons (.attr (.var 0) dm) .nil)) (.attr (.var 0) eH))) .skip)
noncomputable def uZ:S:=(.seq (.ite (.cmp .LtE (.var 1) (.lit (.int 0))) (.seq (.ret (.lit .none)) .skip) .skip) (.seq (.asg (.var 2) (.bin .Sub (.attr (.var 0) eH) (.var 1))) (.seq (.setS (.attr (.var 0) dm) (.var 2) (.attr (.var 0) eH) (.bin .Mult (.lit (.bytes [0])) (.var 1))) (.seq (.setA (.var 0) eH (.var 2)) .skip))))
noncomputable def sV:S:=(.seq (.ite (.cmp .Gt (.var 1) (.attr (.var 0) gH)) (.seq (.setA (.var 0) gH (.var 1)) .skip) .skip) (.seq (.asg (.var 3) (.attr (.var 0) eH)) (.seq (.asg (.var 4) (.call (.glob (.fn .len)) (.cons (.attr (.var 0) dm) .nil))) (.seq (.asg (.var 5) (.bin .Add (.un PySem.UnaryOp.Invert (.bin .Add (.bin .Sub (.var 4) (.var 3)) (.var 2))) (.lit (.int 1)))) (.seq (.aug 5 .BitAnd (.bin .Sub (.var 1) (.lit (.int 1)))) (.seq (.asg (.var 6) (.bin .Add (.bin .Add (.var 5) (.var 1)) (.var 2))) (.seq (.whl (.cmp .Lt (.var 3) (.var 6)) (.seq (.asg (.var 7) (.var 4)) (.seq (.expr (.meth (.var 0) ie .nil)) (.seq (.asg (.var 4) (.call (.glob (.fn .len)) (.cons (.attr (.var 0) dm) .nil))) (.seq (.aug 3 .Add (.bin .Sub (.var 4) (.var 7))) .skip))))) (.seq (.setA (.var 0) eH (.var 3)) (.seq (.expr (.meth (.var 0) yX (.cons (.var 5) .nil))) .skip)))))))))
noncomputable def eS:S:=(.seq (.expr (.meth (.var 0) jg (.cons (.attr (.glob (.st 119)) di) (.cons (.lit (.int 0)) .nil)))) (.seq (.ite (.not (.cmp .LtE (.var 1) (.meth (.var 0) dK .nil))) (.seq (.asg (.var 2) (.lit (.str (PySem.Str.ofString "flatbuffers: Offset arithmetic error.")))) (.seq .raise .skip)) .skip) (.seq (.asg (.var 3) (.bin .Add (.bin .Sub (.meth (.var 0) dK .nil) (.var 1)) (.attr (.glob (.st 119)) di))) (.seq (.expr (.meth (.var 0) iK (.cons (.var 3) .nil))) .skip))))
noncomputable def eR:S:=(.seq (.expr (.meth (.var 0) jg (.cons (.attr (.glob (.st 131)) di) (.cons (.lit (.int 0)) .nil)))) (.seq (.ite (.not (.cmp .LtE (.var 1) (.meth (.var 0) dK .nil))) (.seq (.asg (.var 2) (.lit (.str (PySem.Str.ofString "flatbuffers: Offset arithmetic error.")))) (.seq .raise .skip)) .skip) (.seq (.asg (.var 3) (.bin .Add (.bin .Sub (.meth (.var 0) dK .nil) (.var 1)) (.attr (.glob (.st 131)) di))) (.seq (.expr (.meth (.var 0) gf (.cons (.var 3) .nil))) .skip))))
noncomputable def i6:S:=(.seq (.expr (.meth (.var 0) fF .nil)) (.seq (.setA (.var 0) ge (.lit (.bool true))) (.seq (.setA (.var 0) ew (.var 2)) (.seq (.expr (.meth (.var 0) jg (.cons (.attr (.glob (.st 91)) di) (.cons (.bin .Mult (.var 1) (.var 2)) .nil)))) (.seq (.expr (.meth (.var 0) jg (.cons (.var 3) (.cons (.bin .Mult (.var 1) (.var 2)) .nil)))) (.seq (.ret (.meth (.var 0) dK .nil)) .skip))))))
noncomputable def kI:S:=(.seq (.expr (.meth (.var 0) fG .nil)) (.seq (.setA (.var 0) ge (.lit (.bool false))) (.seq (.ite (.var 1) (.seq (.ite (.cmp .NotEq (.var 1) (.attr (.var 0) ew)) (.seq .raise .skip) .skip) .skip) .skip) (.seq (.expr (.meth (.var 0) gf (.cons (.attr (.var 0) ew) .nil))) (.seq (.setA (.var 0) ew (.lit .none)) (.seq (.ret (.meth (.var 0) dK .nil)) .skip))))))
noncomputable def iI:S:=(.seq (.ite (.not (.attr (.var 0) ge)) (.seq .raise .skip) .skip) .skip)
noncomputable def gx:S:=(.seq (.ite (.attr (.var 0) ge) (.seq .raise .skip) .skip) .skip)
noncomputable def sU:S:=(.seq (.expr (.meth (.var 0) fG .nil)) (.seq (.setI (.attr (.var 0) dq) (.var 1) (.meth (.var 0) dK .nil)) .skip))
noncomputable def m9:S:=(.seq (.expr (.call (.glob (.st 152)) (.cons (.var 1) (.cons (.glob (.st 131)) .nil)))) (.seq (.asg (.var 4) (.attr (.glob (.st 131)) di)) (.seq (.ite (.cmp .IsNot (.var 3) (.lit .none)) (.seq (.aug 4 .Add (.attr (.glob (.st 105)) di)) .skip) .skip) (.seq (.ite (.var 2) (.seq (.aug 4 .Add (.attr (.glob (.st 105)) di)) .skip) .skip) (.seq (.expr (.meth (.var 0) jg (.cons (.attr (.var 0) gH) (.cons (.var 4) .nil)))) (.seq (.ite (.cmp .IsNot (.var 3) (.lit .none)) (.seq (.expr (.meth (.var 0) jg (.cons (.attr (.glob (.st 131)) di) (.cons (.glob (.int 4)) .nil)))) (.seq (.asg (.var 3) (.call (.glob (.fn .unpack)) (.cons (.lit (.str (PySem.Str.ofString ">BBBB"))) (.cons (.var 3) .nil)))) (.seq (.forIn (.var 5) .rng (.cons (.bin .Sub (.glob (.int 4)) (.lit (.int 1))) (.cons (.un PySem.UnaryOp.USub (.lit (.int 1))) (.cons (.un PySem.UnaryOp.USub (.lit (.int 1))) .nil))) (.seq (.expr (.meth (.var 0) pw (.cons (.idx (.var 3) (.var 5)) (.cons (.glob (.st 63)) .nil)))) .skip)) .skip))) .skip) (.seq (.expr (.meth (.var 0) dF (.cons (.var 1) .nil))) (.seq (.ite (.var 2) (.seq (.asg (.var 6) (.bin .Sub (.call (.glob (.fn .len)) (.cons (.attr (.var 0) dm) .nil)) (.attr (.var 0) eH))) (.seq (.expr (.call (.glob (.st 152)) (.cons (.var 6) (.cons (.glob (.st 105)) .nil)))) (.seq (.expr (.meth (.var 0) jf (.cons (.var 6) .nil))) .skip))) .skip) (.seq (.setA (.var 0) iF (.lit (.bool true))) (.seq (.ret (.attr (.var 0) eH)) .skip))))))))))
noncomputable def oN:S:=(.seq (.ret (.methK (.var 0) gB (.cons (.var 1) (.cons (.lit (.bool false)) .nil)) (PySem.Str.ofString "file_identifier") (.var 2))) .skip)
noncomputable def m8:S:=(.seq (.expr (.meth (.var 0) jg (.cons (.attr (.var 1) di) (.cons (.lit (.int 0)) .nil)))) (.seq (.expr (.meth (.var 0) pw (.cons (.var 2) (.cons (.var 1) .nil)))) .skip))
noncomputable def i8:S:=(.seq (.ite (.cmp .IsNot (.var 3) (.lit .none)) (.seq (.expr (.call (.glob (.st 152)) (.cons (.var 3) (.cons (.var 1) .nil)))) .skip) .skip) (.seq (.ite (.cmp .IsNot (.var 4) (.lit .none)) (.seq (.expr (.call (.glob (.st 152)) (.cons (.var 4) (.cons (.var 1) .nil)))) .skip) .skip) (.seq (.ite (.or (.cmp .NotEq (.var 3) (.var 4)) (.and (.attr (.var 0) fw) (.cmp .IsNot (.var 4) (.lit .none)))) (.seq (.expr (.meth (.var 0) jI (.cons (.var 1) (.cons (.var 3) .nil)))) (.seq (.expr (.meth (.var 0) rO (.cons (.var 2) .nil))) .skip)) .skip) .skip)))
noncomputable def gi:S:=(.seq (.expr (.methS (.var 0) gV (.cons (.glob (.st 63)) (.cons (.star (.var 1)) .nil)))) .skip)
noncomputable def gj:S:=(.seq (.expr (.methS (.var 0) gV (.cons (.glob (.st 105)) (.cons (.star (.var 1)) .nil)))) .skip)
noncomputable def eg:S:=(.seq (.ite (.or (.cmp .NotEq (.var 2) (.var 3)) (.attr (.var 0) fw)) (.seq (.expr (.meth (.var 0) dF (.cons (.var 2) .nil))) (.seq (.expr (.meth (.var 0) rO (.cons (.var 1) .nil))) .skip)) .skip) .skip)
noncomputable def iJ:S:=(.seq (.expr (.meth (.var 0) jI (.cons (.glob (.st 63)) (.cons (.var 1) .nil)))) .skip)
noncomputable def gy:S:=(.seq (.expr (.meth (.var 0) jI (.cons (.glob (.st 143)) (.cons (.var 1) .nil)))) .skip)
noncomputable def qt:S:=(.seq (.expr (.call (.glob (.st 152)) (.cons (.var 1) (.cons (.var 2) .nil)))) (.seq (.asg (.var 3) (.bin .Sub (.attr (.var 0) eH) (.attr (.var 2) di))) (.seq (.setA (.var 0) eH (.var 3)) (.seq (.expr (.call (.glob (.st 166)) (.cons (.attr (.var 2) ec) (.cons (.attr (.var 0) dm) (.cons (.var 3) (.cons (.var 1) .nil)))))) .skip))))
noncomputable def hD:S:=(.seq (.expr (.call (.glob (.st 152)) (.cons (.var 1) (.cons (.glob (.st 119)) .nil)))) (.seq (.asg (.var 2) (.bin .Sub (.attr (.var 0) eH) (.attr (.glob (.st 119)) di))) (.seq (.setA (.var 0) eH (.var 2)) (.seq (.expr (.call (.glob (.st 166)) (.cons (.glob (.st 53)) (.cons (.attr (.var 0) dm) (.cons (.var 2) (.cons (.var 1) .nil)))))) .skip))))
noncomputable def g9:S:=(.seq (.expr (.call (.glob (.st 152)) (.cons (.var 1) (.cons (.glob (.st 131)) .nil)))) (.seq (.asg (.var 2) (.bin .Sub (.attr (.var 0) eH) (.attr (.glob (.st 131)) di))) (.seq (.setA (.var 0) eH (.var 2)) (.seq (.expr (.call (.glob (.st 166)) (.cons (.glob (.st 52)) (.cons (.attr (.var 0) dm) (.cons (.var 2) (.cons (.var 1) .nil)))))) .skip))))
noncomputable def mZ:S:=(.seq (.ite (.cmp .GtE (.idx (.var 0) (.lit (.int 1))) (.call (.glob (.fn .len)) (.cons (.idx (.var 0) (.lit (.int 0))) .nil))) (.seq (.ret (.lit (.int 0))) .skip) .skip) (.seq (.asg (.var 2) (.idx (.idx (.var 0) (.lit (.int 0))) (.idx (.var 0) (.lit (.int 1))))) (.seq (.setI (.var 0) (.lit (.int 1)) (.bin .Add (.idx (.var 0) (.lit (.int 1))) (.lit (.int 1)))) (.seq (.ret (.bin .Mod (.var 2) (.var 1))) .skip))))
noncomputable def j5:S:=(.seq (.ite (.cmp .GtE (.var 3) (.lit (.int 0))) (.seq (.expr (.meth (.var 0) dw (.cons (.bin .Add (.var 2) (.lit (.int 1))) (.cons (.idx (.idx (.var 1) (.var 3)) (.lit (.int 2))) (.cons (.lit (.int 0)) .nil))))) (.seq (.expr (.meth (.var 0) fy (.cons (.var 2) (.cons (.idx (.idx (.var 1) (.var 3)) (.lit (.int 0))) (.cons (.lit (.int 0)) .nil))))) .skip)) .skip) .skip)
noncomputable def oI:S:=(.seq (.expr (.meth (.var 0) gU (.cons (.lit (.int 1)) (.cons (.call (.glob (.fn .len)) (.cons (.var 2) .nil)) (.cons (.lit (.int 1)) .nil))))) (.seq (.forIn (.var 3) .lst (.slc (.var 2) (.lit .none) (.lit .none) (.un PySem.UnaryOp.USub (.lit (.int 1)))) (.seq (.expr (.meth (.var 0) je (.cons (.idx (.idx (.var 1) (.var 3)) (.lit (.int 0))) .nil))) .skip)) (.seq (.asg (.var 4) (.meth (.var 0) jj .nil)) (.seq (.expr (.meth (.var 0) gU (.cons (.lit (.int 4)) (.cons (.call (.glob (.fn .len)) (.cons (.var 2) .nil)) (.cons (.lit (.int 4)) .nil))))) (.seq (.forIn (.var 3) .lst (.slc (.var 2) (.lit .none) (.lit .none) (.un PySem.UnaryOp.USub (.lit (.int 1)))) (.seq (.expr (.meth (.var 0) dF (.cons (.idx (.idx (.var 1) (.var 3)) (.lit (.int 2))) .nil))) .skip)) (.seq (.ret (.tup (.cons (.var 4) (.cons (.meth (.var 0) jj .nil) .nil)))) .skip))))))
noncomputable def m6:S:=(.seq (.asg (.var 3) (.bin .Add (.lit (.int 1)) (.call (.glob (.st 752)) (.cons (.var 2) (.cons (.lit (.int 6)) .nil))))) (.seq (.ite (.cmp .Eq (.var 3) (.lit (.int 1))) (.seq (.asg (.var 4) (.lst false (.cons (.bin .Sub (.call (.glob (.st 752)) (.cons (.var 2) (.cons (.lit (.int 4294967296)) .nil))) (.lit (.int 2147483648))) .nil))) (.seq (.expr (.meth (.var 0) eK (.cons (.lit (.int 1)) .nil))) (.seq (.expr (.meth (.var 0) gC (.cons (.lit (.int 0)) (.cons (.idx (.var 4) (.lit (.int 0))) (.cons (.lit (.int 0)) .nil))))) .skip))) (.seq (.ite (.cmp .Eq (.var 3) (.lit (.int 2))) (.seq (.asg (.var 4) (.lst false (.cons (.call (.glob (.st 752)) (.cons (.var 2) (.cons (.lit (.int 3)) .nil))) .nil))) (.seq (.expr (.meth (.var 0) eK (.cons (.lit (.int 1)) .nil))) (.seq (.expr (.meth (.var 0) fy (.cons (.lit (.int 0)) (.cons (.idx (.var 4) (.lit (.int 0))) (.cons (.lit (.int 0)) .nil))))) .skip))) (.seq (.ite (.cmp .Eq (.var 3) (.lit (.int 6))) (.seq (.asg (.var 4) (.lst false .nil)) (.seq (.ite (.cmp .NotEq (.var 1) (.lst false .nil)) (.seq (.asg (.var 4) (.comp false (.call (.glob (.st 752)) (.cons (.var 2) (.cons (.call (.glob (.fn .len)) (.cons (.var 1) .nil)) .nil))) (.var 8) 1 .rng (.cons (.call (.glob (.st 752)) (.cons (.var 2) (.cons (.lit (.int 4)) .nil))) .nil) (.lit (.bool true)))) .skip) .skip) (.seq (.asg (.tup [6,7]) (.call (.glob (.st 766)) (.cons (.var 0) (.cons (.var 1) (.cons (.var 4) .nil))))) (.seq (.expr (.meth (.var 0) eK (.cons (.lit (.int 2)) .nil))) (.seq (.expr (.meth (.var 0) dw (.cons (.lit (.int 0)) (.cons (.var 6) (.cons (.lit (.int 0)) .nil))))) (.seq (.expr (.meth (.var 0) dw (.cons (.lit (.int 1)) (.cons (.var 7) (.cons (.lit (.int 0)) .nil))))) .skip)))))) (.seq (.asg (.var 4) (.comp false (.bin .Sub (.call (.glob (.st 752)) (.cons (.var 2) (.cons (.bin .Add (.call (.glob (.fn .len)) (.cons (.var 1) .nil)) (.lit (.int 1))) .nil))) (.lit (.int 1))) (.var 8) 1 .rng (.cons (.ite (.cmp .Eq (.var 3) (.lit (.int 5))) (.lit (.int 3)) (.lit (.int 2))) .nil) (.lit (.bool true)))) (.seq (.expr (.meth (.var 0) eK (.cons (.bin .Mult (.lit (.int 2)) (.call (.glob (.fn .len)) (.cons (.var 4) .nil))) .nil))) (.seq (.forIn (.var 5) .rng (.cons (.call (.glob (.fn .len)) (.cons (.var 4) .nil)) .nil) (.seq (.expr (.call (.glob (.st 759)) (.cons (.var 0) (.cons (.var 1) (.cons (.bin .Mult (.lit (.int 2)) (.var 5)) (.cons (.idx (.var 4) (.var 5)) .nil)))))) .skip)) .skip)))) .skip)) .skip)) (.seq (.expr (.meth (.var 1) jd (.cons (.tup (.cons (.var 3) (.cons (.var 4) (.cons (.meth (.var 0) jk .nil) .nil)))) .nil))) .skip)))
noncomputable def kG:S:=(.seq (.ite (.cmp .Eq (.var 0) (.lit (.int 3))) (.seq (.ret (.bin .Mod (.bin .Add (.idx (.var 1) (.lit (.int 0))) (.idx (.var 1) (.lit (.int 1)))) (.lit (.int 1000003)))) .skip) .skip) (.seq (.ite (.cmp .Eq (.var 0) (.lit (.int 4))) (.seq (.ret (.bin .Mod (.bin .Mult (.idx (.var 1) (.lit (.int 0))) (.idx (.var 1) (.lit (.int 1)))) (.lit (.int 1000003)))) .skip) .skip) (.seq (.ret (.bin .Mod (.call (.glob (.fn .sum)) (.cons (.comp false (.bin .Mult (.bin .Add (.var 2) (.lit (.int 1))) (.idx (.var 1) (.var 2))) (.var 2) 1 .rng (.cons (.call (.glob (.fn .len)) (.cons (.var 1) .nil)) .nil) (.lit (.bool true))) .nil)) (.lit (.int 1000003)))) .skip)))
noncomputable def lN:S:=(.seq (.ite (.cmp .Lt (.var 1) (.lit (.int 0))) (.seq (.ret (.lit (.int 7))) .skip) .skip) (.seq (.asg (.tup [4,5,6]) (.idx (.var 0) (.var 1))) (.seq (.ite (.cmp .In (.var 6) (.var 3)) (.seq (.ret (.idx (.var 3) (.var 6))) .skip) .skip) (.seq (.ite (.cmp .Eq (.var 4) (.lit (.int 1))) (.seq (.asg (.var 7) (.bin .Sub (.bin .Mod (.idx (.var 5) (.lit (.int 0))) (.lit (.int 1000003))) (.lit (.int 500000)))) .skip) (.seq (.ite (.cmp .Eq (.var 4) (.lit (.int 2))) (.seq (.asg (.var 7) (.idx (.var 2) (.idx (.var 5) (.lit (.int 0))))) .skip) (.seq (.ite (.cmp .Eq (.var 4) (.lit (.int 5))) (.seq (.asg (.var 8) (.call (.glob (.st 781)) (.cons (.var 0) (.cons (.idx (.var 5) (.lit (.int 0))) (.cons (.var 2) (.cons (.var 3) .nil)))))) (.seq (.asg (.var 7) (.call (.glob (.st 781)) (.cons (.var 0) (.cons (.ite (.cmp .Gt (.var 8) (.lit (.int 0))) (.idx (.var 5) (.lit (.int 1))) (.idx (.var 5) (.lit (.int 2)))) (.cons (.var 2) (.cons (.var 3) .nil)))))) .skip)) (.seq (.asg (.var 7) (.call (.glob (.st 776)) (.cons (.var 4) (.cons (.comp false (.call (.glob (.st 781)) (.cons (.var 0) (.cons (.var 9) (.cons (.var 2) (.cons (.var 3) .nil))))) (.var 9) 1 .lst (.var 5) (.lit (.bool true))) .nil)))) .skip)) .skip)) .skip)) (.seq (.setI (.var 3) (.var 6) (.var 7)) (.seq (.ret (.var 7)) .skip))))))
noncomputable def m5:S:=(.seq (.asg (.var 4) (.meth (.var 0) dK (.cons (.bin .Add (.lit (.int 6)) (.bin .Mult (.lit (.int 2)) (.var 1))) .nil))) (.seq (.ite (.cmp .Eq (.var 4) (.lit (.int 0))) (.seq (.ret (.bin .Add (.lit (.int 7)) (.meth (.var 0) ig (.cons (.bin .Add (.lit (.int 4)) (.bin .Mult (.lit (.int 2)) (.var 1))) (.cons (.lit (.int 0)) (.cons (.glob (.st 63)) .nil)))))) .skip) .skip) (.seq (.asg (.var 5) (.call (.glob (.st 248)) (.cons (.lit (.bytes [])) (.cons (.lit (.int 0)) .nil)))) (.seq (.expr (.meth (.var 0) tg (.cons (.var 5) (.cons (.var 4) .nil)))) (.seq (.ret (.call (.glob (.st 795)) (.cons (.var 5) (.cons (.meth (.var 0) ig (.cons (.bin .Add (.lit (.int 4)) (.bin .Mult (.lit (.int 2)) (.var 1))) (.cons (.lit (.int 0)) (.cons (.glob (.st 63)) .nil)))) (.cons (.var 2) (.cons (.var 3) .nil)))))) .skip)))))
noncomputable def m4:S:=(.seq (.asg (.var 4) (.bin .Sub (.call (.glob (.fn .len)) (.cons (.attr (.var 0) dm) .nil)) (.attr (.var 0) kd))) (.seq (.ite (.cmp .In (.var 4) (.var 3)) (.seq (.ret (.idx (.var 3) (.var 4))) .skip) .skip) (.seq (.ite (.cmp .Eq (.var 1) (.lit (.int 1))) (.seq (.asg (.var 5) (.bin .Sub (.bin .Mod (.meth (.var 0) ig (.cons (.lit (.int 4)) (.cons (.lit (.int 0)) (.cons (.glob (.st 105)) .nil)))) (.lit (.int 1000003))) (.lit (.int 500000)))) .skip) (.seq (.ite (.cmp .Eq (.var 1) (.lit (.int 2))) (.seq (.asg (.var 5) (.idx (.var 2) (.meth (.var 0) ig (.cons (.lit (.int 4)) (.cons (.lit (.int 0)) (.cons (.glob (.st 63)) .nil)))))) .skip) (.seq (.ite (.cmp .Eq (.var 1) (.lit (.int 5))) (.seq (.asg (.var 6) (.call (.glob (.st 788)) (.cons (.var 0) (.cons (.lit (.int 0)) (.cons (.var 2) (.cons (.var 3) .nil)))))) (.seq (.asg (.var 5) (.call (.glob (.st 788)) (.cons (.var 0) (.cons (.ite (.cmp .Gt (.var 6) (.lit (.int 0))) (.lit (.int 2)) (.lit (.int 4))) (.cons (.var 2) (.cons (.var 3) .nil)))))) .skip)) (.seq (.ite (.cmp .Eq (.var 1) (.lit (.int 6))) (.seq (.asg (.var 7) (.meth (.var 0) nj (.cons (.meth (.var 0) dK (.cons (.lit (.int 4)) .nil)) .nil))) (.seq (.asg (.var 8) (.meth (.var 0) nj (.cons (.meth (.var 0) dK (.cons (.lit (.int 6)) .nil)) .nil))) (.seq (.asg (.var 9) (.lst true .nil)) (.seq (.forIn (.var 10) .rng (.cons (.meth (.var 0) lV (.cons (.meth (.var 0) dK (.cons (.lit (.int 4)) .nil)) .nil)) .nil) (.seq (.asg (.var 11) (.call (.glob (.st 248)) (.cons (.attr (.var 0) dm) (.cons (.meth (.var 0) nw (.cons (.bin .Add (.var 8) (.bin .Mult (.lit (.int 4)) (.var 10))) .nil)) .nil)))) (.seq (.expr (.meth (.var 9) jd (.cons (.call (.glob (.st 795)) (.cons (.var 11) (.cons (.meth (.var 0) lW (.cons (.glob (.st 63)) (.cons (.bin .Add (.var 7) (.var 10)) .nil))) (.cons (.var 2) (.cons (.var 3) .nil))))) .nil))) .skip))) (.seq (.asg (.var 5) (.call (.glob (.st 776)) (.cons (.var 1) (.cons (.var 9) .nil)))) .skip))))) (.seq (.asg (.var 5) (.call (.glob (.st 776)) (.cons (.var 1) (.cons (.lst false (.cons (.call (.glob (.st 788)) (.cons (.var 0) (.cons (.lit (.int 0)) (.cons (.var 2) (.cons (.var 3) .nil))))) (.cons (.call (.glob (.st 788)) (.cons (.var 0) (.cons (.lit (.int 2)) (.cons (.var 2) (.cons (.var 3) .nil))))) .nil))) .nil)))) .skip)) .skip)) .skip)) .skip)) (.seq (.setI (.var 3) (.var 4) (.var 5)) (.seq (.ret (.var 5)) .skip)))))
noncomputable def Bz:S:=(.seq (.asg (.var 1) (.lst true (.cons (.slc (.var 0) (.lit .none) (.lit (.int 30)) (.lit .none)) (.cons (.lit (.int 0)) .nil)))) (.seq (.asg (.var 2) (.call (.glob (.st 732)) (.cons (.idx (.lst false (.cons (.lit (.int 0)) (.cons (.lit (.int 6)) (.cons (.lit (.int 50)) .nil)))) (.call (.glob (.st 752)) (.cons (.var 1) (.cons (.lit (.int 3)) .nil)))) .nil))) (.seq (.asg (.var 3) (.lst false (.cons (.comp false (.bin .Sub (.call (.glob (.st 752)) (.cons (.var 1) (.cons (.lit (.int 2001)) .nil))) (.lit (.int 1000))) (.var 11) 1 .rng (.cons (.lit (.int 3)) .nil) (.lit (.bool true))) (.cons (.lst false (.cons (.lit (.int 3)) (.cons (.lit (.int 0)) (.cons (.bin .Sub (.lit (.int 0)) (.lit (.int 5))) .nil)))) .nil)))) (.seq (.asg (.var 4) (.lst true .nil)) (.seq (.forIn (.var 5) .rng (.cons (.lit (.int 8)) .nil) (.seq (.ite (.or (.cmp .Eq (.var 5) (.lit (.int 0))) (.cmp .Lt (.idx (.var 1) (.lit (.int 1))) (.call (.glob (.fn .len)) (.cons (.idx (.var 1) (.lit (.int 0))) .nil)))) (.seq (.expr (.call (.glob (.st 771)) (.cons (.var 2) (.cons (.var 4) (.cons (.var 1) .nil))))) .skip) .skip) .skip)) (.seq (.expr (.meth (.var 2) eK (.cons (.lit (.int 2)) .nil))) (.seq (.expr (.call (.glob (.st 759)) (.cons (.var 2) (.cons (.var 4) (.cons (.lit (.int 0)) (.cons (.bin .Sub (.call (.glob (.fn .len)) (.cons (.var 4) .nil)) (.lit (.int 1))) .nil)))))) (.seq (.expr (.meth (.var 2) qB (.cons (.meth (.var 2) jk .nil) .nil))) (.seq (.asg (.var 6) (.call (.glob (.fn .bytes)) (.cons (.meth (.var 2) nv .nil) .nil))) (.seq (.asg (.var 7) (.call (.glob (.st 248)) (.cons (.var 6) (.cons (.call (.glob (.st 159)) (.cons (.glob (.st 52)) (.cons (.var 6) (.cons (.lit (.int 0)) .nil)))) .nil)))) (.seq (.forIn (.var 8) .lst (.var 3) (.seq (.asg (.var 9) .dict0) (.seq (.asg (.var 10) .dict0) (.seq (.ite (.or (.cmp .NotEq (.call (.glob (.st 788)) (.cons (.var 7) (.cons (.lit (.int 0)) (.cons (.var 8) (.cons (.var 10) .nil))))) (.call (.glob (.st 781)) (.cons (.var 4) (.cons (.bin .Sub (.call (.glob (.fn .len)) (.cons (.var 4) .nil)) (.lit (.int 1))) (.cons (.var 8) (.cons (.var 9) .nil)))))) (.cmp .NotEq (.var 10) (.var 9))) (.seq (.ret (.lit (.bool false))) .skip) .skip) .skip)))) (.seq (.ret (.cmp .Eq (.var 6) (.call (.glob (.fn .bytes)) (.cons (.meth (.var 2) nv .nil) .nil)))) .skip))))))))))))
end
section
noncomputable def as0:List Addr:=[2,3,50,51,52,53,62,63,76,77,90,91,104,105,118,119,130,131,142,143,151,152,158,159,165,166,180,181,187,188,194,195,202,208,209,215,216,222,223,229,230,236,237,244,247,248,249,250,339,345,346,353,359,360,366,367,373,374,380,381,387,388,394,395,401,402,408,409,415,416,422,423,429,430,436,437,438,444,445,452,459,466,472,473,479,480,487,493,494,495,501,502,503,509,510,518,524,525,531,532,539,546,552,553,560,567,574,581,588,594,595,602,608,609,616,623,630,636,637,644,651,658,665,672,679,686,693,699,700,706,707,714,720,721,727,728,731,732,733,734,735,736,737,738,739,740,741,742,743,751,752,758,759,765,766,770,771,775,776,780,781,787,788,794,795,799,800]
noncomputable def iM:yG:=⟨tb0,[(kE,Fm.B),(g8,Fm.H),(gt,Fm.I),(gM,Fm.i)],[(ef,kZ),(cP,k7)],[
 ⟨cY,["n","flags"],[],[], .pos 2,iH⟩,
 ⟨pJ,["packer_type","buf","head"],[],[], .pos 3,BA⟩,
 ⟨jo,["packer_type","buf","head","n"],[],[], .pos 4,uX⟩,
 ⟨dM,["self"],[],[], .pos 1,iI⟩,
 ⟨dI,["self"],[],[], .pos 1,gx⟩,
 ⟨eu,["self"],[],[], .pos 1,oM⟩,
 ⟨k8,["self"],[],[], .pos 1,sW⟩,
 ⟨d0,["self"],["msg","newSize","bytes2"],[], .pos 1,gN⟩,
 ⟨nI,["self","n"],["new_head"],[], .pos 2,uZ⟩,
 ⟨gm,["self","size","additionalBytes"],["head","buf_len","alignSize","needed","oldBufSize"],[], .pos 3,sV⟩,
 ⟨ju,["self","x","flags"],["new_head"],[], .pos 3,qt⟩,
 ⟨et,["self","x"],["new_head"],[], .pos 2,hD⟩,
 ⟨dT,["self","x"],["new_head"],[], .pos 2,g9⟩,
 ⟨fz,["self","flags","off"],[],[], .pos 3,m8⟩,
 ⟨dc,["self","off"],["msg","off2"],[], .pos 2,eS⟩,
 ⟨da,["self","off"],["msg","off2"],[], .pos 2,eR⟩,
 ⟨eV,["self","elemSize","numElems","alignment"],[],[], .pos 4,i6⟩,
 ⟨fL,["self","numElems"],[],[], .dflt 1 .none,kI⟩,
 ⟨jL,["self","slotnum"],[],[], .pos 2,sU⟩,
 ⟨ek,["self","numfields"],[],[], .pos 2,i7⟩,
 ⟨er,["self","flags","o","x","d"],[],[], .pos 5,i8⟩,
 ⟨dD,["self","args"],[],[], .star,gi⟩,
 ⟨dP,["self","args"],[],[], .star,gj⟩,
 ⟨c9,["self","o","x","d"],[],[], .pos 4,eg⟩,
 ⟨eJ,["self","x"],[],[], .pos 2,iJ⟩,
 ⟨dX,["self","x"],[],[], .pos 2,gy⟩,
 ⟨ip,["self"],[],[], .pos 1,oL⟩,
 ⟨gG,["self","rootTable","sizePrefix","file_identifier"],["prepSize","i","size"],[], .kw 3 "file_identifier",m9⟩,
 ⟨iq,["self","rootTable","file_identifier"],[],[], .dflt 2 .none,oN⟩,
 ⟨eU,["self"],["objectOffset","vtKey","trim","elem","objectSize","vt2Offset","i","trailing","off","vBytes","objectStart"],["vtKey"], .pos 1,i5⟩,
 ⟨e9,["self"],[],[], .pos 1,kJ⟩,
 ⟨k7,["self","initialSize"],["msg"],[], .dflt 1 (.int 1024),sT⟩,
 ⟨kZ,["self","buf","pos"],[],[], .pos 3,sS⟩,
 ⟨iD,["self","flags","off"],[],[], .pos 3,uY⟩,
 ⟨fU,["self","vtableOffset"],["vtable","vtableEnd"],[], .pos 2,oK⟩,
 ⟨gb,["self","off"],[],[], .pos 2,lO⟩,
 ⟨fK,["self","off"],["ret"],[], .pos 2,kH⟩,
 ⟨im,["self","off"],["x"],[], .pos 2,oJ⟩,
 ⟨fV,["self","slot","d","validator_flags"],["off"],[], .pos 4,m7⟩,
 ⟨jp,["self","t2","off"],[],[], .pos 3,qq⟩,
 ⟨fT,["box","many"],["number"],[], .pos 2,mZ⟩,
 ⟨eL,["builder","made","slot","which"],[],[], .pos 4,j5⟩,
 ⟨il,["builder","made","parts"],["which","kinds"],[], .pos 3,oI⟩,
 ⟨gF,["builder","made","box"],["kind","holds","k","kinds","parts"],[], .pos 3,m6⟩,
 ⟨eZ,["kind","worths"],[],[], .pos 2,kG⟩,
 ⟨ga,["made","which","names","met"],["kind","holds","place","worth","test"],[], .pos 4,lN⟩,
 ⟨gE,["table","slot","names","met"],["off","other"],[], .pos 4,m5⟩,
 ⟨gD,["table","kind","names","met"],["place","worth","test","kinds","parts","worths","k","other"],["worths"], .pos 4,m4⟩,
 ⟨x4,["script"],["box","builder","names","made","turn","data","table","worths","due","told"],["box","made"], .pos 1,Bz⟩]⟩
end
section
theorem Di (w:World):(vf PySem.Challenge.rw_ar0012_03.prog w 20000).map (xO PySem.Challenge.rw_ar0012_03.prog (qOf PySem.Challenge.rw_ar0012_03) (vI PySem.Challenge.rw_ar0012_03) fun x=>iM.see (xV as0 x.tree x.n))=some (true,openGood (qOf PySem.Challenge.rw_ar0012_03) (vI PySem.Challenge.rw_ar0012_03),iM.exp):=by kernel_rfl
end
section
noncomputable abbrev AT (Φ:Addr→Option Ctr) (a:Addr) (c:Ctr):Prop:=(Pg.mk Φ CQ zV).Φ a=some c
noncomputable abbrev BD (Φ:Addr→Option Ctr) (c:Ctr) (b:List V→List (Str × P)→Option (List V)) (n:Nat) (s:S):Prop:=∀args kws objs Q,c args kws objs Q→eY b n s ⟨Φ,CQ,zV⟩ args kws objs Q
structure Lv where
 b:List UInt8:=[]
 h:Int:=0
 v:Nat:=0
 k:Nat:=0
 x:Int:=0
 y:Int:=0
 o:Option P:=none
 q:Option P:=none
 r:Option P:=none
 t:Bool:=false
 l:List Int:=[]
 m:List Int:=[]
 mt:List (Int × Int):=[]
 e:List (Option V):=[]
 s:List O:=[]
 a:Ab:=⟨[],0,0,none,false, .none,false,false, .none,none,[]⟩
theorem Ba {n0:Nat} {test:St→(Bool→St→Prop)→Prop} {body:St→(Fl→St→Prop)→Prop} {Q:Fl→St→Prop} (stf:Lv→St) (meas:Lv→Nat) (I:Lv→Prop)
  (hstep:∀i (K:Fl→St→Prop),I i→(∀st' j,iT n0 st'=stf j→meas j<meas i→I j→K .next st'∧K .cont st')→(∀st',Q .next st'→K .brk st')→(∀v st',Q (.ret v) st'→K (.ret v) st')→
   test (stf i) fun b st=>br b (body st K) (Q .next st)) (i:Lv) (h:I i):∃n,zm n0 test body n (stf i) Q:=
 zl (fun k st=>∃i,st=stf i∧k=meas i∧I i) (fun k st K zp hn hb hr=>e1c zp fun i e1 e2 hI=>by clear zp;subst e1 e2;exact hstep i K hI (fun st' j e hm hj=>hn st' _ hm ⟨j,e,rfl,hj⟩) hb hr) (meas i) (stf i) ⟨i,rfl,rfl,h⟩
theorem qF {n0:Nat} {chk:St→Prop} {step:P→St→(Fl→St→Prop)→Prop} {Q:Fl→St→Prop} (stf:Lv→St) (I:List P→Lv→Prop)
  (hstep:∀x xs i (K:Fl→St→Prop),I (x::xs) i→(∀st' j,iT n0 st'=stf j→I xs j→K .next st'∧K .cont st')→(∀st',Q .next st'→K .brk st')→(∀v st',Q (.ret v) st'→K (.ret v) st')→chk (stf i)∧step x (stf i) K)
  (hend:∀i,I [] i→chk (stf i)∧Q .next (stf i)) (xs:List P) (i:Lv) (h:I xs i):t0 n0 chk step xs (stf i) Q:=
 qG (fun xs st=>∃i,st=stf i∧I xs i) (fun x xs st K zp hn hb hr=>e1b zp fun i e1 hI=>by subst e1;exact hstep x xs i K hI (fun st' j e hj=>hn st' ⟨j,e,hj⟩) hb hr) (fun st zp=>e1b zp fun i e1 hI=>by clear hstep step n0 zp;subst e1;exact hend i hI) xs (stf i) ⟨i,rfl,h⟩
theorem qU {chk:St→Prop} {step:P→St→(List P→St→Prop)→Prop} {Q:List P→St→Prop} (stf:Lv→St) (I:List P→List P→Lv→Prop)
  (hstep:∀x xs acc i (K:List P→St→Prop),I (x::xs) acc i→(∀ys j,I xs (acc++ys) j→K ys (stf j))→chk (stf i)∧step x (stf i) K)
  (hend:∀acc i,I [] acc i→chk (stf i)∧Q acc (stf i)) (xs acc:List P) (i:Lv) (h:I xs acc i):wq chk step xs acc (stf i) Q:=
 wo (fun xs acc st=>∃i,st=stf i∧I xs acc i) (fun x xs acc st K zp hn=>e1b zp fun i e1 hI=>by subst e1;exact hstep x xs acc i K hI fun ys j hj=>hn ys (stf j) ⟨j,rfl,hj⟩) (fun acc st zp=>e1b zp fun i e1 hI=>by clear zp;subst e1;exact hend acc i hI) xs acc (stf i) ⟨i,rfl,h⟩
theorem kF {G:Pg} {a b:S} {st:St} {Q:Fl→St→Prop} (stf:Lv→St) (I:Lv→Prop) (h1:∀K:Fl→St→Prop,(∀i,I i→K .next (stf i))→(∀f st',f≠.next→Q f st'→K f st')→wS G a st K) (h2:∀i,I i→wS G b (stf i) Q) :
  wS G (.seq a b) st Q:=uV (fun st=>∃i,st=stf i∧I i) (fun K hK=>h1 K fun i hi=>hK _ ⟨i,rfl,hi⟩) fun st' zp=>e1b zp fun i e hi=>by clear h1 st a zp;subst e;exact h2 i hi
theorem CE {i:Int} {n:Nat} (h:0≤i):at_ i n=i:=if_neg (Int.not_lt.mpr h)
theorem pP {n d:Nat}:ww .none n d=some d:=rfl
theorem la {lo hi:P} {n N a b:Nat} {K:Nat→Nat→Prop} (e:n=N) (h1:ww lo N 0=some a) (h2:ww hi N N=some b) (hn:N≤16777216) (h:K a b):pR lo hi n K:=by
 subst e
 unfold pR;rw [h1,h2];exact ⟨hn,h⟩
theorem f9 {l:List P} {i:Int} {z:P} {st:St} {Q:V→St→Prop} (h0:0≤i) (h1:l[i.toNat]? = some z) (h2:l.length≤16777216) (h:Q (.p z) st):w6 l i st Q:=by
 unfold w6;rw [CE h0];exact ⟨⟨h0,h2⟩,z,h1,h⟩
theorem eG (k:Nat) {l:List P} {z:P} {st:St} {Q:V→St→Prop} (h1:l[k]? = some z) (h2:Nat.ble l.length 16777216=true) (h:Q (.p z) st):w6 l k st Q:=f9 (Int.natCast_nonneg k) h1 (Nat.le_of_ble_eq_true h2) h
theorem oO (l:List P) (r:List Nat):f8 (l.map .p) r=r:=by
 induction l generalizing r with
 |nil=>rfl
 |cons x l ih=>exact ih r
theorem qD (φ:Nat→Nat) (l:List P):py φ (l.map .p)=l.map .p:=by
 induction l with
 |nil=>rfl
 |cons x l ih=>exact congrArg (V.p x::·) ih
theorem C7 {σ:List O} {j:Nat} {o:O}:mU σ [j] [o]=σ.set j o:=List.append_nil _
theorem CP {Q:V→St→Prop} {v:P} {env:List (Option V)} {σ:List O} {j:Nat} {o:O} (h:Q (.p v) ⟨env,σ.set j o⟩):Q (.p v) ⟨env,mU σ [j] [o]⟩:=by rw [C7];exact h
theorem mG {G:Pg} {fa:Addr} {ctr:Ctr} (hΦ:G.Φ fa=some ctr) {j:Nat} {env:List (Option V)} {σ:List O} {o:O} {ps:List P} {kws:List (Str × P)} {Q:V→St→Prop} (hj:σ[j]? = some o)
  (h:ctr (.ref 0::ps.map .p) kws [o] fun v objs=>Q (A0 (sD [j] σ.length) v) ⟨env,mU σ [j] objs⟩):fj G fa (.ref j::ps.map .p) kws ⟨env,σ⟩ Q:=by
 unfold fj
 rw [hΦ]
 have e:f8 (V.ref j::ps.map .p) []=[j]:=oO ps [j]
 have e2:py ([j].idxOf ·) (V.ref j::ps.map .p)=.ref 0::ps.map .p:=by
  refine (?_:V.ref ([j].idxOf j)::py _ _=_)
  rw [qD,List.idxOf_cons_self]
 rw [e,e2]
 refine (?_:opt (qI σ [j]) _)
 unfold qI qI
 rw [hj]
 exact h
inductive Fg where|u8|v|i|s|u
noncomputable def Fg.c:Fg→Addr|.u8=>eX|.v=>d7|.i=>fA|.s=>d9|.u=>d8
noncomputable def Fg.F:Fg→Fm|.u8=>.B|.v=>.H|.i=>.i|.s=>.i|.u=>.I
noncomputable def Fg.S:Fg→Addr|.u8=>kE|.v=>g8|.i=>gM|.s=>gM|.u=>gt
theorem B3 (g:Fg):di.stat.lookup g.c=some (.int g.F.w):=by cases g<;>rfl
theorem Dq (g:Fg):ec.stat.lookup g.c=some (.st g.S):=by cases g<;>rfl
theorem B0 (g:Fg):jP.stat.lookup g.c=some (.int g.F.lo):=by cases g<;>rfl
theorem Dr (g:Fg):jQ.stat.lookup g.c=some (.int g.F.hi):=by cases g<;>rfl
structure Ar where
 g:Fg:=.u8
 d:List UInt8:=[]
 x:Int:=0
 y:Int:=0
 z:Int:=0
@[irreducible] noncomputable def n4 (c:Addr) (A:Ar→List P) (side:Ar→Ab→Prop) (new:Ar→Ab→Ab) (ret:Ar→Ab→P):Ctr:=fun args kws objs Q=>
 ∃i a bytes head ver,args=.ref 0::(A i).map .p∧kws=[]∧objs=[bo c a bytes head ver]∧Rb a.T a.room bytes head∧side i a∧∀bytes' head' ver',Rb (new i a).T (new i a).room bytes' head'→Q (.p (ret i a)) [bo c (new i a) bytes' head' ver']
@[irreducible] noncomputable def sf {ω:Type} (o:ω→O) (A:Ar→List P) (side:Ar→ω→Prop) (ret:Ar→ω→P):Ctr:=fun args kws objs Q=>
 ∃i w,args=.ref 0::(A i).map .p∧kws=[]∧objs=[o w]∧side i w∧Q (.p (ret i w)) [o w]
@[irreducible] noncomputable def A6 {ω:Type} (o:ω→O) (A:Ar→List P) (side:Ar→ω→Prop) (o':Ar→ω→Nat→O) (ret:Ar→ω→P):Ctr:=fun args kws objs Q=>
 ∃i w,args=.ref 0::(A i).map .p∧kws=[]∧objs=[o w]∧side i w∧∀ver',Q (.p (ret i w)) [o' i w ver']
@[irreducible] noncomputable def At (A:Ar→List P) (side:Ar→Prop) (ret:Ar→P):Ctr:=fun args kws objs Q=>∃i,args=(A i).map .p∧kws=[]∧objs=[]∧side i∧Q (.p (ret i)) []
structure Bw where
 a:Ab
 b:List UInt8
 h:Int
 v:Nat
noncomputable def Bw.o (w:Bw):O:=bo cP w.a w.b w.h w.v
noncomputable def Bw.R (w:Bw):Prop:=Rb w.a.T w.a.room w.b w.h
noncomputable def Bw.put (w:Bw) (i:Ar):O:=bo cP w.a (Fb.put w.b i.x.toNat (le i.g.F.w i.y)) w.h w.v
noncomputable def DG (i:Ar) (w:Bw):Prop:=0≤i.x∧i.x+i.g.F.w≤w.b.length∧w.b.length≤16777216∧i.g.F.lo≤i.y∧i.y≤i.g.F.hi
@[irreducible] noncomputable def jx:Ctr:=fun args kws objs Q=>∃(i:Ar) (w:Bw),args=[.p (.st i.g.S), .inn 0 0 w.v, .p (.int i.x), .p (.int i.y)]∧kws=[]∧objs=[w.o]∧DG i w∧Q (.p .none) [w.put i]
section
variable {G:Pg} {fa c:Addr} {ω:Type} {o:ω→O} {A:Ar→List P} {side:Ar→Ab→Prop} {new:Ar→Ab→Ab} {ret:Ar→Ab→P} {sideG:Ar→ω→Prop} {retG:Ar→ω→P} {sideN:Ar→Prop} {retN:Ar→P} {env:List (Option V)} {σ:List O} {Q:V→St→Prop}
theorem dp (hΦ:G.Φ fa=some (n4 c A side new ret)) (j:Nat) (i:Ar) {a:Ab} {bytes:List UInt8} {head:Int} {ver:Nat} (hj:σ[j]? = some (bo c a bytes head ver)) (hr:Rb a.T a.room bytes head) (hs:side i a)
  (h:∀bytes' head' ver',Rb (new i a).T (new i a).room bytes' head'→Q (.p (ret i a)) ⟨env,σ.set j (bo c (new i a) bytes' head' ver')⟩):fj G fa (.ref j::(A i).map .p) [] ⟨env,σ⟩ Q:=by
 refine mG hΦ hj ?_
 unfold n4;exact ⟨i,a,bytes,head,ver,rfl,rfl,rfl,hr,hs,fun b h' v r=>CP (Q:=Q) (h b h' v r)⟩
theorem eC (hΦ:G.Φ fa=some (sf o A sideG retG)) (j:Nat) (i:Ar) (w:ω) (hj:σ[j]? = some (o w)) (hs:sideG i w) (h:Q (.p (retG i w)) ⟨env,σ⟩):fj G fa (.ref j::(A i).map .p) [] ⟨env,σ⟩ Q:=by
 refine mG hΦ hj ?_
 unfold sf
 refine ⟨i,w,rfl,rfl,rfl,hs,?_⟩
 have e:σ.set j (o w)=σ:=by
  refine e1a (List.getElem?_eq_some_iff.mp hj) fun hj q=>?_
  rw [←q];exact List.set_getElem_self hj
 refine CP (Q:=Q) ?_
 rw [e];exact h
theorem y9 {o':Ar→ω→Nat→O} (hΦ:G.Φ fa=some (A6 o A sideG o' retG)) (j:Nat) (i:Ar) (w:ω) (hj:σ[j]? = some (o w)) (hs:sideG i w) (h:∀ver',Q (.p (retG i w)) ⟨env,σ.set j (o' i w ver')⟩):fj G fa (.ref j::(A i).map .p) [] ⟨env,σ⟩ Q:=by
 refine mG hΦ hj ?_
 unfold A6;exact ⟨i,w,rfl,rfl,rfl,hs,fun v=>CP (Q:=Q) (h v)⟩
theorem fM (hΦ:G.Φ fa=some (At A sideN retN)) (i:Ar) {st:St} (hs:sideN i) (h:Q (.p (retN i)) st):fj G fa ((A i).map .p) [] st Q:=by
 unfold fj
 rw [hΦ,oO,qD]
 refine (?_:At A sideN retN _ _ _ _)
 unfold At
 refine ⟨i,rfl,rfl,rfl,hs,?_⟩
 refine (?_:Q _ ⟨st.env,st.σ++[]⟩)
 rw [List.append_nil];exact h
theorem q7 (hΦ:G.Φ fa=some jx) (j:Nat) (i:Ar) (w:Bw) (hj:σ[j]? = some w.o) (hs:DG i w) (h:Q (.p .none) ⟨env,σ.set j (w.put i)⟩):fj G fa [.p (.st i.g.S), .inn j 0 w.v, .p (.int i.x), .p (.int i.y)] [] ⟨env,σ⟩ Q:=by
 unfold fj
 rw [hΦ]
 refine (?_:opt (qI σ [j]) _)
 unfold qI qI
 rw [hj]
 refine (?_:jx _ _ _ _)
 unfold jx
 refine ⟨i,w,?_,rfl,rfl,hs,?_⟩
 ·refine (?_:[V.p (.st i.g.S), .inn ([j].idxOf j) 0 w.v, .p (.int i.x), .p (.int i.y)]=_)
  rw [List.idxOf_cons_self]
 ·refine (?_:Q _ ⟨env,mU (σ.set j _) [] []⟩)
  unfold mU;rw [List.append_nil];exact h
theorem zc {bindf:List V→List (Str × P)→Option (List V)} {k:Nat} {S:S} (E:Ar→List V) (hb:∀i,bindf ((A i).map .p) []=some (E i))
  (h:∀i (K:Fl→St→Prop),sideN i→(∀fl env r,w5 fl=.p (retN i)→K fl ⟨env,r⟩)→wS G S ⟨(E i).map some++List.replicate k none,[]⟩ K):∀args kws objs Q,At A sideN retN args kws objs Q→eY bindf k S G args kws objs Q:=fun args kws objs Q hq=>by
 unfold At at hq
 revert hq;intro zh;refine e1e zh fun i zq1 zq2 zq3 hs hq=>?_;clear zh;subst zq1 zq2 zq3
 unfold eY
 rw [hb]
 refine h i _ hs fun fl env r e=>⟨0,⟨Nat.le_refl 0,Nat.zero_le _,?_⟩,?_⟩
 ·rw [e];rfl
 ·rw [e];exact hq
theorem zb {o':Ar→ω→Nat→O} {bindf:List V→List (Str × P)→Option (List V)} {k:Nat} {S:S} (E:Ar→List V) (hb:∀i,bindf (.ref 0::(A i).map .p) []=some (E i))
  (h:∀i w (K:Fl→St→Prop),sideG i w→(∀fl env ver' r,w5 fl=.p (retG i w)→K fl ⟨env,o' i w ver'::r⟩)→
   wS G S ⟨(E i).map some++List.replicate k none,[o w]⟩ K):∀args kws objs Q,A6 o A sideG o' retG args kws objs Q→eY bindf k S G args kws objs Q:=fun args kws objs Q hq=>by
 unfold A6 at hq
 revert hq;intro zh;refine e2e zh fun i w zq2 zq3 zq4 hs hq=>?_;clear zh;subst zq2 zq3 zq4
 unfold eY
 rw [hb]
 refine h i w _ hs fun fl env ver' r e=>⟨1,⟨Nat.le_refl 1,Nat.le_add_left 1 _,?_⟩,?_⟩
 ·rw [e];rfl
 ·rw [e];exact hq _
theorem fN {bindf:List V→List (Str × P)→Option (List V)} {k:Nat} {S:S} (E:Ar→List V) (hb:∀i,bindf (.ref 0::(A i).map .p) []=some (E i))
  (h:∀i a bytes head ver (K:Fl→St→Prop),Rb a.T a.room bytes head→side i a→(∀fl env bytes' head' ver' r,Rb (new i a).T (new i a).room bytes' head'→w5 fl=.p (ret i a)→K fl ⟨env,bo c (new i a) bytes' head' ver'::r⟩)→
   wS G S ⟨(E i).map some++List.replicate k none,[bo c a bytes head ver]⟩ K):∀args kws objs Q,n4 c A side new ret args kws objs Q→eY bindf k S G args kws objs Q:=fun args kws objs Q hq=>by
 unfold n4 at hq
 revert hq;intro zh;refine e5f zh fun i a bytes head ver zq5 zq6 zq7 hr hs hq=>?_;clear zh;subst zq5 zq6 zq7
 unfold eY
 rw [hb]
 refine h i a bytes head ver _ hr hs fun fl env bytes' head' ver' r hr' e=>⟨1,⟨Nat.le_refl 1,Nat.le_add_left 1 _,?_⟩,?_⟩
 ·rw [e];rfl
 ·rw [e];exact hq _ _ _ hr'
theorem kc {bindf:List V→List (Str × P)→Option (List V)} {k:Nat} {S:S} (E:Ar→List V) (hb:∀i,bindf (.ref 0::(A i).map .p) []=some (E i))
  (h:∀i w (K:Fl→St→Prop),sideG i w→(∀fl env r,w5 fl=.p (retG i w)→K fl ⟨env,o w::r⟩)→
   wS G S ⟨(E i).map some++List.replicate k none,[o w]⟩ K):∀args kws objs Q,sf o A sideG retG args kws objs Q→eY bindf k S G args kws objs Q:=fun args kws objs Q hq=>by
 unfold sf at hq
 revert hq;intro zh;refine e2e zh fun i w zq2 zq3 zq4 hs hq=>?_;clear zh;subst zq2 zq3 zq4
 unfold eY
 rw [hb]
 refine h i w _ hs fun fl env r e=>⟨1,⟨Nat.le_refl 1,Nat.le_add_left 1 _,?_⟩,?_⟩
 ·rw [e];rfl
 ·rw [e];exact hq
end
end
local macro_rules |`(tactic| lk)=>`(tactic| (try ((first|refine Fb.A7 rfl ?_|refine Fb.o9 rfl ?_|refine And.intro rfl ?_|refine Fb.kf rfl ?_);lk)))
section
noncomputable def inB (F:Fm) (d:List UInt8) (off:Int):Prop:=0≤off∧off+F.w≤d.length∧d.length≤16777216
noncomputable def rdF (F:Fm) (d:List UInt8) (off:Int):Int:=F.rd ((d.drop off.toNat).take F.w)
noncomputable def sA:Ctr:=At (fun i=>[.int i.x, .st i.g.c]) (fun i=>i.g.F.lo≤i.x∧i.x≤i.g.F.hi) fun _=>.none
noncomputable def AB:Ctr:=At (fun i=>[.st i.g.S, .bytes i.d, .int i.x]) (fun i=>inB i.g.F i.d i.x) fun i=>.int (rdF i.g.F i.d i.x)
section
variable {Φ:Addr→Option Ctr}
theorem wI:BD Φ sA (db 2) 0 iH:=
 zc (fun i=>[.p (.int i.x), .p (.st i.g.c)]) (fun _=>rfl) fun ⟨g,d,x,y,z⟩ K h hK=>by
  lk
  refine kf (B0 g) ?_
  lk
  refine kf (B0 g) ?_
  lk
  refine A7 (decide_eq_true h.1) ?_
  lk
  refine kf (Dr g) ?_
  lk
  refine o9 (congrArg Bool.not (decide_eq_true h.2)) ?_
  lk
  exact hK _ _ _ rfl
theorem DC:BD Φ AB (db 3) 0 BA:=
 zc (fun i=>[.p (.st i.g.S), .p (.bytes i.d), .p (.int i.x)]) (fun _=>rfl) fun ⟨g,d,x,y,z⟩ K h hK=>by
  cases g
  all_goals
   lk
   refine ⟨h,?_⟩
   lk
   refine eG 0 rfl rfl ?_
   lk
   exact hK _ _ _ rfl
theorem AF:BD Φ jx (db 4) 0 uX:=fun args kws objs Q hq=>by
 unfold jx at hq
 revert hq;intro zh;refine e2e zh fun zn1 w zq2 zq3 zq4 h hq=>?_;clear zh;subst zq2 zq3 zq4;obtain ⟨g,d,x,y,z⟩:=zn1
 cases g
 all_goals
  lk
  refine ⟨h,?_⟩
  lk
  exact ⟨1,⟨Nat.le_refl 1,Nat.le_refl 1,rfl⟩,hq⟩
end
end
section
noncomputable def uo:Ctr:=sf Bw.o (fun _=>[]) (fun _ w=>w.a.nested=true) fun _ _=>.none
noncomputable def lc:Ctr:=sf Bw.o (fun _=>[]) (fun _ w=>w.a.nested=false) fun _ _=>.none
noncomputable def gW:Ctr:=sf Bw.o (fun _=>[]) (fun _ w=>w.R) fun _ w=>.int w.a.T.length
noncomputable def yn:Ctr:=sf Bw.o (fun _=>[]) (fun _ _=>True) fun _ w=>.int w.h
section
variable {Φ:Addr→Option Ctr}
theorem Cy:BD Φ uo (db 1) 0 iI:=
 kc (fun _=>[.ref 0]) (fun _=>rfl) fun i w K h hK=>by
  refine o9 (congrArg Bool.not h) ?_
  lk
  exact hK _ _ [] rfl
theorem wM:BD Φ lc (db 1) 0 gx:=
 kc (fun _=>[.ref 0]) (fun _=>rfl) fun i w K h hK=>by
  refine o9 h ?_
  lk
  exact hK _ _ [] rfl
theorem yB:BD Φ gW (db 1) 0 oM:=
 kc (fun _=>[.ref 0]) (fun _=>rfl) fun i w K h hK=>by
  lk
  refine ⟨Nat.le_trans h.cap (by decide),?_⟩
  lk
  exact hK _ _ [] (congrArg (fun x=>V.p (.int x)) h.len)
theorem Cz:BD Φ yn (db 1) 0 sW:=
 kc (fun _=>[.ref 0]) (fun _=>rfl) fun i w K h hK=>by
  lk
  exact hK _ _ [] rfl
noncomputable def jn (b:List UInt8):List UInt8:=List.replicate (if b.length=0 then 1 else b.length) 0++b
noncomputable def yo:Ctr:=A6 Bw.o (fun _=>[]) (fun _ w=>w.b.length≤2097152) (fun _ w ver=>bo cP w.a (jn w.b) w.h ver) fun _ _=>.none
theorem Af {b:List UInt8} (h0:b.length≠0):List.take ((b.length:Int)*2-b.length).toNat (List.replicate ((b.length:Int)*2).toNat (0:UInt8))++b++List.drop ((b.length:Int)*2).toNat (List.replicate ((b.length:Int)*2).toNat 0)=jn b:=by
 rw [List.drop_eq_nil_of_le (by rw [List.length_replicate];exact Nat.le_refl _),List.append_nil,List.take_replicate,jn,if_neg h0]
 congr 2
 exact Nat.le_antisymm (cT [] [_,_,_] ab ae 1 [.j 1 ab ak,.i 1 au (.s (.r am 2) am)] rfl (Nat.min_le_left _ _) (Int.le_of_eq (Int.toNat_of_nonneg (lin [] [_] ai cD 1 [.j 1 bg ab] rfl (Nat.pos_of_ne_zero h0))))) (cT [] [_,_,_] ab ae 1 [.i 1 cD au,.j 1 ak ae] rfl (Int.le_of_eq (Eq.symm (Int.toNat_of_nonneg (lin [] [_] ai cD 1 [.j 1 bg ab] rfl (Nat.pos_of_ne_zero h0))))) (Nat.le_of_eq (Eq.symm (Nat.min_eq_left (cT [] [_,_,_] ab ae 1 [.j 1 bg ak,.i 1 af (.s cu au),.i 1 cu am] rfl (Nat.pos_of_ne_zero h0) (Int.le_of_eq (Int.toNat_of_nonneg (lin [] [_] ai cD 1 [.j 1 bg ab] rfl (Nat.pos_of_ne_zero h0)))) (Int.le_of_eq (Eq.symm (Int.toNat_of_nonneg (lin [] [_] ai bq 1 [.j 2 bg ab] rfl (Nat.pos_of_ne_zero h0))))))))))
theorem CA:BD Φ yo (db 1) 3 gN:=
 zb (fun _=>[.ref 0]) (fun _=>rfl) fun i w K h hK=>by
  have h3:w.b.length≤16777216:=Nat.le_trans h (by decide)
  lk
  refine ⟨h3,?_⟩
  lk
  refine o9 (decide_eq_false (by exact Int.ne_of_lt (lin [] [_] bw aH 1 [.j 1 ab (.n 2097152)] rfl h))) ?_
  lk
  refine ⟨h3,?_⟩
  lk
  refine ⟨by decide,?_⟩
  lk
  conv=>whnf
  rw [show min ((w.b.length:Int)*2) 2147483648=w.b.length*2 from Int.min_eq_left (by exact lin [] [_] bq aH 1 [.j 2 ab (.n 2097152)] rfl h)]
  refine dk (fun q=>?_) (fun q=>?_)
  ·have q0:w.b.length=0:=by have q1:=of_decide_eq_true q;exact Nat.le_antisymm (cT [] [_] ab ay 2 [.i 1 bq ai] rfl (Int.le_of_eq q1)) (cT [] [_] ay ab 2 [.i 1 ai bq] rfl (Int.le_of_eq (Eq.symm q1)))
   have q1:w.b=[]:=List.eq_nil_of_length_eq_zero q0
   lk
   refine ⟨by decide,?_⟩
   lk
   refine ⟨h3,?_⟩
   lk
   refine la (N:=1) (a:=1) rfl (by rw [q1];rfl) pP (by decide) ⟨⟨rfl,Nat.le_refl 1,q0⟩,?_⟩
   lk
   rw [jn,if_pos q0,←List.append_nil (List.replicate 1 0++w.b)] at hK
   exact hK .next _ _ _ rfl
  ·have q0:w.b.length≠0:=by have q1:=of_decide_eq_false q;exact fun hq0=>(absurd (Int.le_antisymm (lin [] [_] bq ai 1 [.j 2 ab ay] rfl (Nat.le_of_eq hq0)) (lin [] [_] ai bq 1 [.j 2 ay ab] rfl (Nat.le_of_eq (Eq.symm hq0)))) q1)
   lk
   refine ⟨by exact (And.intro (lin [] [_] ai bq 1 [.j 2 bg ab] rfl (Nat.pos_of_ne_zero q0)) (lin [] [_] bq (.n 16777216) 1 [.j 2 ab (.n 2097152)] rfl h)),?_⟩
   lk
   refine ⟨h3,?_⟩
   lk
   refine la (List.length_replicate) (mF _ _ _ (by exact lin [] [_] ai cD 1 [.j 1 bg ab] rfl (Nat.pos_of_ne_zero q0)) (by exact lin [] [_,_] cD am 1 [.j 1 bg ab,.i 1 bq am] rfl (Nat.pos_of_ne_zero q0) (Int.le_of_eq (Eq.symm (Int.toNat_of_nonneg (lin [] [_] ai bq 1 [.j 2 bg ab] rfl (Nat.pos_of_ne_zero q0))))))) pP (by exact cT [] [_,_] ab aq 1 [.j 2 ae (.n 2097152),.i 1 af (.r am 2)] rfl h (Int.le_of_eq (Int.toNat_of_nonneg (lin [] [_] ai bq 1 [.j 2 bg ab] rfl (Nat.pos_of_ne_zero q0))))) ⟨⟨rfl,by exact (cT [] [_,_,_] ab ae 1 [.j 1 bg ak,.i 1 af (.s cu au),.i 1 cu am] rfl (Nat.pos_of_ne_zero q0) (Int.le_of_eq (Int.toNat_of_nonneg (lin [] [_] ai cD 1 [.j 1 bg ab] rfl (Nat.pos_of_ne_zero q0)))) (Int.le_of_eq (Eq.symm (Int.toNat_of_nonneg (lin [] [_] ai bq 1 [.j 2 bg ab] rfl (Nat.pos_of_ne_zero q0)))))),by exact Nat.le_antisymm (cT [] [_,_,_,_] ab ae 1 [.i 1 bq au,.i 1 ax cD,.j 1 ak bS] rfl (Int.le_of_eq (Eq.symm (Int.toNat_of_nonneg (lin [] [_] ai bq 1 [.j 2 bg ab] rfl (Nat.pos_of_ne_zero q0))))) (Int.le_of_eq (Int.toNat_of_nonneg (lin [] [_] ai cD 1 [.j 1 bg ab] rfl (Nat.pos_of_ne_zero q0)))) (Nat.le_of_eq (Eq.symm (Nat.sub_add_cancel (cT [] [_,_,_] ab ae 1 [.j 1 bg ak,.i 1 cu am,.i 1 af (.s cu au)] rfl (Nat.pos_of_ne_zero q0) (Int.le_of_eq (Eq.symm (Int.toNat_of_nonneg (lin [] [_] ai bq 1 [.j 2 bg ab] rfl (Nat.pos_of_ne_zero q0))))) (Int.le_of_eq (Int.toNat_of_nonneg (lin [] [_] ai cD 1 [.j 1 bg ab] rfl (Nat.pos_of_ne_zero q0))))))))) (cT [] [_,_,_,_] ab ae 1 [.i 1 au (.r am 2),.i 1 (.s (.r am 2) am) ax,.j 1 (.a ab av) ak] rfl (Int.le_of_eq (Int.toNat_of_nonneg (lin [] [_] ai bq 1 [.j 2 bg ab] rfl (Nat.pos_of_ne_zero q0)))) (Int.le_of_eq (Eq.symm (Int.toNat_of_nonneg (lin [] [_] ai cD 1 [.j 1 bg ab] rfl (Nat.pos_of_ne_zero q0))))) (Nat.le_of_eq (Nat.sub_add_cancel (cT [] [_,_,_] ab ae 1 [.j 1 bg ak,.i 1 cu am,.i 1 af (.s cu au)] rfl (Nat.pos_of_ne_zero q0) (Int.le_of_eq (Eq.symm (Int.toNat_of_nonneg (lin [] [_] ai bq 1 [.j 2 bg ab] rfl (Nat.pos_of_ne_zero q0))))) (Int.le_of_eq (Int.toNat_of_nonneg (lin [] [_] ai cD 1 [.j 1 bg ab] rfl (Nat.pos_of_ne_zero q0))))))))⟩,?_⟩
   lk
   rw [←Af q0] at hK
   exact hK .next _ _ _ rfl
end
end
section
theorem zW {x m:Int} (h:0<m):m-1-(x-1) % m=-x % m:=by
 have e : -x=m-1-(x-1) % m+m*(-((x-1) / m)-1):=by
  have q:=Int.mul_ediv_add_emod (x-1) m
  rw [Int.mul_sub,Int.mul_neg]
  exact Int.le_antisymm (lin [_,_,_,_] [] bW (.a (.s (.s an ap) aB) (.s (.g aN) (.r an 1))) 1 [.i 1 (.a aN aB) bU] rfl (Int.le_of_eq q)) (lin [_,_,_,_] [] (.a (.s bU an) (.s (.g aB) (.r aa 1))) (.g aN) 1 [.i 1 (.s aN ap) (.a aB an)] rfl (Int.le_of_eq (Eq.symm q)))
 rw [e,Int.add_mul_emod_self_left]
 have h0:=Int.emod_nonneg (x-1) (Int.ne_of_gt h)
 have h1:=Int.emod_lt_of_pos (x-1) h
 exact (Int.emod_eq_of_lt (by exact lin [_,_] [] ai (.s bU an) 1 [.i 1 bP aa] rfl h1) (by exact lin [_,_] [] (.a (.s bU an) ap) aa 1 [.i 1 ai an] rfl h0)).symm
theorem mI (k:Nat) {x:Int} (h:0<x):Builtin.bitAnd (-x) (((2 ^ k:Nat):Int)-1)=(-x) % ((2 ^ k:Nat):Int):=by
 have hp:0<2 ^ k:=Nat.two_pow_pos k
 have hp':(1:Int)≤((2 ^ k:Nat):Int):=Int.ofNat_le.mpr hp
 rw [bitAnd_np (by exact Int.not_le.mpr (lin [_] [] (.a bW ap) ai 1 [.i 1 bn aa] rfl h)) (by exact lin [] [_] ai bG 1 [.j 1 bg ab] rfl hp),show Builtin.bitNot (-x)=x-1 by rw [rj];exact (Int.le_antisymm (lin [_] [] (.s (.g bW) ap) bU 1 [] rfl) (lin [_] [] bU (.s (.g bW) ap) 1 [] rfl))]
 have e:((((2 ^ k:Nat):Int)-1).toNat &&& (x-1).toNat)=(x-1).toNat % 2 ^ k:=by
  rw [show (((2 ^ k:Nat):Int)-1).toNat=2 ^ k-1 by exact (Nat.le_antisymm (cT [] [_,_,_] ab ae 1 [.i 1 af (.s au ap),.j 1 ak bc] rfl (Int.le_of_eq (Int.toNat_of_nonneg (lin [] [_] ai bG 1 [.j 1 bg ab] rfl hp))) (Nat.le_of_eq (Eq.symm (Nat.sub_add_cancel (cT [] [_] aj ab 1 [.j 1 bg ab] rfl hp))))) (cT [] [_,_,_] ab ae 1 [.i 1 (.s au ap) am,.j 1 a8 ak] rfl (Int.le_of_eq (Eq.symm (Int.toNat_of_nonneg (lin [] [_] ai bG 1 [.j 1 bg ab] rfl hp)))) (Nat.le_of_eq (Nat.sub_add_cancel (cT [] [_] aj ab 1 [.j 1 bg ab] rfl hp))))),Nat.and_comm,Nat.and_two_pow_sub_one_eq_mod]
 rw [e,Int.natCast_emod,Int.toNat_of_nonneg (by exact lin [_] [] ai bU 1 [.i 1 bn aa] rfl h)]
 exact zW (by exact lin [] [_] bn af 1 [.j 1 bg ab] rfl hp)
theorem yr (x s:Int) (hx:0≤x) (hs:s=1∨s=2∨s=4∨s=8):Builtin.bitAnd (-x-1+1) (s-1)=(-x) % s:=by
 have e : -x-1+1=-x:=by exact Int.le_antisymm (lin [_] [] (.a (.s bW ap) ap) bW 1 [] rfl) (lin [_] [] bW (.a (.s bW ap) ap) 1 [] rfl)
 rw [e]
 rcases Int.lt_or_eq_of_le hx with h|h
 ·rcases hs with rfl|rfl|rfl|rfl
  ·exact mI 0 h
  ·exact mI 1 h
  ·exact mI 2 h
  ·exact mI 3 h
 ·clear hx e;subst h
  rcases hs with rfl|rfl|rfl|rfl<;>rfl
noncomputable def zU (b:List UInt8) (head n:Int):List UInt8:=b.take (head-n).toNat++List.replicate n.toNat 0++b.drop head.toNat
structure DI (i:Ar) (w:Bw):Prop where
 n0:0≤i.x
 n1:i.x≤w.h
 h1:w.h≤w.b.length
 b1:w.b.length≤4194304
 n2:i.x≤16
noncomputable def CT:Ctr:=A6 Bw.o (fun i=>[.int i.x]) DI (fun i w ver=>bo cP w.a (zU w.b w.h i.x) (w.h-i.x) ver) fun _ _=>.none
theorem tA (n:Nat):(List.replicate n [(0:UInt8)]).flatten=List.replicate n 0:=by
 induction n with
 |zero=>rfl
 |succ n ih=>rw [List.replicate_succ,List.flatten_cons,ih];rfl
theorem vZ (n:Nat):(List.replicate n [(0:UInt8)]).flatten.length=n:=by rw [tA,List.length_replicate]
theorem DA {Φ:Addr→Option Ctr}:BD Φ CT (db 2) 1 uZ:=
 zb (fun i=>[.ref 0, .p (.int i.x)]) (fun _=>rfl) fun i w K h hK=>by
  have h1:=h.n0;have h2:=h.n1;have h3:=h.h1;have h4:=h.b1;have h5:=h.n2
  lk
  refine dk (fun q=>?_) (fun q=>?_)
  ·have e:i.x=0:=by have q1:=of_decide_eq_true q;exact Int.le_antisymm (lin [_] [] aa ai 1 [.i 1 aa ai] rfl q1) (lin [_] [] ai aa 1 [.i 1 ai aa] rfl h1)
   lk
   rw [e,Int.sub_zero,show zU w.b w.h 0=w.b by unfold zU;rw [Int.sub_zero];refine (?_:List.take _ _++[]++_=_);rw [List.append_nil,List.take_append_drop]] at hK
   exact hK (.ret (.p .none)) _ w.v _ rfl
  ·have q1:=of_decide_eq_false q
   lk
   refine ⟨⟨List.cons_ne_nil _ _,by decide,h1,by exact lin [_] [] aa aO 1 [.i 1 aa (.n 16)] rfl h5⟩,?_⟩
   lk
   refine la rfl (mF _ _ _ (by exact lin [_,_] [] ai bi 1 [.i 1 an aa] rfl h2) (by exact lin [_,_] [_] bi af 1 [.i 1 aa af,.i 1 bn an] rfl h3 (Int.not_le.mp q1))) (mF _ _ _ (by exact lin [_,_] [] ai aa 1 [.i 1 an aa,.i 1 bn an] rfl h2 (Int.not_le.mp q1)) h3) (by exact cT [] [_] ab aq 1 [.j 1 ab (.n 4194304)] rfl h4) ⟨⟨rfl,by exact (cT [_,_] [_,_] ab ae 1 [.i 1 bn aa,.i 1 af bH,.i 1 an am] rfl (Int.not_le.mp q1) (Int.le_of_eq (Int.toNat_of_nonneg (lin [_,_] [] ai bi 1 [.i 1 an aa] rfl h2))) (Int.le_of_eq (Eq.symm (Int.toNat_of_nonneg (lin [_,_] [] ai aa 1 [.i 1 an aa,.i 1 bn an] rfl h2 (Int.not_le.mp q1)))))),(vZ _).trans (by exact Nat.le_antisymm (cT [_,_] [_,_,_,_] ab ae 1 [.i 1 af aa,.i 1 an au,.i 1 ax bH,.j 1 ak bS] rfl (Int.le_of_eq (Int.toNat_of_nonneg (lin [_] [] ai aa 1 [.i 1 bn aa] rfl (Int.not_le.mp q1)))) (Int.le_of_eq (Eq.symm (Int.toNat_of_nonneg (lin [_,_] [] ai aa 1 [.i 1 an aa,.i 1 bn an] rfl h2 (Int.not_le.mp q1))))) (Int.le_of_eq (Int.toNat_of_nonneg (lin [_,_] [] ai bi 1 [.i 1 an aa] rfl h2))) (Nat.le_of_eq (Eq.symm (Nat.sub_add_cancel (cT [_,_] [_,_] ab ae 1 [.i 1 bn aa,.i 1 an am,.i 1 af bH] rfl (Int.not_le.mp q1) (Int.le_of_eq (Eq.symm (Int.toNat_of_nonneg (lin [_,_] [] ai aa 1 [.i 1 an aa,.i 1 bn an] rfl h2 (Int.not_le.mp q1))))) (Int.le_of_eq (Int.toNat_of_nonneg (lin [_,_] [] ai bi 1 [.i 1 an aa] rfl h2)))))))) (cT [_,_] [_,_,_,_] ab ae 1 [.i 1 aa am,.i 1 au an,.i 1 bH ax,.j 1 (.a ab av) ak] rfl (Int.le_of_eq (Eq.symm (Int.toNat_of_nonneg (lin [_] [] ai aa 1 [.i 1 bn aa] rfl (Int.not_le.mp q1))))) (Int.le_of_eq (Int.toNat_of_nonneg (lin [_,_] [] ai aa 1 [.i 1 an aa,.i 1 bn an] rfl h2 (Int.not_le.mp q1)))) (Int.le_of_eq (Eq.symm (Int.toNat_of_nonneg (lin [_,_] [] ai bi 1 [.i 1 an aa] rfl h2)))) (Nat.le_of_eq (Nat.sub_add_cancel (cT [_,_] [_,_] ab ae 1 [.i 1 bn aa,.i 1 an am,.i 1 af bH] rfl (Int.not_le.mp q1) (Int.le_of_eq (Eq.symm (Int.toNat_of_nonneg (lin [_,_] [] ai aa 1 [.i 1 an aa,.i 1 bn an] rfl h2 (Int.not_le.mp q1))))) (Int.le_of_eq (Int.toNat_of_nonneg (lin [_,_] [] ai bi 1 [.i 1 an aa] rfl h2))))))))⟩,?_⟩
   lk
   rw [zU,←tA] at hK
   exact hK .next _ _ _ rfl
noncomputable def lp (n add s:Int):Int:=(-(n+add)) % s
noncomputable def gX (s:Int):Prop:=s=1∨s=2∨s=4∨s=8
noncomputable def dy (a:Ab) (s add:Int):Ab:={a with
 T:=List.replicate (lp a.T.length add s).toNat 0++a.T
 room:=max (a.room-lp a.T.length add s) (s+add)
 mal:=if a.mal<s then s else a.mal}
structure zf (i:Ar) (a:Ab):Prop where
 sz:gX i.x
 n0:0≤i.y
 n1:a.T.length+i.y≤1048576
noncomputable def re:Ctr:=n4 cP (fun i=>[.int i.x, .int i.y]) zf (fun i a=>dy a i.x i.y) fun _ _=>.none
theorem dR {n add s:Int} (hs:gX s):0≤lp n add s∧lp n add s<s:=by
 have h0:0<s:=by clear add n;rcases hs with rfl|rfl|rfl|rfl<;>decide
 exact ⟨Int.emod_nonneg _ (Int.ne_of_gt h0),Int.emod_lt_of_pos _ h0⟩
theorem ue (b:List UInt8) (h:Int) (h0:0≤h):(jn b).drop (h+((jn b).length-b.length)).toNat=b.drop h.toNat∧(jn b).length=b.length+(if b.length=0 then 1 else b.length):=by
 have e:(jn b).length=b.length+(if b.length=0 then 1 else b.length):=by simp [jn];exact Nat.le_antisymm (cT [] [_,_] a9 bT 1 [] rfl) (cT [] [_,_] a9 bT 1 [] rfl)
 refine ⟨?_,e⟩
 rw [e]
 have e2:(h+(((b.length+(if b.length=0 then 1 else b.length):Nat):Int)-b.length)).toNat=(if b.length=0 then 1 else b.length)+h.toNat:=by exact Nat.le_antisymm (cT [_] [_,_,_,_] ab bp 1 [.i 1 af (.a aa (.s (.c (.a av ae)) ax)),.i 1 aa au] rfl (Int.le_of_eq (Int.toNat_of_nonneg (lin [_] [_,_] ai (.a aa (.s (.c a9) af)) 1 [.i 1 ai aa] rfl h0))) (Int.le_of_eq (Eq.symm (Int.toNat_of_nonneg (lin [_] [] ai aa 1 [.i 1 ai aa] rfl h0))))) (cT [_] [_,_,_,_] a9 ak 1 [.i 1 (.a aa (.s (.c (.a av ab)) ax)) au,.i 1 am aa] rfl (Int.le_of_eq (Eq.symm (Int.toNat_of_nonneg (lin [_] [_,_] ai (.a aa (.s (.c a9) af)) 1 [.i 1 ai aa] rfl h0)))) (Int.le_of_eq (Int.toNat_of_nonneg (lin [_] [] ai aa 1 [.i 1 ai aa] rfl h0))))
 rw [e2,jn,←List.drop_drop]
 congr 1
 exact List.drop_left' (by simp)
theorem vd (b:List UInt8) (h n:Int) (hn:0≤n) (h1:n≤h) (h2:h≤b.length):(zU b h n).drop (h-n).toNat=List.replicate n.toNat 0++b.drop h.toNat∧(zU b h n).length=b.length:=by
 unfold zU
 refine ⟨?_,?_⟩
 ·rw [List.append_assoc,List.drop_left' (by simp;exact Nat.le_antisymm (cT [] [_,_] ab ae 1 [.j 1 ab ae] rfl (Nat.min_le_left _ _)) (cT [] [_,_] ab ae 1 [.j 1 ab ae] rfl (Nat.le_of_eq (Eq.symm (Nat.min_eq_left (cT [_,_] [_,_] ab ae 1 [.i 1 ai aa,.i 1 an am,.i 1 af bH] rfl hn h2 (Int.le_of_eq (Int.toNat_of_nonneg (lin [_,_] [] ai bi 1 [.i 1 an aa] rfl h1)))))))))]
 ·simp;exact Nat.le_antisymm (cT [_,_] [_,_,_,_,_,_] (.a ab bp) av 1 [.j 1 ab az,.i 1 am aa,.i 1 aK bH,.i 1 an (.w 5),.j 1 (.a ak aL) av] rfl (Nat.min_le_left _ _) (Int.le_of_eq (Int.toNat_of_nonneg (lin [_] [] ai aa 1 [.i 1 ai aa] rfl hn))) (Int.le_of_eq (Int.toNat_of_nonneg (lin [_,_] [] ai bi 1 [.i 1 an aa] rfl h1))) (Int.le_of_eq (Eq.symm (Int.toNat_of_nonneg (lin [_,_] [] ai aa 1 [.i 1 ai an,.i 1 an aa] rfl hn h1)))) (Nat.le_of_eq (Nat.sub_add_cancel (cT [_] [_,_] ab ae 1 [.i 1 aa am,.i 1 af aa] rfl h2 (Int.le_of_eq (Int.toNat_of_nonneg (lin [_,_] [] ai aa 1 [.i 1 ai an,.i 1 an aa] rfl hn h1))))))) (cT [_,_] [_,_,_,_,_,_] ab (.a ae bB) 1 [.i 1 aa au,.i 1 bH aK,.i 1 (.w 5) an,.j 1 az ae,.j 1 ab (.a av aL)] rfl (Int.le_of_eq (Eq.symm (Int.toNat_of_nonneg (lin [_] [] ai aa 1 [.i 1 ai aa] rfl hn)))) (Int.le_of_eq (Eq.symm (Int.toNat_of_nonneg (lin [_,_] [] ai bi 1 [.i 1 an aa] rfl h1)))) (Int.le_of_eq (Int.toNat_of_nonneg (lin [_,_] [] ai aa 1 [.i 1 ai an,.i 1 an aa] rfl hn h1))) (Nat.le_of_eq (Eq.symm (Nat.min_eq_left (cT [_,_] [_,_] ab ae 1 [.i 1 ai aa,.i 1 an am,.i 1 af bH] rfl hn h2 (Int.le_of_eq (Int.toNat_of_nonneg (lin [_,_] [] ai bi 1 [.i 1 an aa] rfl h1))))))) (Nat.le_of_eq (Eq.symm (Nat.sub_add_cancel (cT [_] [_,_] ab ae 1 [.i 1 aa am,.i 1 af aa] rfl h2 (Int.le_of_eq (Int.toNat_of_nonneg (lin [_,_] [] ai aa 1 [.i 1 ai an,.i 1 an aa] rfl hn h1))))))))
noncomputable def raw (a:Ab) (b:List UInt8) (head mal:Int) (ver:Nat):O:=bo cP {a with mal:=mal} b head ver
theorem xh {a b:Int} (h:a<b) (h0:0<b):a.toNat<b.toNat:=(Int.toNat_lt_toNat h0).mpr h
theorem vW {b:List UInt8}:b.length+1≤(jn b).length∧(jn b).length≤2*b.length+1:=by
 have e:(jn b).length=(if b.length=0 then 1 else b.length)+b.length:=by rw [jn,List.length_append,List.length_replicate]
 rw [e]
 clear e;split
 ·exact And.intro (cT [] [_] a8 (.a aj ab) 1 [] rfl) (cT [] [_] (.a aj ab) cB 1 [.j 1 ay ab] rfl (Nat.le_of_eq (Eq.symm (by assumption))))
 ·exact And.intro (cT [] [_] a8 (.a ab ab) 1 [.j 1 bg ab] rfl (Nat.pos_of_ne_zero (by assumption))) (cT [] [_] (.a ab ab) cB 1 [] rfl)
theorem Cw {Φ:Addr→Option Ctr} (hG:AT Φ d0 yo) (hP:AT Φ nI CT):BD Φ re (db 3) 5 sV:=
 fN (fun i=>[.ref 0, .p (.int i.x), .p (.int i.y)]) (fun _=>rfl) fun i a bytes head ver K hr h hK=>by
  have hlen:=hr.len
  have hcap:=hr.cap
  have hle:=hr.le
  have h0:=hr.h0
  have hrm:=hr.rm
  have h1:=h.n0
  have h2:=h.n1
  have hpad:=dR (n:=a.T.length) (add:=i.y) h.sz
  have hs8:1≤i.x∧i.x≤8:=by clear ver;rcases h.sz with q|q|q|q<;>(first|exact (And.intro (lin [_,_] [] ap aa 1 [.i 1 ai an,.i 1 bP aa] rfl (And.left hpad) (And.right hpad)) (lin [_] [] aa aT 1 [.i 1 aa ap] rfl (Int.le_of_eq q)))|exact (And.intro (lin [_] [] ap aa 1 [.i 1 aA aa] rfl (Int.le_of_eq (Eq.symm q))) (lin [_] [] aa aT 1 [.i 1 aa aA] rfl (Int.le_of_eq q)))|exact (And.intro (lin [_] [] ap aa 1 [.i 1 ao aa] rfl (Int.le_of_eq (Eq.symm q))) (lin [_] [] aa aT 1 [.i 1 aa ao] rfl (Int.le_of_eq q)))|exact And.intro (lin [_] [] ap aa 1 [.i 1 aT aa] rfl (Int.le_of_eq (Eq.symm q))) (lin [_] [] aa aT 1 [.i 1 aa aT] rfl (Int.le_of_eq q)))
  refine kF (fun j=>⟨[some (.ref 0),some (.p (.int i.x)),some (.p (.int i.y)),none,none,none,none,none],[raw a bytes head (if a.mal<i.x then i.x else a.mal) j.v]⟩) (fun _=>True) (fun K hK _=>?_) fun j _=>?_
  ·lk
   refine dk (fun q=>?_) (fun q=>?_)
   ·rw [if_pos (of_decide_eq_true q)] at hK
    lk
    exact hK {v:=_} trivial
   ·rw [if_neg (of_decide_eq_false q)] at hK
    lk
    exact hK {v:=_} trivial
  clear ver;generalize hmal:(if a.mal<i.x then i.x else a.mal)=mal
  generalize hp:lp a.T.length i.y i.x=pd at hpad
  lk
  refine ⟨Nat.le_trans hcap (by decide),?_⟩
  lk
  have eb:Builtin.bitAnd (-((bytes.length:Int)-head+i.y)-1+1) (i.x-1)=pd:=by
   rw [yr _ _ (by exact lin [_,_] [_] ai (.a bf an) 1 [.i 1 aa af,.i 1 ai an] rfl hle h1) h.sz,←hp,hlen];rfl
  conv=>whnf
  rw [eb]
  refine Ba (fun j=>⟨[some (.ref 0),some (.p (.int i.x)),some (.p (.int i.y)),some (.p (.int j.h)),some (.p (.int j.b.length)),some (.p (.int pd)),some (.p (.int (pd+i.x+i.y))),j.o.map .p],[raw a j.b head mal j.v]⟩)
   (fun j=>(pd+i.x+i.y-j.h).toNat) (fun j=>j.b.drop j.h.toNat=a.T∧0≤j.h∧j.h≤j.b.length∧head≤j.h∧j.b.length≤4194304) (fun j K2 hj hn _ _=>?_) {b:=bytes,h:=head,v:=j.v} ⟨hr.eq,h0,hle,Int.le_refl _,hcap⟩
  have el:(j.b.length:Int)-j.h=a.T.length:=by have q:=congrArg List.length hj.1;rw [List.length_drop] at q;exact Int.le_antisymm (lin [_] [_,_,_,_] bf am 1 [.j 1 ak ae,.i 1 ax aa,.j 1 ab bB] rfl (Nat.le_of_eq q) (Int.le_of_eq (Int.toNat_of_nonneg (lin [_] [] ai aa 1 [.i 1 ai aa] rfl (And.left (And.right hj))))) (Nat.le_of_eq (Eq.symm (Nat.sub_add_cancel (cT [_] [_,_] ab ae 1 [.i 1 aa am,.i 1 af aa] rfl (And.left (And.right (And.right hj))) (Int.le_of_eq (Int.toNat_of_nonneg (lin [_] [] ai aa 1 [.i 1 ai aa] rfl (And.left (And.right hj)))))))))) (lin [_] [_,_,_,_] af (.s am aa) 1 [.j 1 ab ak,.i 1 aa ax,.j 1 bB ae] rfl (Nat.le_of_eq (Eq.symm q)) (Int.le_of_eq (Eq.symm (Int.toNat_of_nonneg (lin [_] [] ai aa 1 [.i 1 ai aa] rfl (And.left (And.right hj)))))) (Nat.le_of_eq (Nat.sub_add_cancel (cT [_] [_,_] ab ae 1 [.i 1 aa am,.i 1 af aa] rfl (And.left (And.right (And.right hj))) (Int.le_of_eq (Int.toNat_of_nonneg (lin [_] [] ai aa 1 [.i 1 ai aa] rfl (And.left (And.right hj)))))))))
  lk
  refine dk (fun q=>?_) (fun q=>?_)
  ·have q:=of_decide_eq_true q
   lk
   refine y9 hG 0 {} ⟨{a with mal:=mal},j.b,head,j.v⟩ rfl (show j.b.length≤2097152 by exact cT [_,_,_,_] [_,_] ab (.n 2097152) 1 [.i 1 bR aO,.i 2 an aT,.i 1 (.a aB ap) an,.i 1 (.s af aN) am,.i 1 (.a aN ap) (.a (.a aB an) aa)] rfl h2 (And.right hs8) (And.right hpad) (Int.le_of_eq el) q) fun ver'=>?_
   have g1:=(ue j.b j.h hj.2.1).1
   have g2:=vW (b:=j.b)
   lk
   refine ⟨show (jn j.b).length≤16777216 by exact (cT [_,_,_,_] [_,_,_] ab aq 1 [.i 2 bR aO,.i 4 an aT,.i 2 (.a aB ap) an,.i 2 (.s au aN) am,.i 2 (.a aN ap) (.a (.a aB an) aa),.j 1 ab (.a bJ aj)] rfl h2 (And.right hs8) (And.right hpad) (Int.le_of_eq el) q (And.right g2)),?_⟩
   lk
   exact (hn _ {b:=jn j.b,h:=j.h+((jn j.b).length-j.b.length),v:=ver',o:=some (.int j.b.length)} rfl (xh (by exact lin [_,_,_,_] [_,_] (.a (.s (.a bl aB) (.a aN (.s af am))) ap) (.s (.a bl aB) aN) 1 [.j 1 bc ab] rfl (And.left g2)) (by exact lin [_,_,_,_] [] bn (.s (.a bl aB) aN) 1 [.i 1 (.a aN ap) (.a bl aB)] rfl q)) ⟨g1.trans hj.1,by exact And.intro (lin [_] [_,_] ai (.a aa (.s af am)) 1 [.i 1 ai aa,.j 1 bc ab] rfl (And.left (And.right hj)) (And.left g2)) (And.intro (lin [_] [_,_] (.a aa (.s af am)) af 1 [.i 1 aa am] rfl (And.left (And.right (And.right hj)))) (And.intro (lin [_,_] [_,_] aa (.a an (.s af am)) 1 [.i 1 aa an,.j 1 bc ab] rfl (And.left (And.right (And.right (And.right hj)))) (And.left g2)) (cT [_,_,_,_] [_,_,_] ab (.n 4194304) 1 [.i 2 bR aO,.i 4 an aT,.i 2 (.a aB ap) an,.i 2 (.s au aN) am,.i 2 (.a aN ap) (.a (.a aB an) aa),.j 1 ab (.a bJ aj)] rfl h2 (And.right hs8) (And.right hpad) (Int.le_of_eq el) q (And.right g2))))⟩).1
  ·have q:=of_decide_eq_false q
   lk
   refine y9 hP 0 {x:=pd} ⟨{a with mal:=mal},j.b,j.h,j.v+1⟩ rfl ⟨hpad.1,show pd≤j.h by exact (lin [_,_,_,_] [] aa an 1 [.i 1 ai aB,.i 1 ap aN,.i 1 (.a (.a aa aN) aB) an] rfl h1 (And.left hs8) (Int.not_lt.mp q)),hj.2.2.1,hj.2.2.2.2,show pd≤16 by exact lin [_,_] [] aa (.n 16) 1 [.i 1 an aT,.i 1 be an] rfl (And.right hs8) (And.right hpad)⟩ fun ver'=>?_
   lk
   refine e0b (vd j.b j.h pd hpad.1 (by exact lin [_,_,_,_] [] aa an 1 [.i 1 ai aB,.i 1 ap aN,.i 1 (.a (.a aa aN) aB) an] rfl h1 (And.left hs8) (Int.not_lt.mp q)) hj.2.2.1) fun g1 g2=>?_
   clear hP hG;subst hmal;subst hp
   refine hK .next _ _ _ _ _ ⟨show 0≤j.h-lp a.T.length i.y i.x by exact (lin [_,_,_,_] [] ai bi 1 [.i 1 ai aB,.i 1 ap aN,.i 1 (.a (.a an aN) aB) aa] rfl h1 (And.left hs8) (Int.not_lt.mp q)),Int.max_le.mpr ⟨by exact (lin [_,_,_,_] [] bi (.s aB an) 1 [.i 1 aa aN,.i 1 aN aB] rfl hrm (And.left (And.right (And.right (And.right hj))))),by exact lin [_,_,_,_] [] bl (.s aB aN) 1 [.i 1 (.a (.a aN aa) an) aB] rfl (Int.not_lt.mp q)⟩,?_,by rw [g2];exact (lin [_,_] [_] bi af 1 [.i 1 aa af,.i 1 ai an] rfl (And.left (And.right (And.right hj))) (And.left hpad)),by rw [g2];exact hj.2.2.2.2⟩ rfl
   rw [g1,hj.1];rfl
end
section
noncomputable def j6 (a:Ab) (F:Fm) (x:Int):Ab:={a with T:=le F.w x++a.T,room:=a.room-F.w}
theorem xD {b r:List UInt8} {off:Nat} (h:off+r.length≤b.length):(put b off r).drop off=r++b.drop (off+r.length)∧(put b off r).length=b.length:=by
 unfold put
 have h1:(b.take off).length=off:=by rw [List.length_take];exact Nat.min_eq_left (by exact cT [] [_,_,_] ab ae 1 [.j 1 bI ae] rfl h)
 refine ⟨?_,?_⟩
 ·rw [List.append_assoc,List.drop_left' h1]
 ·rw [List.length_append,List.length_append,h1,List.length_drop];exact Nat.le_antisymm (cT [] [_,_,_,_] (.a a9 ak) av 1 [.j 1 (.a ak a9) av] rfl (Nat.le_of_eq (Nat.sub_add_cancel (cT [] [_,_,_] a9 ak 1 [.j 1 a9 ak] rfl h)))) (cT [] [_,_,_,_] ab (.a bp av) 1 [.j 1 ab (.a av bp)] rfl (Nat.le_of_eq (Eq.symm (Nat.sub_add_cancel (cT [] [_,_,_] a9 ak 1 [.j 1 a9 ak] rfl h)))))
theorem u9 {a:Ab} {bytes:List UInt8} {head:Int} (hr:Rb a.T a.room bytes head) (F:Fm) (x:Int) (h:(F.w:Int)≤a.room) :
  Rb (j6 a F x).T (j6 a F x).room (put bytes (head-F.w).toNat (le F.w x)) (head-F.w):=by
 have h0:=hr.rm
 have h1:=hr.le
 have h2:=hr.h0
 have hl:=dg F.w x
 have e3:(head-F.w).toNat+(le F.w x).length=head.toNat:=by exact Nat.le_antisymm (cT [_] [_,_,_,_] a9 ak 1 [.j 1 ae av,.i 1 af (.s aa ax),.i 1 aa au] rfl (Nat.le_of_eq hl) (Int.le_of_eq (Int.toNat_of_nonneg (lin [_,_] [_] ai bE 1 [.i 1 af an,.i 1 an aa] rfl h h0))) (Int.le_of_eq (Eq.symm (Int.toNat_of_nonneg (lin [_] [] ai aa 1 [.i 1 ai aa] rfl h2))))) (cT [_] [_,_,_,_] ab bp 1 [.j 1 av ak,.i 1 (.s aa ax) am,.i 1 af aa] rfl (Nat.le_of_eq (Eq.symm hl)) (Int.le_of_eq (Eq.symm (Int.toNat_of_nonneg (lin [_,_] [_] ai bE 1 [.i 1 af an,.i 1 an aa] rfl h h0)))) (Int.le_of_eq (Int.toNat_of_nonneg (lin [_] [] ai aa 1 [.i 1 ai aa] rfl h2))))
 refine e0b (xD (b:=bytes) (r:=le F.w x) (off:=(head-F.w).toNat) (by exact cT [_] [_,_,_,_] a9 ak 1 [.i 1 aa au,.j 1 ae av,.i 1 af (.s aa ax)] rfl h1 (Nat.le_of_eq hl) (Int.le_of_eq (Int.toNat_of_nonneg (lin [_,_] [_] ai bE 1 [.i 1 af an,.i 1 an aa] rfl h h0))))) fun e1 e2=>?_
 refine ⟨by exact (lin [_,_] [_] ai bE 1 [.i 1 af an,.i 1 an aa] rfl h h0),by refine (?_:a.room-F.w≤_);exact (lin [_,_] [_] bE (.s an af) 1 [.i 1 aa an] rfl h0),?_,by rw [e2];exact (lin [_] [_,_] bE am 1 [.i 1 aa am] rfl h1),by rw [e2];exact hr.cap⟩
 rw [e1,e3,hr.eq];rfl
structure kC (F:Fm) (x:Int) (a:Ab):Prop where
 lo:F.lo≤x
 hi:x≤F.hi
 rm:(F.w:Int)≤a.room
theorem kC.wr {g:Fg} {x:Int} {a:Ab} (h:kC g.F x a) {bytes:List UInt8} {head:Int} (hr:Rb a.T a.room bytes head) (v:Nat):DG {g:=g,x:=head-g.F.w,y:=x} ⟨a,bytes,head-g.F.w,v⟩:=by
 have h0:=hr.rm
 have h1:=hr.le
 have h2:=h.rm
 exact ⟨show 0≤head-g.F.w by exact (lin [_,_] [_] ai bE 1 [.i 1 an aa,.i 1 af an] rfl h0 h2),show head-g.F.w+g.F.w≤bytes.length by exact (lin [_] [_,_] (.a bE af) am 1 [.i 1 aa am] rfl h1),Nat.le_trans hr.cap (by decide),h.lo,h.hi⟩
noncomputable def tH:Ctr:=n4 cP (fun i=>[.int i.x, .st i.g.c]) (fun i a=>kC i.g.F i.x a) (fun i a=>j6 a i.g.F i.x) fun _ _=>.none
noncomputable def pU:Ctr:=n4 cP (fun i=>[.int i.x]) (fun i a=>kC .i i.x a) (fun i a=>j6 a .i i.x) fun _ _=>.none
noncomputable def nS:Ctr:=n4 cP (fun i=>[.int i.x]) (fun i a=>kC .I i.x a) (fun i a=>j6 a .I i.x) fun _ _=>.none
section
variable {Φ:Addr→Option Ctr}
theorem AL (hE:AT Φ cY sA) (hW:AT Φ jo jx):BD Φ tH (db 3) 1 qt:=
 fN (fun i=>[.ref 0, .p (.int i.x), .p (.st i.g.c)]) (fun _=>rfl) fun i a bytes head ver K hr h hK=>by
  lk
  refine fM hE i ⟨h.lo,h.hi⟩ ?_
  lk
  refine kf (B3 i.g) ?_
  lk
  refine kf (Dq i.g) ?_
  lk
  refine q7 hW 0 _ ⟨a,bytes,head-i.g.F.w,ver+1⟩ rfl (h.wr hr (ver+1)) ?_
  lk
  exact hK .next _ _ _ _ _ (u9 hr _ i.x h.rm) rfl
theorem yz (hE:AT Φ cY sA) (hW:AT Φ jo jx):BD Φ pU (db 2) 1 hD:=
 fN (fun i=>[.ref 0, .p (.int i.x)]) (fun _=>rfl) fun i a bytes head ver K hr h hK=>by
  lk
  refine fM hE {g:=.s,x:=i.x} ⟨h.lo,h.hi⟩ ?_
  lk
  refine q7 hW 0 {g:=.s,x:=head-4,y:=i.x} ⟨a,bytes,head-4,ver+1⟩ rfl (kC.wr (g:=.s) h hr (ver+1)) ?_
  lk
  exact hK .next _ _ _ _ _ (u9 hr .i i.x h.rm) rfl
theorem yy (hE:AT Φ cY sA) (hW:AT Φ jo jx):BD Φ nS (db 2) 1 g9:=
 fN (fun i=>[.ref 0, .p (.int i.x)]) (fun _=>rfl) fun i a bytes head ver K hr h hK=>by
  lk
  refine fM hE {g:=.u,x:=i.x} ⟨h.lo,h.hi⟩ ?_
  lk
  refine q7 hW 0 {g:=.u,x:=head-4,y:=i.x} ⟨a,bytes,head-4,ver+1⟩ rfl (kC.wr (g:=.u) h hr (ver+1)) ?_
  lk
  exact hK .next _ _ _ _ _ (u9 hr .I i.x h.rm) rfl
noncomputable def cU (a:Ab) (F:Fm) (x:Int):Ab:=j6 (dy a F.w 0) F x
structure lm (F:Fm) (x:Int) (a:Ab):Prop where
 lo:F.lo≤x
 hi:x≤F.hi
 len:a.T.length≤1048576
noncomputable def jN:Ctr:=n4 cP (fun i=>[.st i.g.c, .int i.x]) (fun i a=>lm i.g.F i.x a) (fun i a=>cU a i.g.F i.x) fun _ _=>.none
theorem kK (a:Ab) (s add:Int):s+add≤(dy a s add).room:=Int.le_max_right _ _
theorem Dp (g:Fg):gX g.F.w:=by cases g<;>unfold gX<;>simp [Fg.F,Fm.w]
theorem sz4:gX 4:=.inr (.inr (.inl rfl))
theorem wL (hP:AT Φ gm re) (hL:AT Φ ju tH):BD Φ jN (db 3) 0 m8:=
 fN (fun i=>[.ref 0, .p (.st i.g.c), .p (.int i.x)]) (fun _=>rfl) fun i a bytes head ver K hr h hK=>by
  lk
  refine kf (B3 i.g) ?_
  lk
  refine dp hP 0 {x:=i.g.F.w} rfl hr ⟨Dp i.g,Int.le_refl 0,by have q:=h.len;refine (?_:(a.T.length:Int)+0≤_);exact lin [] [_] (.a af ai) aO 1 [.j 1 ab aC] rfl q⟩ fun bytes1 head1 ver1 hr1=>?_
  lk
  refine dp hL 0 i rfl hr1 ⟨h.lo,h.hi,Int.le_trans (Int.le_of_eq (Int.add_zero _).symm) (kK a i.g.F.w 0)⟩ fun bytes2 head2 ver2 hr2=>?_
  lk
  exact hK .next _ _ _ _ _ hr2 rfl
end
end
section
noncomputable def fO (a:Ab) (off:Int):Ab:=j6 (dy a 4 0) .i ((dy a 4 0).T.length-off+4)
noncomputable def lQ (a:Ab) (off:Int):Ab:=j6 (dy a 4 0) .I ((dy a 4 0).T.length-off+4)
structure sL (off:Int) (a:Ab):Prop where
 n0:0≤off
 n1:off≤(dy a 4 0).T.length
 len:a.T.length≤1048576
noncomputable def yl:Ctr:=n4 cP (fun i=>[.int i.x]) (fun i a=>sL i.x a) (fun i a=>fO a i.x) fun _ _=>.none
noncomputable def um:Ctr:=n4 cP (fun i=>[.int i.x]) (fun i a=>sL i.x a) (fun i a=>lQ a i.x) fun _ _=>.none
theorem dB (a:Ab) {s add:Int} (hs:gX s):(a.T.length:Int)≤(dy a s add).T.length∧((dy a s add).T.length:Int)=a.T.length+lp a.T.length add s:=by
 have h:=(dR (n:=a.T.length) (add:=add) hs).1
 have e:(dy a s add).T.length=(lp a.T.length add s).toNat+a.T.length:=by
  refine (?_:(List.replicate _ (0:UInt8)++a.T).length=_)
  rw [List.length_append,List.length_replicate]
 exact ⟨by exact (lin [] [_,_,_] af am 1 [.j 1 cy ae] rfl (Nat.le_of_eq (Eq.symm e))),by exact Int.le_antisymm (lin [_] [_,_,_] af bR 1 [.j 1 ab bC,.i 1 au aa] rfl (Nat.le_of_eq e) (Int.le_of_eq (Int.toNat_of_nonneg (lin [_] [] ai aa 1 [.i 1 ai aa] rfl h)))) (lin [_] [_,_,_] cj am 1 [.j 1 cy ae,.i 1 aa au] rfl (Nat.le_of_eq (Eq.symm e)) (Int.le_of_eq (Eq.symm (Int.toNat_of_nonneg (lin [_] [] ai aa 1 [.i 1 ai aa] rfl h)))))⟩
theorem sL.prep {off:Int} {a:Ab} (h:sL off a):zf {x:=4} a:=⟨sz4,Int.le_refl 0,by have q:=h.len;refine (?_:(a.T.length:Int)+0≤_);exact lin [] [_] (.a af ai) aO 1 [.j 1 ab aC] rfl q⟩
theorem sL.small {off:Int} {a:Ab} (h:sL off a):(0:Int)≤(dy a 4 0).T.length-off+4∧((dy a 4 0).T.length:Int)-off+4≤2147483647:=by
 have h0:=h.n0
 have h1:=h.n1
 have h2:=h.len
 have h3:=(dB a (s:=4) (add:=0) sz4).2
 have h4:=(dR (n:=a.T.length) (add:=0) sz4).2
 exact ⟨by exact (lin [_] [_] ai cE 1 [.i 1 aa af] rfl h1),by exact lin [_,_] [_,_] cE aY 1 [.i 1 ai aa,.j 1 ae aC,.i 1 af (.a am an),.i 1 bP ao] rfl h0 h2 (Int.le_of_eq h3) h4⟩
section
variable {Φ:Addr→Option Ctr}
theorem Cv (hP:AT Φ gm re) (hO:AT Φ eu gW) (hL:AT Φ et pU) :
  BD Φ yl (db 2) 2 eS:=
 fN (fun i=>[.ref 0, .p (.int i.x)]) (fun _=>rfl) fun i a bytes head ver K hr h hK=>by
  lk
  refine dp hP 0 {x:=4} rfl hr h.prep fun bytes1 head1 ver1 hr1=>?_
  lk
  refine eC hO 0 {} ⟨dy a 4 0,bytes1,head1,ver1⟩ rfl hr1 ?_
  lk
  refine o9 (congrArg Bool.not (decide_eq_true h.n1)) ?_
  lk
  refine eC hO 0 {} ⟨dy a 4 0,bytes1,head1,ver1⟩ rfl hr1 ?_
  lk
  refine dp hL 0 {x:=(dy a 4 0).T.length-i.x+4} rfl hr1 ⟨Int.le_trans (by decide) h.small.1,h.small.2,kK a 4 0⟩ fun bytes2 head2 ver2 hr2=>?_
  lk
  exact hK .next _ _ _ _ _ hr2 rfl
theorem Cu (hP:AT Φ gm re) (hO:AT Φ eu gW) (hL:AT Φ dT nS) :
  BD Φ um (db 2) 2 eR:=
 fN (fun i=>[.ref 0, .p (.int i.x)]) (fun _=>rfl) fun i a bytes head ver K hr h hK=>by
  lk
  refine dp hP 0 {x:=4} rfl hr h.prep fun bytes1 head1 ver1 hr1=>?_
  lk
  refine eC hO 0 {} ⟨dy a 4 0,bytes1,head1,ver1⟩ rfl hr1 ?_
  lk
  refine o9 (congrArg Bool.not (decide_eq_true h.n1)) ?_
  lk
  refine eC hO 0 {} ⟨dy a 4 0,bytes1,head1,ver1⟩ rfl hr1 ?_
  lk
  refine dp hL 0 {x:=(dy a 4 0).T.length-i.x+4} rfl hr1 ⟨h.small.1,Int.le_trans h.small.2 (by decide),kK a 4 0⟩ fun bytes2 head2 ver2 hr2=>?_
  lk
  exact hK .next _ _ _ _ _ hr2 rfl
noncomputable def eQ (a:Ab) (es n al:Int):Ab:=dy (dy {a with nested:=true,vne:=some (.int n)} 4 (es*n)) al (es*n)
structure tN (es n al:Int) (a:Ab):Prop where
 ne:a.nested=false
 sz:gX al
 es0:0≤es
 es1:es≤1000
 n0:0≤n
 n1:n≤1000
 m0:0≤es*n
 len:a.T.length+es*n≤1048000
noncomputable def pS:Ctr:=n4 cP (fun i=>[.int i.x, .int i.y, .int i.z]) (fun i a=>tN i.x i.y i.z a) (fun i a=>eQ a i.x i.y i.z) fun i a=>.int (eQ a i.x i.y i.z).T.length
theorem yw (hN:AT Φ dI lc) (hP:AT Φ gm re) (hO:AT Φ eu gW) :
  BD Φ pS (db 4) 0 i6:=
 fN (fun i=>[.ref 0, .p (.int i.x), .p (.int i.y), .p (.int i.z)]) (fun _=>rfl) fun i a bytes head ver K hr h hK=>by
  have h8:=h.len
  have hm:(-(2 ^ 64):Int)<i.y∧i.y<2 ^ 64:=⟨Int.lt_of_lt_of_le (by decide) h.n0,Int.lt_of_le_of_lt h.n1 (by decide)⟩
  lk
  refine eC hN 0 {} ⟨a,bytes,head,ver⟩ rfl h.ne ?_
  lk
  refine ⟨hm,?_⟩
  lk
  refine dp hP 0 {x:=4,y:=i.x*i.y} (a:={a with nested:=true,vne:=some (.int i.y)}) rfl hr ⟨sz4,h.m0,show (a.T.length:Int)+i.x*i.y≤1048576 by exact lin [_] [_] cj aO 1 [.i 1 cj (.n 1048000)] rfl h8⟩ fun bytes1 head1 ver1 hr1=>?_
  lk
  refine ⟨hm,?_⟩
  lk
  have hpl:=(dB {a with nested:=true,vne:=some (.int i.y)} (s:=4) (add:=i.x*i.y) sz4).2
  have hps:=(dR (n:=a.T.length) (add:=i.x*i.y) sz4).2
  refine dp hP 0 {x:=i.z,y:=i.x*i.y} rfl hr1 ⟨h.sz,h.m0,Int.le_trans (Int.le_of_eq (congrArg (·+i.x*i.y) hpl)) (show (a.T.length:Int)+lp a.T.length (i.x*i.y) 4+i.x*i.y≤1048576 by exact lin [_,_] [_] (.a cj an) aO 1 [.i 1 (.a af an) (.n 1048000),.i 1 be ao] rfl h8 hps)⟩ fun bytes2 head2 ver2 hr2=>?_
  lk
  refine eC hO 0 {} ⟨eQ a i.x i.y i.z,bytes2,head2,ver2⟩ rfl hr2 ?_
  lk
  exact hK (.ret (.p (.int _))) _ _ _ _ _ hr2 rfl
end
end
section
theorem Ab.vne_eq {a:Ab} {p:P} (h:a.vne=some p):a={a with vne:=some p}:=by cases a;subst h;rfl
theorem Ab.vt_eq {a:Ab} {l:List Int} (h:a.vt=some l):a={a with vt:=some l}:=by cases a;subst h;rfl
noncomputable def gn (a:Ab) (n:Int):Ab:={j6 {a with nested:=false} .I n with vne:=some .none}
structure CK (n:Int) (a:Ab):Prop where
 vne:a.vne=some (.int n)
 ne:a.nested=true
 n0:0≤n
 n1:n≤4294967295
 rm:4≤a.room
noncomputable def yq:Ctr:=n4 cP (fun _=>[]) (fun i a=>CK i.x a) (fun i a=>gn a i.x) fun i a=>.int (gn a i.x).T.length
section
variable {Φ:Addr→Option Ctr}
theorem CC (hN:AT Φ dM uo) (hL:AT Φ dT nS) (hO:AT Φ eu gW) :
  BD Φ yq (uu 1 .none) 0 kI:=
 fN (fun _=>[.ref 0, .p .none]) (fun _=>rfl) fun i a bytes head ver K hr h hK=>by
  rw [show bo cP a=bo cP {a with vne:=some (.int i.x)} from congrArg _ (Ab.vne_eq h.vne)]
  lk
  refine eC hN 0 {} ⟨{a with vne:=some (.int i.x)},bytes,head,ver⟩ rfl h.ne ?_
  lk
  refine dp hL 0 {x:=i.x} (a:={a with nested:=false,vne:=some (.int i.x)}) rfl hr ⟨h.n0,h.n1,h.rm⟩ fun bytes1 head1 ver1 hr1=>?_
  lk
  refine eC hO 0 {} ⟨gn a i.x,bytes1,head1,ver1+1⟩ rfl hr1 ?_
  lk
  exact hK (.ret (.p (.int _))) _ _ _ _ _ hr1 rfl
noncomputable def lu (a:Ab) (o:Int):Ab:={a with vt:=a.vt.map fun l=>l.set o.toNat (a.T.length:Int)}
structure ro (o:Int) (l:List Int) (a:Ab):Prop where
 vt:a.vt=some l
 ne:a.nested=true
 o0:0≤o
 o1:o<l.length
 ll:l.length≤65536
noncomputable def wC:Ctr:=n4 cP (fun i=>[.int i.x]) (fun i a=>∃l,ro i.x l a) (fun i a=>lu a i.x) fun _ _=>.none
theorem Ct (hN:AT Φ dM uo) (hO:AT Φ eu gW) :
  BD Φ wC (db 2) 0 sU:=
 fN (fun i=>[.ref 0, .p (.int i.x)]) (fun _=>rfl) fun i a bytes head ver K hr zp hK=>e1a zp fun l h=>by
  rw [show bo cP a=bo cP {a with vt:=some l} from congrArg _ (Ab.vt_eq h.vt)]
  rw [show lu a i.x={a with vt:=some (l.set i.x.toNat (a.T.length:Int))} by rw [lu,h.vt];rfl] at hK
  lk
  refine eC hN 0 {} ⟨{a with vt:=some l},bytes,head,ver⟩ rfl h.ne ?_
  lk
  refine eC hO 0 {} ⟨{a with vt:=some l},bytes,head,ver⟩ rfl hr ?_
  lk
  refine ⟨⟨h.o0,by rw [List.length_map];exact h.o1,by rw [List.length_map];exact Nat.le_trans h.ll (by decide)⟩,?_⟩
  lk
  conv=>whnf
  rw [show (l.map P.int).set i.x.toNat (.int a.T.length)=(l.set i.x.toNat a.T.length).map P.int from List.map_set.symm]
  exact hK .next _ _ _ _ _ hr rfl
noncomputable def dA (a:Ab) (n:Int):Ab:={a with vt:=some (List.replicate n.toNat 0),oe:=.int a.T.length,nested:=true}
structure yH (n:Int) (a:Ab):Prop where
 ne:a.nested=false
 n0:0≤n
 n1:n≤1000
noncomputable def nR:Ctr:=n4 cP (fun i=>[.int i.x]) (fun i a=>yH i.x a) (fun i a=>dA a i.x) fun _ _=>.none
theorem xZ (n:Nat):(List.replicate n [P.int 0]).flatten=(List.replicate n (0:Int)).map .int:=by
 induction n with
 |zero=>rfl
 |succ n ih=>rw [List.replicate_succ,List.flatten_cons,ih];rfl
theorem yx (hN:AT Φ dI lc) (hO:AT Φ eu gW) :
  BD Φ nR (db 2) 0 i7:=
 fN (fun i=>[.ref 0, .p (.int i.x)]) (fun _=>rfl) fun i a bytes head ver K hr h hK=>by
  lk
  refine eC hN 0 {} ⟨a,bytes,head,ver⟩ rfl h.ne ?_
  lk
  refine ⟨by decide,?_⟩
  lk
  refine ⟨⟨by decide,Int.le_trans (by decide) h.n0,Int.le_trans h.n1 (by decide)⟩,?_⟩
  lk
  conv=>whnf
  rw [xZ]
  refine eC hO 0 {} ⟨{a with vt:=some (List.replicate i.x.toNat 0)},bytes,head,ver+1⟩ rfl hr ?_
  lk
  exact hK .next _ _ _ _ _ hr rfl
noncomputable def gz (a:Ab) (F:Fm) (o x d:Int):Ab:=if x≠d∨a.force=true then lu (cU a F x) o else a
structure p4 (F:Fm) (o x d:Int) (l:List Int) (a:Ab):Prop where
 pr:lm F x a
 dlo:F.lo≤d
 dhi:d≤F.hi
 sl:ro o l a
theorem p4.sl2 {F:Fm} {o x d:Int} {l:List Int} {a:Ab} (h:p4 F o x d l a):ro o l (cU a F x):=⟨h.sl.vt,h.sl.ne,h.sl.o0,h.sl.o1,h.sl.ll⟩
noncomputable def rf:Ctr:=n4 cP (fun i=>[.st i.g.c, .int i.x, .int i.y, .int i.z]) (fun i a=>∃l,p4 i.g.F i.x i.y i.z l a) (fun i a=>gz a i.g.F i.x i.y i.z) fun _ _=>.none
theorem AM (hE:AT Φ cY sA) (hP:AT Φ fz jN) (hS:AT Φ jL wC) :
  BD Φ rf (db 5) 0 i8:=
 fN (fun i=>[.ref 0, .p (.st i.g.c), .p (.int i.x), .p (.int i.y), .p (.int i.z)]) (fun _=>rfl) fun i a bytes head ver K hr zp hK=>e1a zp fun l h=>by
  lk
  refine fM hE {g:=i.g,x:=i.y} ⟨h.pr.lo,h.pr.hi⟩ ?_
  lk
  refine fM hE {g:=i.g,x:=i.z} ⟨h.dlo,h.dhi⟩ ?_
  lk
  refine dk (fun q=>?_) (fun q=>?_)
  ·rw [show gz a i.g.F i.x i.y i.z=lu (cU a i.g.F i.y) i.x from if_pos (.inl (of_decide_eq_true q))] at hK
   lk
   refine dp hP 0 {g:=i.g,x:=i.y} rfl hr h.pr fun bytes1 head1 ver1 hr1=>?_
   lk
   refine dp hS 0 {x:=i.x} rfl hr1 ⟨l,h.sl2⟩ fun bytes2 head2 ver2 hr2=>?_
   lk
   exact hK .next _ _ _ _ _ hr2 rfl
  ·lk
   refine dk (fun q2=>?_) (fun q2=>?_)
   ·rw [show gz a i.g.F i.x i.y i.z=lu (cU a i.g.F i.y) i.x from if_pos (.inr q2)] at hK
    lk
    refine dp hP 0 {g:=i.g,x:=i.y} rfl hr h.pr fun bytes1 head1 ver1 hr1=>?_
    lk
    refine dp hS 0 {x:=i.x} rfl hr1 ⟨l,h.sl2⟩ fun bytes2 head2 ver2 hr2=>?_
    lk
    exact hK .next _ _ _ _ _ hr2 rfl
   ·rw [show gz a i.g.F i.x i.y i.z=a from if_neg fun h'=>h'.elim (of_decide_eq_false q) (fun z=>absurd (q2.symm.trans z) Bool.false_ne_true)] at hK
    lk
    exact hK .next _ _ _ _ _ hr rfl
end
end
section
noncomputable def lg (g:Fg):Ctr:=n4 cP (fun i=>[.int i.x, .int i.y, .int i.z]) (fun i a=>∃l,p4 g.F i.x i.y i.z l a) (fun i a=>gz a g.F i.x i.y i.z) fun _ _=>.none
noncomputable def ed (a:Ab) (o x d:Int):Ab:=if x≠d∨a.force=true then lu (lQ a x) o else a
structure sJ (o x:Int) (l:List Int) (a:Ab):Prop where
 rel:sL x a
 sl:ro o l a
theorem sJ.sl2 {o x:Int} {l:List Int} {a:Ab} (h:sJ o x l a):ro o l (lQ a x):=⟨h.sl.vt,h.sl.ne,h.sl.o0,h.sl.o1,h.sl.ll⟩
noncomputable def q9:Ctr:=n4 cP (fun i=>[.int i.x, .int i.y, .int i.z]) (fun i a=>∃l,sJ i.x i.y l a) (fun i a=>ed a i.x i.y i.z) fun _ _=>.none
noncomputable def l6 (g:Fg):Ctr:=n4 cP (fun i=>[.int i.x]) (fun i a=>lm g.F i.x a) (fun i a=>cU a g.F i.x) fun _ _=>.none
section
variable {Φ:Addr→Option Ctr}
theorem yv (hP:AT Φ er rf):BD Φ (lg .u8) wH 0 gi:=
 fN (fun i=>[.ref 0, .p (.tup [.int i.x, .int i.y, .int i.z])]) (fun _=>rfl) fun i a bytes head ver K hr h hK=>by
  lk
  refine ⟨Nat.le_of_ble_eq_true rfl,?_⟩
  lk
  refine dp hP 0 {g:=.u8,x:=i.x,y:=i.y,z:=i.z} rfl hr h fun bytes1 head1 ver1 hr1=>?_
  lk
  exact hK .next _ _ _ _ _ hr1 rfl
theorem wN (hP:AT Φ er rf):BD Φ (lg .i) wH 0 gj:=
 fN (fun i=>[.ref 0, .p (.tup [.int i.x, .int i.y, .int i.z])]) (fun _=>rfl) fun i a bytes head ver K hr h hK=>by
  lk
  refine ⟨Nat.le_of_ble_eq_true rfl,?_⟩
  lk
  refine dp hP 0 {g:=.i,x:=i.x,y:=i.y,z:=i.z} rfl hr h fun bytes1 head1 ver1 hr1=>?_
  lk
  exact hK .next _ _ _ _ _ hr1 rfl
theorem AH (hP:AT Φ da um) (hS:AT Φ jL wC) :
  BD Φ q9 (db 4) 0 eg:=
 fN (fun i=>[.ref 0, .p (.int i.x), .p (.int i.y), .p (.int i.z)]) (fun _=>rfl) fun i a bytes head ver K hr zp hK=>e1a zp fun l h=>by
  lk
  refine dk (fun q=>?_) (fun q=>?_)
  ·rw [show ed a i.x i.y i.z=lu (lQ a i.y) i.x from if_pos (.inl (of_decide_eq_true q))] at hK
   lk
   refine dp hP 0 {x:=i.y} rfl hr h.rel fun bytes1 head1 ver1 hr1=>?_
   lk
   refine dp hS 0 {x:=i.x} rfl hr1 ⟨l,h.sl2⟩ fun bytes2 head2 ver2 hr2=>?_
   lk
   exact hK .next _ _ _ _ _ hr2 rfl
  ·lk
   refine dk (fun q2=>?_) (fun q2=>?_)
   ·rw [show ed a i.x i.y i.z=lu (lQ a i.y) i.x from if_pos (.inr q2)] at hK
    lk
    refine dp hP 0 {x:=i.y} rfl hr h.rel fun bytes1 head1 ver1 hr1=>?_
    lk
    refine dp hS 0 {x:=i.x} rfl hr1 ⟨l,h.sl2⟩ fun bytes2 head2 ver2 hr2=>?_
    lk
    exact hK .next _ _ _ _ _ hr2 rfl
   ·rw [show ed a i.x i.y i.z=a from if_neg fun h'=>h'.elim (of_decide_eq_false q) (fun z=>absurd (q2.symm.trans z) Bool.false_ne_true)] at hK
    lk
    exact hK .next _ _ _ _ _ hr rfl
theorem DB (hP:AT Φ fz jN):BD Φ (l6 .u8) (db 2) 0 iJ:=
 fN (fun i=>[.ref 0, .p (.int i.x)]) (fun _=>rfl) fun i a bytes head ver K hr h hK=>by
  lk
  refine dp hP 0 {g:=.u8,x:=i.x} rfl hr h fun bytes1 head1 ver1 hr1=>?_
  lk
  exact hK .next _ _ _ _ _ hr1 rfl
theorem b_PV (hP:AT Φ fz jN):BD Φ (l6 .v) (db 2) 0 gy:=
 fN (fun i=>[.ref 0, .p (.int i.x)]) (fun _=>rfl) fun i a bytes head ver K hr h hK=>by
  lk
  refine dp hP 0 {g:=.v,x:=i.x} rfl hr h fun bytes1 head1 ver1 hr1=>?_
  lk
  exact hK .next _ _ _ _ _ hr1 rfl
@[irreducible] noncomputable def jz:Ctr:=fun args kws objs Q=>∃w:Bw,objs=[w.o]∧args=[.ref 0]∧kws=[]∧w.R∧w.a.fin=true∧Q (.ref 1) [w.o, .bx (.ba w.a.T)]
end
section
variable {G:Pg} {fa:Addr} {env:List (Option V)} {σ:List O} {Q:V→St→Prop}
theorem tE (hΦ:G.Φ fa=some jz) (j:Nat) (w:Bw) (hj:σ[j]? = some w.o) (hr:w.R) (hf:w.a.fin=true) (h:Q (.ref σ.length) ⟨env,σ.set j w.o++[.bx (.ba w.a.T)]⟩):fj G fa [.ref j] [] ⟨env,σ⟩ Q:=by
 unfold fj
 rw [hΦ]
 refine (?_:opt (qI σ [j]) _)
 unfold qI qI
 rw [hj]
 refine (?_:jz _ _ _ _)
 unfold jz
 refine ⟨w,rfl,?_,rfl,hr,hf,?_⟩
 ·refine (?_:[V.ref ([j].idxOf j)]=_)
  rw [List.idxOf_cons_self]
 ·refine (?_:Q _ ⟨env,mU (σ.set j _) [] [_]⟩)
  unfold mU;exact h
end
section
variable {Φ:Addr→Option Ctr}
theorem yA:BD Φ jz (db 1) 0 oL:=fun args kws objs Q hq=>by
 unfold jz at hq
 refine e1f hq fun w zq1 zq2 zq3 hr hf hQ=>?_;clear hq;subst zq1 zq2 zq3
 lk
 conv=>whnf
 rw [hf]
 lk
 refine la rfl (mF _ _ _ hr.h0 hr.le) pP (Nat.le_trans hr.cap (by decide)) ?_
 lk
 refine ⟨2,⟨Nat.le_succ 1,Nat.le_refl 2,rfl⟩,?_⟩
 have e:cut w.b w.h.toNat w.b.length=w.a.T:=(List.take_of_length_le (by rw [List.length_drop];exact Nat.le_refl _)).trans hr.eq
 rw [←e] at hQ
 exact hQ
@[irreducible] noncomputable def A5 (kw:List (Str × P)) (A:Ar→List P) (side:Ar→Ab→Prop) (new:Ar→Ab→Ab):Ctr:=fun args kws objs Q=>
 ∃i a bytes head ver,args=.ref 0::(A i).map .p∧kws=kw∧objs=[bo cP a bytes head ver]∧Rb a.T a.room bytes head∧side i a∧∀r bytes' head' ver',Rb (new i a).T (new i a).room bytes' head'→Q (.p (.int r)) [bo cP (new i a) bytes' head' ver']
end
section
variable {G:Pg} {fa:Addr} {kw:List (Str × P)} {A:Ar→List P} {side:Ar→Ab→Prop} {new:Ar→Ab→Ab} {env:List (Option V)} {σ:List O} {Q:V→St→Prop}
theorem y8 (hΦ:G.Φ fa=some (A5 kw A side new)) (j:Nat) (i:Ar) {a:Ab} {bytes:List UInt8} {head:Int} {ver:Nat} (hj:σ[j]? = some (bo cP a bytes head ver)) (hr:Rb a.T a.room bytes head) (hs:side i a)
  (h:∀r bytes' head' ver',Rb (new i a).T (new i a).room bytes' head'→Q (.p (.int r)) ⟨env,σ.set j (bo cP (new i a) bytes' head' ver')⟩):fj G fa (.ref j::(A i).map .p) kw ⟨env,σ⟩ Q:=by
 refine mG hΦ hj ?_
 unfold A5;exact ⟨i,a,bytes,head,ver,rfl,rfl,rfl,hr,hs,fun r b h' v z=>CP (Q:=Q) (h r b h' v z)⟩
theorem za {bindf:List V→List (Str × P)→Option (List V)} {k:Nat} {S:S} (E:Ar→List V) (hb:∀i,bindf (.ref 0::(A i).map .p) kw=some (E i))
  (h:∀i a bytes head ver (K:Fl→St→Prop),Rb a.T a.room bytes head→side i a→(∀r env bytes' head' ver' s,Rb (new i a).T (new i a).room bytes' head'→K (.ret (.p (.int r))) ⟨env,bo cP (new i a) bytes' head' ver'::s⟩)→
   wS G S ⟨(E i).map some++List.replicate k none,[bo cP a bytes head ver]⟩ K):∀args kws objs Q,A5 kw A side new args kws objs Q→eY bindf k S G args kws objs Q:=fun args kws objs Q hq=>by
 unfold A5 at hq
 revert hq;intro zh;refine e5f zh fun i a bytes head ver zq5 zq6 zq7 hr hs hq=>?_;clear zh;subst zq5 zq6 zq7
 unfold eY
 rw [hb]
 exact h i a bytes head ver _ hr hs fun r env bytes' head' ver' s hr'=>⟨1,⟨Nat.le_refl 1,Nat.le_add_left 1 _,rfl⟩,hq _ _ _ _ hr'⟩
end
noncomputable def r8 (a:Ab) (root:Int):Ab:={lQ (dy a a.mal 4) root with fin:=true}
structure CJ (root:Int) (a:Ab):Prop where
 n0:0≤root
 n1:root≤a.T.length
 len:a.T.length≤1000000
 mal:gX a.mal
noncomputable def yp:Ctr:=A5 [(("file_identifier" : Str), .none)] (fun i=>[.int i.x, .bool false]) (fun i a=>CJ i.x a) (fun i a=>r8 a i.x)
noncomputable def CU:Ctr:=A5 [] (fun i=>[.int i.x]) (fun i a=>CJ i.x a) (fun i a=>r8 a i.x)
section
variable {Φ:Addr→Option Ctr}
theorem CB (hE:AT Φ cY sA) (hP:AT Φ gm re) (hU:AT Φ da um) :
  BD Φ yp (ut 3 "file_identifier") 3 m9:=
 za (fun i=>[.ref 0, .p (.int i.x), .p (.bool false), .p .none]) (fun _=>uq rfl) fun i a bytes head ver K hr h hK=>by
  have h0:=h.n0;have h1:=h.n1;have h2:=h.len
  have hpl:=dB a (s:=a.mal) (add:=4) h.mal
  have hps:=(dR (n:=a.T.length) (add:=4) (s:=a.mal) h.mal).2
  have hq:=(dB (dy a a.mal 4) (s:=4) (add:=0) sz4).1
  have hm8:a.mal≤8:=by rcases h.mal with q|q|q|q<;>(first|exact (lin [_] [] aa aT 1 [.i 1 aa ap] rfl (Int.le_of_eq q))|exact (lin [_] [] aa aT 1 [.i 1 aa aA] rfl (Int.le_of_eq q))|exact (lin [_] [] aa aT 1 [.i 1 aa ao] rfl (Int.le_of_eq q))|exact lin [_] [] aa aT 1 [.i 1 aa aT] rfl (Int.le_of_eq q))
  lk
  refine fM hE {g:=.u,x:=i.x} ⟨h0,show i.x≤4294967295 by exact lin [_] [_] aa aJ 1 [.i 1 aa af,.j 1 ab (.n 1000000)] rfl h1 h2⟩ ?_
  lk
  refine dp hP 0 {x:=a.mal,y:=4} rfl hr ⟨h.mal,show (0:Int)≤4 by decide,show (a.T.length:Int)+4≤1048576 by exact lin [] [_] bu aO 1 [.j 1 ab (.n 1000000)] rfl h2⟩ fun bytes1 head1 ver1 hr1=>?_
  lk
  refine dp hU 0 {x:=i.x} rfl hr1 ⟨h0,show i.x≤(dy (dy a a.mal 4) 4 0).T.length by exact (lin [_] [_,_,_] aa af 1 [.i 1 aa am,.i 1 am au,.i 1 au af] rfl h1 (And.left hpl) hq),show (dy a a.mal 4).T.length≤1048576 by exact cT [_,_] [_,_] ab aC 1 [.j 1 ae (.n 1000000),.i 1 af bR,.i 1 be an,.i 1 an aT] rfl h2 (Int.le_of_eq (And.right hpl)) hps hm8⟩ fun bytes2 head2 ver2 hr2=>?_
  lk
  exact hK _ _ _ _ _ _ hr2
theorem DD (hF:AT Φ gG yp):BD Φ CU (uu 2 .none) 0 oN:=
 za (fun i=>[.ref 0, .p (.int i.x), .p .none]) (fun _=>rfl) fun i a bytes head ver K hr h hK=>by
  lk
  refine y8 hF 0 i rfl hr h fun r bytes1 head1 ver1 hr1=>?_
  lk
  exact hK _ _ _ _ _ _ hr1
end
end
section
noncomputable def gK (ob:Int):Bool→List Int→List Int
 |_,[]=>[]
 |true,x::xs=>if x=0 then gK ob true xs else (ob-x)::gK ob false xs
 |false,x::xs=>(if x=0 then 0 else ob-x)::gK ob false xs
noncomputable def ez (a:Ab) (ks:List Int):Ab:=ks.foldl (fun a k=>cU a .H k) a
noncomputable def fR (T:List UInt8) (ob x:Int):List UInt8:=T.take (T.length-ob.toNat)++le 4 x++T.drop (T.length-ob.toNat+4)
noncomputable def n9 (a1:Ab) (key:List Int) (sz:Int):Ab:=cU (cU (ez a1 key) .H sz) .H (((key.length:Int)+2)*2)
noncomputable def intP:P→Option Int|.int v=>some v|_=>none
noncomputable def zj (a:Ab) (k:P):Option Int:=(iQ a.vts k).bind intP
noncomputable def wvB (a1:Ab) (key:List Int) (ob sz:Int):Option Int→Ab
 |some v2=>{a1 with T:=fR a1.T ob (v2-ob),vt:=none}
 |none=>{n9 a1 key sz with T:=fR (n9 a1 key sz).T ob ((n9 a1 key sz).T.length-ob),vts:=o5 a1.vts (kT (key++[sz])) (.int (n9 a1 key sz).T.length),vt:=none}
noncomputable def wvC (a1:Ab) (l:List Int) (ob sz:Int):Ab:=wvB a1 (gK ob true l.reverse) ob sz (zj a1 (kT (gK ob true l.reverse++[sz])))
noncomputable def wvA (a:Ab) (l:List Int) (e0:Int):Ab:=wvC (fO a 0) l (fO a 0).T.length ((fO a 0).T.length-e0)
structure wO (a:Ab) (l:List Int) (e0:Int):Prop where
 hT:a.T.length≤900000
 hl:l.length≤1000
 he:∀e∈l,e=0∨(0<e∧e≤(fO a 0).T.length∧((fO a 0).T.length:Int)-e≤65535)
 ho:0≤((fO a 0).T.length:Int)-e0∧((fO a 0).T.length:Int)-e0≤65535
 hk:∀x∈a.vts,BP x.1∧∃v,x.2=.int v∧0≤v∧v≤1048576
 hn:a.vts.length≤100000
structure DX (e0:Int) (l:List Int) (a:Ab):Prop where
 vt:a.vt=some l
 oe:a.oe=.int e0
 pre:wO a l e0
noncomputable def cWV:Ctr:=n4 cP (fun _=>[]) (fun i a=>∃l,DX i.x l a) (fun i a=>wvA a (a.vt.getD []) i.x) fun _ a=>.int (fO a 0).T.length
theorem iz (a:Ab) (off:Int):((fO a off).T.length:Int)=(dy a 4 0).T.length+4:=by
 refine (?_:((le 4 _++(dy a 4 0).T).length:Int)=_)
 rw [List.length_append,dg];exact Int.le_antisymm (lin [] [_] (.c cz) bu 1 [] rfl) (lin [] [_] bu (.c cz) 1 [] rfl)
theorem ja (a:Ab) (x:Int):(a.T.length:Int)+2≤(cU a .H x).T.length∧((cU a .H x).T.length:Int)≤a.T.length+3:=by
 have h:=(dB a (s:=2) (add:=0) (.inr (.inl rfl))).2
 have h2:=dR (n:=a.T.length) (add:=0) (s:=2) (.inr (.inl rfl))
 have e:((cU a .H x).T.length:Int)=(dy a 2 0).T.length+2:=by
  refine (?_:((le 2 _++(dy a 2 0).T).length:Int)=_)
  rw [List.length_append,dg];exact Int.le_antisymm (lin [] [_] (.c (.a aG ab)) bF 1 [] rfl) (lin [] [_] bF (.c (.a aG ab)) 1 [] rfl)
 exact ⟨by exact (lin [_] [_,_,_] bF am 1 [.i 1 cj au,.i 1 ai aa,.i 1 bX am] rfl (Int.le_of_eq (Eq.symm h)) (And.left h2) (Int.le_of_eq (Eq.symm e))),by exact lin [_] [_,_,_] af (.a am a6) 1 [.i 1 au bR,.i 1 be aA,.i 1 af bX] rfl (Int.le_of_eq h) (And.right h2) (Int.le_of_eq e)⟩
theorem nB {ob:Int} {b:Bool}:gK ob b []=[]:=by cases b<;>rfl
theorem mC {ob:Int} {ys:List Int}:gK ob true (0::ys)=gK ob true ys:=if_pos rfl
theorem pC {ob:Int} {ys:List Int}:gK ob false (0::ys)=0::gK ob false ys:=congrArg (·::_) (if_pos rfl)
theorem pB {ob y:Int} {b:Bool} {ys:List Int} (h:y≠0):gK ob b (y::ys)=(ob-y)::gK ob false ys:=by
 cases b
 ·exact congrArg (·::_) (if_neg h)
 ·exact if_neg h
theorem qH (ob:Int) (b:Bool) (xs:List Int):(gK ob b xs).length≤xs.length:=by
 induction xs generalizing b with
 |nil=>rw [nB];exact Nat.le_refl 0
 |cons x xs ih=>
  by_cases h:x=0
  ·subst h
   cases b
   ·rw [pC];exact Nat.succ_le_succ (ih false)
   ·rw [mC];exact Nat.le_succ_of_le (ih true)
  ·rw [pB h];exact Nat.succ_le_succ (ih false)
theorem zQ {b r:List UInt8} {h off:Nat} (h1:h≤off) (h2:off+r.length≤b.length) :
  (put b off r).drop h=(b.drop h).take (off-h)++r++(b.drop h).drop (off-h+r.length)∧(put b off r).length=b.length:=by
 unfold put
 have e:(b.take off).length=off:=List.length_take_of_le (by exact cT [] [_,_,_] ab ae 1 [.j 1 bI ae] rfl h2)
 refine ⟨?_,?_⟩
 ·rw [List.append_assoc,List.drop_append_of_le_length (by exact cT [] [_,_,_] ab ae 1 [.j 1 ab ak,.j 1 ak ae] rfl h1 (Nat.le_of_eq (Eq.symm e))),List.drop_take,List.drop_drop,List.append_assoc,show h+(off-h+r.length)=off+r.length by exact (Nat.le_antisymm (cT [] [_,_,_,_] (.a ab bp) (.a av ak) 1 [.j 1 bT av] rfl (Nat.le_of_eq (Nat.sub_add_cancel (cT [] [_,_] ab ae 1 [.j 1 ab ae] rfl h1)))) (cT [] [_,_,_,_] a9 (.a ak (.a av ae)) 1 [.j 1 ab (.a av ak)] rfl (Nat.le_of_eq (Eq.symm (Nat.sub_add_cancel (cT [] [_,_] ab ae 1 [.j 1 ab ae] rfl h1))))))]
 ·rw [List.length_append,List.length_append,e,List.length_drop];exact Nat.le_antisymm (cT [] [_,_,_,_] (.a a9 ak) av 1 [.j 1 (.a ak a9) av] rfl (Nat.le_of_eq (Nat.sub_add_cancel (cT [] [_,_,_] a9 ak 1 [.j 1 a9 ak] rfl h2)))) (cT [] [_,_,_,_] ab (.a bp av) 1 [.j 1 ab (.a av bp)] rfl (Nat.le_of_eq (Eq.symm (Nat.sub_add_cancel (cT [] [_,_,_] a9 ak 1 [.j 1 a9 ak] rfl h2)))))
theorem yT {T:List UInt8} {room:Int} {bytes:List UInt8} {head:Int} (hr:Rb T room bytes head) (ob x:Int) (h0:4≤ob) (h1:ob≤T.length) :
  Rb (fR T ob x) room (put bytes ((bytes.length:Int)-ob).toNat (le 4 x)) head:=by
 have hl:=hr.len
 have h2:=hr.h0
 have h3:=hr.le
 have e0:=dg 4 x
 refine e0b (zQ (b:=bytes) (r:=le 4 x) (h:=head.toNat) (off:=((bytes.length:Int)-ob).toNat) (by exact cT [_,_] [_,_,_,_] ab ae 1 [.i 1 aa au,.i 1 au (.s ax an),.i 1 af an,.i 1 (.s ax aa) am] rfl h1 (Int.le_of_eq (Eq.symm hl)) (Int.le_of_eq (Int.toNat_of_nonneg (lin [_] [] ai aa 1 [.i 1 ai aa] rfl h2))) (Int.le_of_eq (Eq.symm (Int.toNat_of_nonneg (lin [_,_] [_,_] ai bf 1 [.i 1 aa am,.i 1 am bv,.i 1 ai an] rfl h1 (Int.le_of_eq (Eq.symm hl)) h2))))) (by exact cT [_] [_,_,_] a9 ak 1 [.i 1 ao aa,.j 1 ae aF,.i 1 af (.s au aa)] rfl h0 (Nat.le_of_eq e0) (Int.le_of_eq (Int.toNat_of_nonneg (lin [_,_] [_,_] ai bf 1 [.i 1 aa am,.i 1 am bv,.i 1 ai an] rfl h1 (Int.le_of_eq (Eq.symm hl)) h2))))) fun e1 e2=>?_
 refine ⟨h2,hr.rm,?_,by rw [e2];exact h3,by rw [e2];exact hr.cap⟩
 rw [e1,e0,hr.eq,show ((bytes.length:Int)-ob).toNat-head.toNat=T.length-ob.toNat by exact (Nat.le_antisymm (cT [_,_] [_,_,_,_,_,_,_] ab ae 1 [.i 1 (.s au aa) ax,.i 1 aK (.s au an),.i 1 aa (.w 5),.i 1 (.w 6) an,.j 1 (.a ab aL) az,.j 1 av (.a ae (.v 6))] rfl (Int.le_of_eq hl) (Int.le_of_eq (Int.toNat_of_nonneg (lin [_,_] [_,_] ai bf 1 [.i 1 aa am,.i 1 am bv,.i 1 ai an] rfl h1 (Int.le_of_eq (Eq.symm hl)) h2))) (Int.le_of_eq (Eq.symm (Int.toNat_of_nonneg (lin [_] [] ai aa 1 [.i 1 ai aa] rfl h2)))) (Int.le_of_eq (Int.toNat_of_nonneg (lin [_] [] ai aa 1 [.i 1 ao aa] rfl h0))) (Nat.le_of_eq (Nat.sub_add_cancel (cT [_,_] [_,_,_,_] ab ae 1 [.i 1 aa au,.i 1 au (.s ax an),.i 1 (.s ax aa) am,.i 1 af an] rfl h1 (Int.le_of_eq (Eq.symm hl)) (Int.le_of_eq (Eq.symm (Int.toNat_of_nonneg (lin [_,_] [_,_] ai bf 1 [.i 1 aa am,.i 1 am bv,.i 1 ai an] rfl h1 (Int.le_of_eq (Eq.symm hl)) h2)))) (Int.le_of_eq (Int.toNat_of_nonneg (lin [_] [] ai aa 1 [.i 1 ai aa] rfl h2)))))) (Nat.le_of_eq (Eq.symm (Nat.sub_add_cancel (cT [_] [_,_] ab ae 1 [.i 1 aa am,.i 1 af aa] rfl h1 (Int.le_of_eq (Int.toNat_of_nonneg (lin [_] [] ai aa 1 [.i 1 ao aa] rfl h0)))))))) (cT [_,_] [_,_,_,_,_,_,_] ab ae 1 [.i 1 au (.s ax aa),.i 1 (.s ax an) aK,.i 1 (.w 5) aa,.i 1 an (.w 6),.j 1 az (.a ae aL),.j 1 (.a ab (.v 6)) ak] rfl (Int.le_of_eq (Eq.symm hl)) (Int.le_of_eq (Eq.symm (Int.toNat_of_nonneg (lin [_,_] [_,_] ai bf 1 [.i 1 aa am,.i 1 am bv,.i 1 ai an] rfl h1 (Int.le_of_eq (Eq.symm hl)) h2)))) (Int.le_of_eq (Int.toNat_of_nonneg (lin [_] [] ai aa 1 [.i 1 ai aa] rfl h2))) (Int.le_of_eq (Eq.symm (Int.toNat_of_nonneg (lin [_] [] ai aa 1 [.i 1 ao aa] rfl h0)))) (Nat.le_of_eq (Eq.symm (Nat.sub_add_cancel (cT [_,_] [_,_,_,_] ab ae 1 [.i 1 aa au,.i 1 au (.s ax an),.i 1 (.s ax aa) am,.i 1 af an] rfl h1 (Int.le_of_eq (Eq.symm hl)) (Int.le_of_eq (Eq.symm (Int.toNat_of_nonneg (lin [_,_] [_,_] ai bf 1 [.i 1 aa am,.i 1 am bv,.i 1 ai an] rfl h1 (Int.le_of_eq (Eq.symm hl)) h2)))) (Int.le_of_eq (Int.toNat_of_nonneg (lin [_] [] ai aa 1 [.i 1 ai aa] rfl h2))))))) (Nat.le_of_eq (Nat.sub_add_cancel (cT [_] [_,_] ab ae 1 [.i 1 aa am,.i 1 af aa] rfl h1 (Int.le_of_eq (Int.toNat_of_nonneg (lin [_] [] ai aa 1 [.i 1 ao aa] rfl h0))))))))];rfl
theorem jc {T:List UInt8} {ob x:Int} (h0:4≤ob) (h1:ob≤T.length):(fR T ob x).length=T.length:=by
 unfold fR
 rw [List.length_append,List.length_append,List.length_take_of_le (by exact cT [] [_,_] ab ae 1 [.j 1 ab ae] rfl (Nat.sub_le _ _)),List.length_drop,dg];exact Nat.le_antisymm (cT [] [_,_,_] (.a b6 ae) ak 1 [.j 1 (.a ae b6) ak] rfl (Nat.le_of_eq (Nat.sub_add_cancel (cT [_] [_,_,_] b6 ae 1 [.i 1 ao aa,.i 1 aa au,.j 1 bI ae] rfl h0 (Int.le_of_eq (Eq.symm (Int.toNat_of_nonneg (lin [_] [] ai aa 1 [.i 1 ao aa] rfl h0)))) (Nat.le_of_eq (Nat.sub_add_cancel (cT [_] [_,_] ab ae 1 [.i 1 aa am,.i 1 af aa] rfl h1 (Int.le_of_eq (Int.toNat_of_nonneg (lin [_] [] ai aa 1 [.i 1 ao aa] rfl h0)))))))))) (cT [] [_,_,_] ab (.a (.a ae aF) ak) 1 [.j 1 ab (.a ak (.a ae aF))] rfl (Nat.le_of_eq (Eq.symm (Nat.sub_add_cancel (cT [_] [_,_,_] b6 ae 1 [.i 1 ao aa,.i 1 aa au,.j 1 bI ae] rfl h0 (Int.le_of_eq (Eq.symm (Int.toNat_of_nonneg (lin [_] [] ai aa 1 [.i 1 ao aa] rfl h0)))) (Nat.le_of_eq (Nat.sub_add_cancel (cT [_] [_,_] ab ae 1 [.i 1 aa am,.i 1 af aa] rfl h1 (Int.le_of_eq (Int.toNat_of_nonneg (lin [_] [] ai aa 1 [.i 1 ao aa] rfl h0)))))))))))
theorem yf {es:List (P × P)} {k z:P} (h:iQ es k=some z):∃x∈es,x.2=z:=by
 unfold iQ at h
 cases q:es.find? fun x=>eqB x.1 k with
 |none=>rw [q] at h;exact ns h
 |some x=>rw [q] at h;obtain rfl:=sj h;exact ⟨x,List.mem_of_find?_eq_some q,rfl⟩
theorem lX {x:P} {xs:List P} {ys:List Int} (h:x::xs=ys.map P.int):∃y ys',ys=y::ys'∧x=.int y∧xs=ys'.map .int:=by
 cases ys with
 |nil=>exact cn h
 |cons y ys=>cases h;exact ⟨y,ys,rfl,rfl,rfl⟩
theorem iB (l:List Int) (z:Int):l.map P.int++[P.int z]=(l++[z]).map P.int:=by rw [List.map_append];rfl
theorem uP {stf:List P→St} {l:List Int} {z:Int}:stf (l.map .int++[.int z])=stf ((l++[z]).map .int):=by rw [List.map_append];rfl
structure WvI (A1:Ab) (l key:List Int) (ob:Int) (j:Lv):Prop where
 r:Rb j.a.T j.a.room j.b j.h
 k:j.k≤l.length
 fold:ez {j.a with vt:=A1.vt,oe:=A1.oe} (gK ob j.t (l.take j.k).reverse)=ez A1 key
 len:(j.a.T.length:Int)+3*j.k≤ob+3*l.length
 len2:ob≤j.a.T.length
 cnt:j.x+key.length+j.k=l.length+(gK ob j.t (l.take j.k).reverse).length
 x0:0≤j.x
 yk:j.y=(j.k:Int)-1
theorem sO {l:List Int} {k:Nat} (h:k<l.length):(l.take (k+1)).reverse=l[k]::(l.take k).reverse:=by
 rw [List.take_add_one,List.getElem?_eq_getElem h];exact List.reverse_append
theorem tQ (ks:List Int) (a:Ab):(ez a ks).vts=a.vts:=by
 induction ks generalizing a with
 |nil=>rfl
 |cons k ks ih=>exact ih (cU a .H k)
theorem b_WV {Φ:Addr→Option Ctr} (hR:AT Φ dc yl) (hO:AT Φ eu gW)
  (hV:AT Φ dX (l6 .v)) (hW:AT Φ jo jx) (hH:AT Φ k8 yn) :
  BD Φ cWV (db 1) 11 i5:=
 fN (fun _=>[.ref 0]) (fun _=>rfl) fun i a bytes head ver K hr zp hK=>e1a zp fun l hp=>by
  rw [hp.vt] at hK
  have hrl:=iz a 0
  have hq:=(dB a (s:=4) (add:=0) sz4).2
  have hq2:=dR (n:=a.T.length) (add:=0) (s:=4) sz4
  have hpT:=hp.pre.hT;have hpl:=hp.pre.hl;have hpo:=hp.pre.ho;have hpe:=hp.pre.he;have hpk:=hp.pre.hk;have hpn:=hp.pre.hn
  have hK:∀env bytes' head' ver' r,Rb (wvC (fO a 0) l (fO a 0).T.length ((fO a 0).T.length-i.x)).T (wvC (fO a 0) l (fO a 0).T.length ((fO a 0).T.length-i.x)).room bytes' head'→K (.ret (.p (.int (fO a 0).T.length))) ⟨env,bo cP (wvC (fO a 0) l (fO a 0).T.length ((fO a 0).T.length-i.x)) bytes' head' ver'::r⟩:=fun env b h v r hr'=>hK _ env b h v r hr' rfl
  have hst:∀K2:V→St→Prop,(∀b h v,Rb (fO a 0).T (fO a 0).room b h→K2 (.p .none) ⟨[some (.ref 0),none,none,none,none,none,none,none,none,none,none,none],[bo cP (fO a 0) b h v]⟩)→fj ⟨Φ,CQ,zV⟩ dc [.ref 0, .p (.int 0)] [] ⟨[some (.ref 0),none,none,none,none,none,none,none,none,none,none,none],[bo cP a bytes head ver]⟩ K2:=fun K2 h2=>
   dp hR 0 {x:=0} rfl hr ⟨Int.le_refl 0,Int.natCast_nonneg _,by exact cT [] [_] ab aC 1 [.j 1 ab aZ] rfl hpT⟩ h2
  have hv1:(fO a 0).vt=some l:=hp.vt
  have ho1:(fO a 0).oe=.int i.x:=hp.oe
  rw [show a.vts=(fO a 0).vts from rfl] at hpk hpn
  generalize fO a 0=A1 at *
  generalize hob:(A1.T.length:Int)=ob at *
  have hob4:4≤ob:=by exact lin [_] [_] ao aa 1 [.i 1 bu aa] rfl (Int.le_of_eq (Eq.symm hrl))
  have hob2:ob≤900010:=by exact lin [_,_] [_,_] aa (.n 900010) 1 [.i 1 af (.a am an),.i 1 bP ao,.j 1 ae aZ,.i 1 aa bu] rfl (Int.le_of_eq hq) (And.right hq2) hpT (Int.le_of_eq hrl)
  obtain ⟨T1,room1,mal1,vt1,ne1,oe1,fo1,fi1,sh1,vne1,vts1⟩:=A1
  subst hv1
  subst ho1
  dsimp only at hob hpk hpn
  lk
  refine hst _ fun b1 h1 v1 hr1=>?_
  lk
  refine eC hO 0 {} ⟨⟨T1,room1,mal1,some l,ne1, .int i.x,fo1,fi1,sh1,vne1,vts1⟩,b1,h1,v1⟩ rfl hr1 ?_
  lk
  refine ⟨Nat.zero_le _,?_⟩
  lk
  refine ⟨trivial,?_⟩
  rw [hob]
  generalize hkey:gK ob true l.reverse=key
  have hkl:key.length≤l.length:=by rw [←hkey];exact Nat.le_trans (qH ..) (Nat.le_of_eq List.length_reverse)
  refine qF (n0:=2) (fun j=>⟨[some (.ref 0),some (.p (.int ob)),some (.ref 1),some (.p (.bool j.t)),j.o.map .p,none,none,none,none,none,none,none],[bo cP ⟨T1,room1,mal1,some l,ne1, .int i.x,fo1,fi1,sh1,vne1,vts1⟩ b1 h1 v1, .bx (.lst (j.l.map .int))]⟩)
   (fun xs j=>xs=j.m.map .int∧j.l++gK ob j.t j.m=key∧j.l.length+j.m.length≤l.length) (fun x xs j K2 hj hn _ _=>⟨⟨rfl,rfl⟩,?_⟩) (fun j hj=>⟨⟨rfl,rfl⟩,?_⟩) _ {t:=true,m:=l.reverse} ⟨List.map_reverse.symm,hkey,by rw [List.length_reverse];exact Nat.le_of_eq (Nat.zero_add _)⟩
  ·refine e0c hj fun hx hk hln=>?_
   refine e2c (lX hx) fun y ys e zq3 zq4=>?_;subst zq3 zq4
   rw [e] at hk hln
   have hln:j.l.length+ys.length+1≤l.length:=hln
   have hap:((j.l.map P.int).length<16777216):=by rw [List.length_map];exact cT [] [_,_,_] a8 aq 1 [.j 1 ae aI,.j 1 (.a bI aj) ae] rfl hpl hln
   have hgo:∀z,(j.l++[z]).length+ys.length≤l.length:=fun z=>by rw [List.length_append];refine (?_:j.l.length+1+ys.length≤l.length);exact cT [] [_,_,_] cH ak 1 [.j 1 cK ak] rfl hln
   lk
   refine dk (fun q=>?_) (fun q=>?_)
   ·have q:=of_decide_eq_true q
    subst q
    lk
    refine dk (fun q2=>?_) (fun q2=>?_)
    ·rw [q2,mC] at hk
     lk
     refine (hn _ {t:=true,l:=j.l,m:=ys,o:=some (.int 0)} ?_ ⟨rfl,hk,by exact cT [] [_,_,_] a9 ak 1 [.j 1 cK ak] rfl (by assumption)⟩).2
     rw [q2];rfl
    ·rw [q2,pC] at hk
     lk
     refine ⟨hap,?_⟩
     lk
     refine (hn _ {t:=false,l:=j.l++[0],m:=ys,o:=some (.int 0)} ?_ ⟨rfl,(List.append_assoc ..).trans hk,hgo 0⟩).1
     rw [q2];exact uP (stf:=fun z=>⟨[some (.ref 0),some (.p (.int ob)),some (.ref 1),some (.p (.bool false)),some (.p (.int 0)),none,none,none,none,none,none,none],[bo cP ⟨T1,room1,mal1,some l,ne1, .int i.x,fo1,fi1,sh1,vne1,vts1⟩ b1 h1 v1, .bx (.lst z)]⟩)
   ·rw [pB (of_decide_eq_false q)] at hk
    lk
    refine ⟨hap,?_⟩
    lk
    refine (hn _ {t:=false,l:=j.l++[ob-y],m:=ys,o:=some (.int (ob-y))} ?_ ⟨rfl,(List.append_assoc ..).trans hk,hgo _⟩).1
    exact uP (stf:=fun z=>⟨[some (.ref 0),some (.p (.int ob)),some (.ref 1),some (.p (.bool false)),some (.p (.int (ob-y))),none,none,none,none,none,none,none],[bo cP ⟨T1,room1,mal1,some l,ne1, .int i.x,fo1,fi1,sh1,vne1,vts1⟩ b1 h1 v1, .bx (.lst z)]⟩)
  have hk:j.l=key:=by
   have h2:=hj.2.1
   rw [List.map_eq_nil_iff.mp hj.1.symm,nB,List.append_nil] at h2
   exact h2
  lk
  conv=>whnf
  rw [hk]
  refine ⟨by rw [List.length_map];exact (cT [] [_,_] a8 aq 1 [.j 1 ae aI,.j 1 ab ae] rfl hpl hkl),?_⟩
  lk
  refine ⟨⟨trivial,by rw [List.length_append,List.length_map];refine (?_:key.length+1≤_);exact cT [] [_,_] a8 aq 1 [.j 1 ae aI,.j 1 ab ae] rfl hpl hkl⟩,?_⟩
  lk
  have hkT:P.tup (key.map .int++[.int (ob-i.x)])=kT (key++[ob-i.x]):=congrArg P.tup (iB _ _)
  rw [hkT]
  refine ⟨.inr ⟨⟨_,rfl⟩,fun x hx=>(hpk x hx).1⟩,?_⟩
  unfold wvC zj at hK
  rw [hkey] at hK
  dsimp only at hK
  cases hdg:iQ vts1 (kT (key++[ob-i.x])) with
  |some z=>
   obtain ⟨v2,rfl,hv0,hv2⟩:∃v2,z=.int v2∧0≤v2∧v2≤1048576:=by
    refine e1b (yf hdg) fun x hx zq2=>?_;subst zq2
    exact (hpk x hx).2
   rw [hdg] at hK
   have hcap:=hr1.cap;have hle:=hr1.le;have hh0:=hr1.h0;have hlen:=hr1.len
   dsimp only at hlen
   have hbc:b1.length≤16777216:=Nat.le_trans hcap (by decide)
   have e3:(b1.length:Int)-ob=h1:=by exact Int.le_antisymm (lin [_,_] [_,_] bf an 1 [.i 1 am aa,.i 1 bv am] rfl (Int.le_of_eq hob) (Int.le_of_eq hlen)) (lin [_,_] [_,_] aa bv 1 [.i 1 an am,.i 1 am bf] rfl (Int.le_of_eq (Eq.symm hob)) (Int.le_of_eq (Eq.symm hlen)))
   lk
   refine ⟨hbc,?_⟩
   lk
   refine eC hH 0 {} ⟨⟨T1,room1,mal1,some l,ne1, .int i.x,fo1,fi1,sh1,vne1,vts1⟩,b1,(b1.length:Int)-ob,v1+1⟩ rfl trivial ?_
   lk
   refine q7 hW 0 {g:=.s,x:=(b1.length:Int)-ob,y:=v2-ob} ⟨⟨T1,room1,mal1,some l,ne1, .int i.x,fo1,fi1,sh1,vne1,vts1⟩,b1,(b1.length:Int)-ob,v1+1⟩ rfl ⟨show 0≤(b1.length:Int)-ob by exact (lin [_,_] [_,_] ai bf 1 [.i 1 aa am,.i 1 ai an,.i 1 am bv] rfl (Int.le_of_eq (Eq.symm hob)) hh0 (Int.le_of_eq (Eq.symm hlen))),show (b1.length:Int)-ob+4≤b1.length by exact (lin [_] [_] cE af 1 [.i 1 ao aa] rfl hob4),hbc,show -2147483648≤v2-ob by exact (lin [_,_,_] [_,_] aD bi 1 [.i 1 af (.a am aB),.i 1 (.a aB ap) ao,.j 1 ae aZ,.i 1 an bu,.i 1 ai aa] rfl (Int.le_of_eq hq) (And.right hq2) hpT (Int.le_of_eq hrl) hv0),show v2-ob≤2147483647 by exact lin [_,_] [] bi aY 1 [.i 1 ao an,.i 1 aa aO] rfl hob4 hv2⟩ ?_
   lk
   have hr3:=yT hr1 ob (v2-ob) hob4 (Int.le_of_eq hob.symm)
   rw [←e3] at hr3
   exact hK _ _ _ _ _ hr3
  |none=>
   rw [hdg] at hK
   lk
   refine ⟨by rw [List.length_map];exact (cT [] [_] ab aq 1 [.j 1 ab aI] rfl hpl),?_⟩
   lk
   conv=>whnf
   rw [List.length_map]
   refine Ba (n0:=2) (fun j=>⟨[some (.ref 0),some (.p (.int ob)),some (.p (kT (key++[ob-i.x]))),some (.p (.bool j.t)),j.o.map .p,some (.p (.int (ob-i.x))),some (.p .none),some (.p (.int j.y)),some (.p (.int j.x)),j.q.map .p,none,none],
     [bo cP {j.a with vt:=some l,oe:=.int i.x} j.b j.h j.v, .bx (.lst (key.map .int++[.int (ob-i.x)]))]⟩) (·.k) (WvI ⟨T1,room1,mal1,some l,ne1, .int i.x,fo1,fi1,sh1,vne1,vts1⟩ l key ob) (fun j K2 hj hn _ _=>?_)
    {t:=true,o:=j.o,k:=l.length,x:=0,y:=(l.length:Int)-1,a:=⟨T1,room1,mal1,some l,ne1, .int i.x,fo1,fi1,sh1,vne1,vts1⟩,b:=b1,h:=h1,v:=v1} ⟨hr1,Nat.le_refl _,by rw [List.take_length,hkey],by dsimp only;exact (lin [_] [_,_] (.a af (.m 3 am)) (.a aa (.m 3 am)) 1 [.i 1 af aa] rfl (Int.le_of_eq hob)),Int.le_of_eq hob.symm,by rw [List.take_length,hkey];dsimp only;exact (Int.le_antisymm (lin [] [_,_] (.a (.a ai af) am) (.a am af) 1 [] rfl) (lin [] [_,_] b7 (.a (.a ai am) af) 1 [] rfl)),Int.le_refl 0,rfl⟩
   have hf:=hj.fold;have hc:=hj.cnt;have hl1:=hj.len;have hl2:=hj.len2;have hx0:=hj.x0;have hkk:=hj.k;have hyk:=hj.yk
   lk
   refine dk (fun q=>?_) (fun q=>?_)
   ·have q:=of_decide_eq_true q
    obtain ⟨k,hk⟩:∃k,j.k=k+1:=⟨j.k-1,by exact Nat.le_antisymm (cT [] [_,_] ab bc 1 [.j 1 ab bc] rfl (Nat.le_of_eq (Eq.symm (Nat.sub_add_cancel (cT [_] [_] aj ab 1 [.i 1 aa bG,.i 1 ai aa] rfl (Int.le_of_eq hyk) q))))) (cT [] [_,_] a8 ae 1 [.j 1 a8 ae] rfl (Nat.le_of_eq (Nat.sub_add_cancel (cT [_] [_] aj ab 1 [.i 1 aa bG,.i 1 ai aa] rfl (Int.le_of_eq hyk) q))))⟩
    have hkl:k<l.length:=by exact cT [_] [_,_,_,_] a8 ae 3 [.i 1 (.a au (.m 3 ax)) (.a aa (.m 3 am)),.i 1 aa au,.j 3 a8 av] rfl hl1 hl2 (Nat.le_of_eq (Eq.symm hk))
    have hyT:j.y.toNat=k:=by rw [hyk,hk];exact Nat.le_antisymm (cT [] [_,_] ab ae 1 [.i 1 af (.s cJ ap)] rfl (Int.le_of_eq (Int.toNat_of_nonneg (lin [_] [_,_] ai (.s (.c a8) ap) 1 [.i 1 aa (.s am ap),.i 1 ai aa,.j 1 ae a8] rfl (Int.le_of_eq hyk) q (Nat.le_of_eq hk))))) (cT [] [_,_] ab ae 1 [.i 1 (.s (.c a8) ap) am] rfl (Int.le_of_eq (Eq.symm (Int.toNat_of_nonneg (lin [_] [_,_] ai (.s (.c a8) ap) 1 [.i 1 aa (.s am ap),.i 1 ai aa,.j 1 ae a8] rfl (Int.le_of_eq hyk) q (Nat.le_of_eq hk))))))
    have hyy:j.y-1=(k:Int)-1:=by rw [hyk,hk];exact Int.le_antisymm (lin [] [_] (.s (.s (.c a8) ap) ap) bG 1 [] rfl) (lin [] [_] bG (.s (.s (.c a8) ap) ap) 1 [] rfl)
    have hye:=hpe l[k] (List.getElem_mem hkl)
    have hget:(l.map P.int)[j.y.toNat]? = some (.int l[k]):=by rw [hyT,List.getElem?_map,List.getElem?_eq_getElem hkl];rfl
    rw [hk,sO hkl] at hf hc
    rw [hk] at hl1
    generalize l[k]=y at hf hc hye hget
    lk
    refine f9 q hget (by rw [List.length_map];exact cT [] [_] ab aq 1 [.j 1 ab aI] rfl hpl) ?_
    lk
    have hgo:∀z:Int,0≤z→z≤65535→lm .H z {j.a with vt:=some l,oe:=.int i.x}:=fun z h0 h1=>⟨h0,h1,by refine (?_:j.a.T.length≤1048576);exact cT [_,_,_] [_,_,_,_,_,_] ab aC 1 [.i 1 am (.a au aa),.i 1 be ao,.j 1 ak aZ,.j 3 av aI,.i 1 an bz,.i 3 aB (.s aK ap),.i 3 ai aB,.i 1 (.a af (.m 3 (.c (.a aL aj)))) (.a an (.m 3 ax)),.j 3 az (.a aL aj)] rfl (Int.le_of_eq hq) (And.right hq2) hpT hpl (Int.le_of_eq hrl) (Int.le_of_eq hyk) q hl1 (Nat.le_of_eq hk)⟩
    have hb:=ja {j.a with vt:=some l,oe:=.int i.x}
    dsimp only at hb
    refine dk (fun q2=>?_) (fun q2=>?_)
    ·have q2:=of_decide_eq_true q2
     subst q2
     lk
     refine dk (fun q3=>?_) (fun q3=>?_)
     ·rw [q3,mC] at hf hc
      lk
      refine (hn _ {t:=true,o:=some (.int 0),k:=k,x:=j.x+1,y:=j.y-1,q:=some (.int 0),a:=j.a,b:=j.b,h:=j.h,v:=j.v} ?_ (by rw [hk];exact Nat.lt_succ_self k) ⟨hj.r,Nat.le_of_lt hkl,hf,by dsimp only;exact (lin [_] [_,_,_] (.a af (.m 3 am)) (.a aa (.m 3 au)) 1 [.i 1 (.a af (.m 3 cJ)) (.a aa (.m 3 au))] rfl hl1),hl2,by dsimp only;exact (Int.le_antisymm (lin [_] [_,_,_,_] (.a (.a be af) am) (.a au ax) 1 [.i 1 (.a cb cJ) (.a au ax)] rfl (Int.le_of_eq hc)) (lin [_] [_,_,_,_] b7 (.a (.a be au) ax) 1 [.i 1 b7 (.a (.a aa au) (.c bA))] rfl (Int.le_of_eq (Eq.symm hc)))),by dsimp only;exact (lin [_] [] ai be 1 [.i 1 ai aa] rfl hx0),hyy⟩).2
      rw [q3];rfl
     ·rw [q3,pC] at hf hc
      rw [List.length_cons] at hc
      lk
      refine dp hV 0 {x:=0} (a:={j.a with vt:=some l,oe:=.int i.x}) rfl hj.r (hgo 0 (Int.le_refl 0) (by decide)) fun b3 h3 v3 hr3=>?_
      have hb:=hb 0
      lk
      refine (hn _ {t:=false,o:=some (.int 0),k:=k,x:=j.x,y:=j.y-1,q:=some (.int 0),a:=cU {j.a with vt:=some l,oe:=.int i.x} .H 0,b:=b3,h:=h3,v:=v3} ?_ (by rw [hk];exact Nat.lt_succ_self k) ⟨hr3,Nat.le_of_lt hkl,hf,by dsimp only;exact (lin [_] [_,_,_,_] (.a af (.m 3 am)) (.a aa (.m 3 au)) 1 [.i 1 (.a ax (.m 3 cJ)) (.a aa (.m 3 au)),.i 1 af (.a ax a6)] rfl hl1 (And.right hb)),by dsimp only;exact (lin [_] [_,_] aa af 1 [.i 1 aa am,.i 1 b8 af] rfl hl2 (And.left hb)),by dsimp only;exact (Int.le_antisymm (lin [_] [_,_,_,_] (.a cb am) (.a au ax) 1 [.i 1 (.a cb cJ) (.a au (.c bA))] rfl (Int.le_of_eq hc)) (lin [_] [_,_,_,_] b7 (.a (.a aa au) ax) 1 [.i 1 (.a af cJ) (.a (.a aa au) (.c bA))] rfl (Int.le_of_eq (Eq.symm hc)))),hx0,hyy⟩).1
      rw [q3];rfl
    ·have q2:=of_decide_eq_false q2
     rw [pB q2] at hf hc
     rw [List.length_cons] at hc
     have hye:0≤ob-y∧ob-y≤65535:=by rcases hye with h'|h'<;>(first|exact (And.intro (False.elim (y3 [_] [] [.i 1 (.n 0) (.v 0), .i 1 (.a (.v 0) (.n 1)) (.n 0)] rfl (Int.le_of_eq (Eq.symm h')) (Int.lt_iff_le_and_ne.mpr (And.intro (lin [_] [] aa ai 1 [.i 1 aa ai] rfl (Int.le_of_eq h')) q2)))) (False.elim (y3 [_] [] [.i 1 (.n 0) (.v 0), .i 1 (.a (.v 0) (.n 1)) (.n 0)] rfl (Int.le_of_eq (Eq.symm h')) (Int.lt_iff_le_and_ne.mpr (And.intro (lin [_] [] aa ai 1 [.i 1 aa ai] rfl (Int.le_of_eq h')) q2)))))|exact And.intro (lin [_,_] [] ai bi 1 [.i 1 an aa] rfl (And.left (And.right h'))) (lin [_,_] [] bi aW 1 [.i 1 bi aW] rfl (And.right (And.right h'))))
     lk
     refine dp hV 0 {x:=ob-y} (a:={j.a with vt:=some l,oe:=.int i.x}) rfl hj.r (hgo _ hye.1 hye.2) fun b3 h3 v3 hr3=>?_
     have hb:=hb (ob-y)
     lk
     exact (hn _ {t:=false,o:=some (.int y),k:=k,x:=j.x,y:=j.y-1,q:=some (.int (ob-y)),a:=cU {j.a with vt:=some l,oe:=.int i.x} .H (ob-y),b:=b3,h:=h3,v:=v3} rfl (by rw [hk];exact Nat.lt_succ_self k) ⟨hr3,Nat.le_of_lt hkl,hf,by dsimp only;exact (lin [_] [_,_,_,_] (.a af (.m 3 am)) (.a aa (.m 3 au)) 1 [.i 1 (.a ax (.m 3 cJ)) (.a aa (.m 3 au)),.i 1 af (.a ax a6)] rfl hl1 (And.right hb)),by dsimp only;exact (lin [_] [_,_] aa af 1 [.i 1 aa am,.i 1 b8 af] rfl hl2 (And.left hb)),by dsimp only;exact (Int.le_antisymm (lin [_] [_,_,_,_] (.a cb am) (.a au ax) 1 [.i 1 (.a cb cJ) (.a au (.c bA))] rfl (Int.le_of_eq hc)) (lin [_] [_,_,_,_] b7 (.a (.a aa au) ax) 1 [.i 1 (.a af cJ) (.a (.a aa au) (.c bA))] rfl (Int.le_of_eq (Eq.symm hc)))),hx0,hyy⟩).1
   ·have q:=of_decide_eq_false q
    have hk0:j.k=0:=by exact Nat.le_antisymm (cT [_] [_] ab ay 1 [.i 1 bG aa,.i 1 be ai] rfl (Int.le_of_eq (Eq.symm hyk)) (Int.not_le.mp q)) (cT [] [_] ay ab 1 [] rfl)
    rw [hk0,show (l.take 0).reverse=[] from rfl,nB] at hf hc
    have e4:({j.a with vt:=some l,oe:=.int i.x}:Ab)=ez ⟨T1,room1,mal1,some l,ne1, .int i.x,fo1,fi1,sh1,vne1,vts1⟩ key:=hf
    have e5:(l.length:Int)-j.x+2=key.length+2:=by have hc:j.x+(key.length:Int)+((0:Nat):Int)=l.length+((0:Nat):Int):=hc;exact Int.le_antisymm (lin [_] [_,_] (.a bf aA) b8 1 [.i 1 (.a af bQ) (.a cg bQ)] rfl (Int.le_of_eq (Eq.symm hc))) (lin [_] [_,_] bF (.a (.s am aa) aA) 1 [.i 1 (.a cb bQ) (.a am bQ)] rfl (Int.le_of_eq hc))
    have e6:j.a.vts=vts1:=(congrArg Ab.vts e4).trans (tQ ..)
    unfold wvB n9 at hK
    rw [←e4] at hK
    dsimp only at hK
    have hb1:=ja {j.a with vt:=some l,oe:=.int i.x} (ob-i.x)
    have hb2:=ja (cU {j.a with vt:=some l,oe:=.int i.x} .H (ob-i.x)) (((key.length:Int)+2)*2)
    dsimp only at hb1
    lk
    refine dp hV 0 {x:=ob-i.x} (a:={j.a with vt:=some l,oe:=.int i.x}) rfl hj.r ⟨hpo.1,hpo.2,by refine (?_:j.a.T.length≤1048576);exact cT [_,_] [_,_,_,_,_] ab aC 1 [.i 1 am (.a au aa),.i 1 be ao,.j 1 ak aZ,.j 3 av aI,.i 1 an bz,.i 1 (.a af (.m 3 aK)) (.a an (.m 3 ax)),.j 3 ay az] rfl (Int.le_of_eq hq) (And.right hq2) hpT hpl (Int.le_of_eq hrl) hl1 (Nat.le_of_eq (Eq.symm hk0))⟩ fun b3 h3 v3 hr3=>?_
    refine kF (fun _=>⟨[some (.ref 0),some (.p (.int ob)),some (.p (kT (key++[ob-i.x]))),some (.p (.bool j.t)),j.o.map .p,some (.p (.int (ob-i.x))),some (.p .none),some (.p (.int j.y)),some (.p (.int j.x)),j.q.map .p,some (.p (.int ((key.length:Int)+2))),none],
     [bo cP (cU {j.a with vt:=some l,oe:=.int i.x} .H (ob-i.x)) b3 h3 v3, .bx (.lst (key.map .int++[.int (ob-i.x)]))]⟩) (fun _=>True) (fun K3 hK3 _=>?_) fun _ _=>?_
    ·lk
     refine ⟨by rw [List.length_map];exact (cT [] [_] ab aq 1 [.j 1 ab aI] rfl hpl),?_⟩
     lk
     conv=>whnf
     rw [List.length_map,e5]
     exact hK3 {} trivial
    lk
    refine ⟨by decide,?_⟩
    lk
    refine dp hV 0 {x:=((key.length:Int)+2)*2} rfl hr3 ⟨show 0≤((key.length:Int)+2)*2 by exact (lin [] [_] ai (.r bF 2) 1 [] rfl),show ((key.length:Int)+2)*2≤65535 by exact (lin [] [_,_] (.r bF 2) aW 1 [.j 2 ae aI,.j 2 ab ae] rfl hpl hkl),show (cU {j.a with vt:=some l,oe:=.int i.x} .H (ob-i.x)).T.length≤1048576 by exact cT [_,_] [_,_,_,_,_,_] ab aC 1 [.i 1 am (.a au aa),.i 1 be ao,.j 1 ak aZ,.j 3 av aI,.i 1 an bz,.i 1 (.a aK (.m 3 (.w 5))) (.a an (.m 3 ax)),.j 3 ay aL,.i 1 af (.a aK a6)] rfl (Int.le_of_eq hq) (And.right hq2) hpT hpl (Int.le_of_eq hrl) hl1 (Nat.le_of_eq (Eq.symm hk0)) (And.right hb1)⟩ fun b4 h4 v4 (hr4:Rb (cU (cU {j.a with vt:=some l,oe:=.int i.x} .H (ob-i.x)) .H (((key.length:Int)+2)*2)).T (cU (cU {j.a with vt:=some l,oe:=.int i.x} .H (ob-i.x)) .H (((key.length:Int)+2)*2)).room b4 h4)=>?_
    have hcap4:=hr4.cap;have hle4:=hr4.le;have hh4:=hr4.h0;have hlen4:=hr4.len
    have hbc:b4.length≤16777216:=Nat.le_trans hcap4 (by decide)
    lk
    refine ⟨hbc,?_⟩
    lk
    refine eC hO 0 {} ⟨(cU (cU {j.a with vt:=some l,oe:=.int i.x} .H (ob-i.x)) .H (((key.length:Int)+2)*2)),b4,h4,v4⟩ rfl hr4 ?_
    lk
    refine q7 hW 0 {g:=.s,x:=(b4.length:Int)-ob,y:=(cU (cU {j.a with vt:=some l,oe:=.int i.x} .H (ob-i.x)) .H (((key.length:Int)+2)*2)).T.length-ob} ⟨(cU (cU {j.a with vt:=some l,oe:=.int i.x} .H (ob-i.x)) .H (((key.length:Int)+2)*2)),b4,h4,v4⟩ rfl ⟨show 0≤(b4.length:Int)-ob by exact (lin [_,_] [_,_,_,_] ai bf 1 [.i 1 aa am,.i 1 b8 au,.i 1 bX ax,.i 1 ai an,.i 1 ax bv] rfl hl2 (And.left hb1) (And.left hb2) hh4 (Int.le_of_eq (Eq.symm hlen4))),show (b4.length:Int)-ob+4≤b4.length by exact (lin [_] [_] cE af 1 [.i 1 ao aa] rfl hob4),hbc,show -2147483648≤((cU (cU {j.a with vt:=some l,oe:=.int i.x} .H (ob-i.x)) .H (((key.length:Int)+2)*2)).T.length:Int)-ob by exact (lin [_] [_,_,_] aD bf 1 [.i 1 aa am,.i 1 b8 au,.i 1 bX af] rfl hl2 (And.left hb1) (And.left hb2)),show ((cU (cU {j.a with vt:=some l,oe:=.int i.x} .H (ob-i.x)) .H (((key.length:Int)+2)*2)).T.length:Int)-ob≤2147483647 by exact lin [_] [_,_,_,_,_] bf aY 1 [.j 3 ae aI,.i 1 (.a au (.m 3 ax)) (.a aa (.m 3 am)),.j 3 ay av,.i 1 aK (.a au a6),.i 1 af (.a aK a6)] rfl hpl hl1 (Nat.le_of_eq (Eq.symm hk0)) (And.right hb1) (And.right hb2)⟩ ?_
    lk
    have hr5:=yT hr4 ob ((cU (cU {j.a with vt:=some l,oe:=.int i.x} .H (ob-i.x)) .H (((key.length:Int)+2)*2)).T.length-ob) hob4 (by exact lin [_] [_,_,_] aa af 1 [.i 1 aa am,.i 1 b8 au,.i 1 bX af] rfl hl2 (And.left hb1) (And.left hb2))
    refine eC hO 0 {} ⟨{(cU (cU {j.a with vt:=some l,oe:=.int i.x} .H (ob-i.x)) .H (((key.length:Int)+2)*2)) with T:=fR (cU (cU {j.a with vt:=some l,oe:=.int i.x} .H (ob-i.x)) .H (((key.length:Int)+2)*2)).T ob ((cU (cU {j.a with vt:=some l,oe:=.int i.x} .H (ob-i.x)) .H (((key.length:Int)+2)*2)).T.length-ob)},put b4 ((b4.length:Int)-ob).toNat (le 4 ((cU (cU {j.a with vt:=some l,oe:=.int i.x} .H (ob-i.x)) .H (((key.length:Int)+2)*2)).T.length-ob)),h4,v4⟩ rfl hr5 ?_
    lk
    conv=>whnf
    rw [jc hob4 (by exact lin [_] [_,_,_] aa af 1 [.i 1 aa am,.i 1 b8 au,.i 1 bX af] rfl hl2 (And.left hb1) (And.left hb2))]
    refine ⟨⟨.inr ⟨⟨_,rfl⟩,fun x hx=>(hpk x (e6▸(show x∈j.a.vts from hx))).1⟩,show j.a.vts.length≤16777216 by rw [e6];exact cT [] [_] ab aq 1 [.j 1 ab aQ] rfl hpn⟩,?_⟩
    lk
    rw [←e6] at hK
    exact hK _ _ _ _ _ hr5
end
section
structure CL (e0:Int) (l:List Int) (a:Ab):Prop where
 ne:a.nested=true
 wv:DX e0 l {a with nested:=false}
noncomputable def wD:Ctr:=n4 cP (fun _=>[]) (fun i a=>∃l,CL i.x l a) (fun i a=>wvA {a with nested:=false} (a.vt.getD []) i.x) fun _ a=>.int (fO {a with nested:=false} 0).T.length
noncomputable def ab0:Ab:=⟨[],0,1,none,false, .none,false,false, .none,none,[]⟩
noncomputable def DP (c:Addr) (n:Nat) (v:Nat):O:=.cinst c (List.replicate n .unset) v
@[irreducible] noncomputable def li:Ctr:=fun args kws objs Q=>∃(n:Int) (v:Nat),args=[.ref 0, .p (.int n)]∧kws=[]∧objs=[DP cP 11 v]∧(0≤n∧n≤65536)∧∀bytes ver',Rb [] 0 bytes n→Q (.p .none) [bo cP ab0 bytes n ver']
structure Tw where
 d:List UInt8
 p:Int
 v:Nat
noncomputable def Tw.o (w:Tw):O:=.cinst ef [.v (.bytes w.d), .v (.int w.p)] w.v
@[irreducible] noncomputable def jy:Ctr:=fun args kws objs Q=>∃(d:List UInt8) (p:Int) (v:Nat),args=[.ref 0, .p (.bytes d), .p (.int p)]∧kws=[]∧objs=[DP ef 2 v]∧(0≤p∧p≤4294967295)∧∀ver',Q (.p .none) [Tw.o ⟨d,p,ver'⟩]
noncomputable def rc:Ctr:=sf Tw.o (fun i=>[.st i.g.c, .int i.x]) (fun i w=>inB i.g.F w.d i.x) fun i w=>.int (rdF i.g.F w.d i.x)
noncomputable def uz (d:List UInt8) (pos:Int):Int:=pos-rdF .i d pos
noncomputable def qd (d:List UInt8) (pos vo:Int):Int:=if vo<rdF .H d (uz d pos) then rdF .H d (uz d pos+vo) else 0
structure pc (d:List UInt8) (pos vo:Int):Prop where
 b0:inB .i d pos
 b1:inB .H d (uz d pos)
 b2:vo<rdF .H d (uz d pos)→inB .H d (uz d pos+vo)
noncomputable def jM:Ctr:=sf Tw.o (fun i=>[.int i.x]) (fun i w=>pc w.d w.p i.x) fun i w=>.int (qd w.d w.p i.x)
noncomputable def yj:Ctr:=sf Tw.o (fun i=>[.int i.x]) (fun i w=>inB .I w.d i.x) fun i w=>.int (i.x+rdF .I w.d i.x)
structure yE (d:List UInt8) (pos off:Int):Prop where
 n0:0≤off
 n1:off≤4294967295
 b1:inB .I d (off+pos)
 b2:inB .I d (off+pos+rdF .I d (off+pos))
noncomputable def mH:Ctr:=sf Tw.o (fun i=>[.int i.x]) (fun i w=>yE w.d w.p i.x) fun i w=>.int (rdF .I w.d (i.x+w.p+rdF .I w.d (i.x+w.p)))
structure yD (d:List UInt8) (pos off:Int):Prop where
 n0:0≤off
 n1:off≤4294967295
 b1:inB .I d (off+pos)
noncomputable def yi:Ctr:=sf Tw.o (fun i=>[.int i.x]) (fun i w=>yD w.d w.p i.x) fun i w=>.int (i.x+w.p+rdF .I w.d (i.x+w.p)+4)
structure wP (F:Fm) (d:List UInt8) (pos sl df:Int):Prop where
 s0:0≤sl
 s1:sl≤65535
 lo:F.lo≤df
 hi:df≤F.hi
 off:pc d pos sl
 b:qd d pos sl≠0→inB F d (pos+qd d pos sl)
noncomputable def tV (F:Fm) (d:List UInt8) (pos sl df:Int):Int:=if qd d pos sl=0 then df else rdF F d (pos+qd d pos sl)
noncomputable def rb:Ctr:=sf Tw.o (fun i=>[.int i.x, .int i.y, .st i.g.c]) (fun i w=>wP i.g.F w.d w.p i.x i.y) fun i w=>.int (tV i.g.F w.d w.p i.x i.y)
theorem BS {F:Fm} {d:List UInt8} {off:Int} (h:inB F d off):0≤off∧off≤4294967295:=⟨h.1,by have h1:=h.2.1;have h2:=h.2.2;have h3:(0:Int)≤F.w:=Int.natCast_nonneg _;exact lin [_] [_,_] aa aJ 1 [.i 1 cb am,.j 1 ae aq,.i 1 ai af] rfl h1 h2 h3⟩
section
variable {Φ:Addr→Option Ctr}
theorem CD (hN:AT Φ dM uo) (hV:AT Φ eU cWV) :
  BD Φ wD (db 1) 0 kJ:=
 fN (fun _=>[.ref 0]) (fun _=>rfl) fun i a bytes head ver K hr zp hK=>e1a zp fun l h=>by
  lk
  refine eC hN 0 {} ⟨a,bytes,head,ver⟩ rfl h.ne ?_
  lk
  refine dp hV 0 i (a:={a with nested:=false}) rfl hr ⟨l,h.wv⟩ fun bytes1 head1 ver1 hr1=>?_
  lk
  exact hK (.ret (.p (.int _))) _ _ _ _ _ hr1 rfl
theorem AN:BD Φ li (uu 1 (.int 1024)) 1 sT:=fun args kws objs Q hq=>by
 unfold li at hq
 refine e2e hq fun n v zq2 zq3 zq4 zn1 h=>?_;clear hq;subst zq2 zq3 zq4;refine e0b zn1 fun h0 h1=>?_
 lk
 refine A7 (decide_eq_true h0) ?_
 lk
 refine o9 (congrArg Bool.not (decide_eq_true (by exact lin [_] [] aa aH 1 [.i 1 aa (.n 65536)] rfl h1))) ?_
 lk
 refine ⟨⟨h0,by exact lin [_] [] aa (.n 16777216) 1 [.i 1 aa (.n 65536)] rfl h1⟩,?_⟩
 lk
 refine ⟨1,⟨Nat.le_refl 1,Nat.le_add_left 1 _,rfl⟩,h _ _ ⟨h0,h0,?_,?_,?_⟩⟩
 ·rw [List.drop_eq_nil_of_le];rw [List.length_replicate];exact Nat.le_refl _
 ·rw [List.length_replicate];exact lin [_] [_] aa af 1 [.i 1 aa af] rfl (Int.le_of_eq (Eq.symm (Int.toNat_of_nonneg (lin [_] [] ai aa 1 [.i 1 ai aa] rfl h0))))
 ·rw [List.length_replicate];exact cT [_] [_] ab (.n 4194304) 1 [.i 1 aa (.n 65536),.i 1 af aa] rfl h1 (Int.le_of_eq (Int.toNat_of_nonneg (lin [_] [] ai aa 1 [.i 1 ai aa] rfl h0)))
theorem AK (hE:AT Φ cY sA):BD Φ jy (db 3) 0 sS:=fun args kws objs Q hq=>by
 unfold jy at hq
 refine e3e hq fun d p v zq3 zq4 zq5 h0 h=>?_;clear hq;subst zq3 zq4 zq5
 lk
 refine fM hE {g:=.u,x:=p} h0 ?_
 lk
 exact ⟨1,⟨Nat.le_refl 1,Nat.le_refl 1,rfl⟩,h _⟩
theorem Cs (hE:AT Φ cY sA) (hG:AT Φ pJ AB):BD Φ rc (db 3) 0 uY:=
 kc (fun i=>[.ref 0, .p (.st i.g.c), .p (.int i.x)]) (fun _=>rfl) fun i w K h hK=>by
  lk
  refine fM hE {g:=.u,x:=i.x} (BS h) ?_
  obtain ⟨g,d,x,y,z⟩:=i
  cases g
  all_goals
   lk
   refine fM hG {g:=_,d:=w.d,x:=x} h ?_
   lk
   exact hK (.ret (.p (.int _))) _ _ rfl
theorem wK (hG:AT Φ iD rc):BD Φ jM (db 2) 2 oK:=
 kc (fun i=>[.ref 0, .p (.int i.x)]) (fun _=>rfl) fun i w K h hK=>by
  lk
  refine eC hG 0 {g:=.s,x:=w.p} w rfl h.b0 ?_
  lk
  refine eC hG 0 {g:=.v,x:=uz w.d w.p} w rfl h.b1 ?_
  lk
  refine dk (fun q=>?_) (fun q=>?_)
  ·have q:=of_decide_eq_true q
   rw [show qd w.d w.p i.x=rdF .H w.d (uz w.d w.p+i.x) from if_pos q] at hK
   lk
   refine eC hG 0 {g:=.v,x:=uz w.d w.p+i.x} w rfl (h.b2 q) ?_
   lk
   exact hK (.ret (.p (.int _))) _ _ rfl
  ·rw [show qd w.d w.p i.x=0 from if_neg (of_decide_eq_false q)] at hK
   lk
   exact hK (.ret (.p (.int _))) _ _ rfl
theorem Cr (hE:AT Φ cY sA) (hG:AT Φ pJ AB):BD Φ yj (db 2) 0 lO:=
 kc (fun i=>[.ref 0, .p (.int i.x)]) (fun _=>rfl) fun i w K h hK=>by
  lk
  refine fM hE {g:=.u,x:=i.x} (BS h) ?_
  lk
  refine fM hG {g:=.u,d:=w.d,x:=i.x} h ?_
  lk
  exact hK (.ret (.p (.int _))) _ _ rfl
theorem wJ (hE:AT Φ cY sA) (hG:AT Φ pJ AB):BD Φ mH (db 2) 1 kH:=
 kc (fun i=>[.ref 0, .p (.int i.x)]) (fun _=>rfl) fun i w K h hK=>by
  lk
  refine fM hE {g:=.u,x:=i.x} ⟨h.n0,h.n1⟩ ?_
  lk
  refine fM hG {g:=.u,d:=w.d,x:=i.x+w.p} h.b1 ?_
  lk
  refine fM hG {g:=.u,d:=w.d,x:=i.x+w.p+rdF .I w.d (i.x+w.p)} h.b2 ?_
  lk
  exact hK (.ret (.p (.int _))) _ _ rfl
theorem Cp (hE:AT Φ cY sA) (hG:AT Φ iD rc):BD Φ yi (db 2) 1 oJ:=
 kc (fun i=>[.ref 0, .p (.int i.x)]) (fun _=>rfl) fun i w K h hK=>by
  lk
  refine fM hE {g:=.u,x:=i.x} ⟨h.n0,h.n1⟩ ?_
  lk
  refine eC hG 0 {g:=.u,x:=i.x+w.p} w rfl h.b1 ?_
  lk
  exact hK (.ret (.p (.int _))) _ _ rfl
theorem AJ (hE:AT Φ cY sA) (hO:AT Φ fU jM) (hG:AT Φ iD rc):BD Φ rb (db 4) 1 m7:=
 kc (fun i=>[.ref 0, .p (.int i.x), .p (.int i.y), .p (.st i.g.c)]) (fun _=>rfl) fun i w K h hK=>by
  lk
  refine fM hE {g:=.v,x:=i.x} ⟨h.s0,h.s1⟩ ?_
  lk
  refine fM hE {g:=i.g,x:=i.y} ⟨h.lo,h.hi⟩ ?_
  lk
  refine eC hO 0 {x:=i.x} w rfl h.off ?_
  lk
  refine dk (fun q=>?_) (fun q=>?_)
  ·rw [show tV i.g.F w.d w.p i.x i.y=i.y from if_pos (of_decide_eq_true q)] at hK
   lk
   exact hK (.ret (.p (.int _))) _ _ rfl
  ·rw [show tV i.g.F w.d w.p i.x i.y=rdF i.g.F w.d (w.p+qd w.d w.p i.x) from if_neg (of_decide_eq_false q)] at hK
   lk
   refine eC hG 0 {g:=i.g,x:=w.p+qd w.d w.p i.x} w rfl (h.b (of_decide_eq_false q)) ?_
   lk
   exact hK (.ret (.p (.int _))) _ _ rfl
end
@[irreducible] noncomputable def l5:Ctr:=fun args kws objs Q=>∃(w w2:Tw) (off:Int),args=[.ref 0, .ref 1, .p (.int off)]∧kws=[]∧objs=[w.o,w2.o]∧yD w.d w.p off∧∀ver',Q (.p .none) [w.o,Tw.o ⟨w.d,off+w.p+rdF .I w.d (off+w.p),ver'⟩]
section
variable {Φ:Addr→Option Ctr}
theorem AG (hE:AT Φ cY sA) (hG:AT Φ iD rc):BD Φ l5 (db 3) 0 qq:=fun args kws objs Q hq=>by
 unfold l5 at hq
 refine e3e hq fun w w2 off zq3 zq4 zq5 h1 h=>?_;clear hq;subst zq3 zq4 zq5
 lk
 refine fM hE {g:=.u,x:=off} ⟨h1.n0,h1.n1⟩ ?_
 lk
 refine eC hG 0 {g:=.u,x:=off+w.p} w rfl h1.b1 ?_
 lk
 exact ⟨2,⟨Nat.le_refl 2,Nat.le_refl 2,rfl⟩,h _⟩
end
end
section
noncomputable def rdE (F:Fm) (T:List UInt8) (p:Int):Int:=F.rd ((T.drop (T.length-p.toNat)).take F.w)
theorem xC {F:Fm} {d:List UInt8} {p:Int} (h0:0≤p) (h1:p≤d.length):rdF F d (d.length-p)=rdE F d p:=by
 unfold rdF rdE
 congr 3
 exact Nat.le_antisymm (cT [_] [_,_,_,_] ab ae 1 [.i 1 af (.s au aa),.i 1 ax aa,.j 1 ak bS] rfl (Int.le_of_eq (Int.toNat_of_nonneg (lin [_] [_] ai bf 1 [.i 1 aa af] rfl h1))) (Int.le_of_eq (Int.toNat_of_nonneg (lin [_] [] ai aa 1 [.i 1 ai aa] rfl h0))) (Nat.le_of_eq (Eq.symm (Nat.sub_add_cancel (cT [_] [_,_] ab ae 1 [.i 1 aa am,.i 1 af aa] rfl h1 (Int.le_of_eq (Int.toNat_of_nonneg (lin [_] [] ai aa 1 [.i 1 ai aa] rfl h0)))))))) (cT [_] [_,_,_,_] ab ae 1 [.i 1 (.s au aa) am,.i 1 aa ax,.j 1 (.a ab av) ak] rfl (Int.le_of_eq (Eq.symm (Int.toNat_of_nonneg (lin [_] [_] ai bf 1 [.i 1 aa af] rfl h1)))) (Int.le_of_eq (Eq.symm (Int.toNat_of_nonneg (lin [_] [] ai aa 1 [.i 1 ai aa] rfl h0)))) (Nat.le_of_eq (Nat.sub_add_cancel (cT [_] [_,_] ab ae 1 [.i 1 aa am,.i 1 af aa] rfl h1 (Int.le_of_eq (Int.toNat_of_nonneg (lin [_] [] ai aa 1 [.i 1 ai aa] rfl h0)))))))
theorem gT {F:Fm} (X:List UInt8) {T:List UInt8} {p:Int} (h1:p≤T.length):rdE F (X++T) p=rdE F T p:=by
 unfold rdE
 congr 2
 rw [List.length_append,Nat.add_sub_assoc (Int.toNat_le.mpr h1) X.length,←List.drop_drop,List.drop_left]
theorem lw {F:Fm} {T:List UInt8} {x:Int} (h0:F.lo≤x) (h1:x≤F.hi):rdE F (le F.w x++T) (T.length+F.w)=x:=by
 unfold rdE
 have e:(le F.w x++T).length-((T.length:Int)+F.w).toNat=0:=by rw [List.length_append,dg,←Int.natCast_add,Int.toNat_natCast,Nat.add_comm,Nat.sub_self]
 rw [e,List.drop_zero,List.take_append_of_le_length (by rw [dg];exact Nat.le_refl _),List.take_of_length_le (by rw [dg];exact Nat.le_refl _)]
 exact Dc F x h0 h1
theorem qv {T:List UInt8} {ob x:Int} (h0:4≤ob) (h1:ob≤T.length) (hx0 : -2147483648≤x) (hx1:x≤2147483647):rdE .i (fR T ob x) ob=x:=by
 have hl:=jc (x:=x) h0 h1
 have e:fR T ob x=T.take (T.length-ob.toNat)++(le 4 x++T.drop (T.length-ob.toNat+4)):=by unfold fR;rw [List.append_assoc]
 have e2:ob=((T.drop (T.length-ob.toNat+4)).length:Int)+(Fm.i).w:=by simp only [List.length_drop,Fm.w];exact Int.le_antisymm (lin [_] [_,_,_,_] aa (.a af (.c aF)) 1 [.i 1 aa am,.j 1 bC av,.j 1 av (.a ab (.a ak aF))] rfl (Int.le_of_eq (Eq.symm (Int.toNat_of_nonneg (lin [_] [] ai aa 1 [.i 1 ao aa] rfl h0)))) (Nat.le_of_eq (Nat.sub_add_cancel (cT [_] [_,_] ab ae 1 [.i 1 aa am,.i 1 af aa] rfl h1 (Int.le_of_eq (Int.toNat_of_nonneg (lin [_] [] ai aa 1 [.i 1 ao aa] rfl h0)))))) (Nat.le_of_eq (Eq.symm (Nat.sub_add_cancel (cT [_] [_,_,_] b6 ae 1 [.i 1 ao aa,.i 1 aa au,.j 1 bI ae] rfl h0 (Int.le_of_eq (Eq.symm (Int.toNat_of_nonneg (lin [_] [] ai aa 1 [.i 1 ao aa] rfl h0)))) (Nat.le_of_eq (Nat.sub_add_cancel (cT [_] [_,_] ab ae 1 [.i 1 aa am,.i 1 af aa] rfl h1 (Int.le_of_eq (Int.toNat_of_nonneg (lin [_] [] ai aa 1 [.i 1 ao aa] rfl h0))))))))))) (lin [_] [_,_,_,_] (.a af (.c aF)) aa 1 [.i 1 am aa,.j 1 ak (.a av ae),.j 1 (.a ab bK) ak] rfl (Int.le_of_eq (Int.toNat_of_nonneg (lin [_] [] ai aa 1 [.i 1 ao aa] rfl h0))) (Nat.le_of_eq (Eq.symm (Nat.sub_add_cancel (cT [_] [_,_] ab ae 1 [.i 1 aa am,.i 1 af aa] rfl h1 (Int.le_of_eq (Int.toNat_of_nonneg (lin [_] [] ai aa 1 [.i 1 ao aa] rfl h0))))))) (Nat.le_of_eq (Nat.sub_add_cancel (cT [_] [_,_,_] b6 ae 1 [.i 1 ao aa,.i 1 aa au,.j 1 bI ae] rfl h0 (Int.le_of_eq (Eq.symm (Int.toNat_of_nonneg (lin [_] [] ai aa 1 [.i 1 ao aa] rfl h0)))) (Nat.le_of_eq (Nat.sub_add_cancel (cT [_] [_,_] ab ae 1 [.i 1 aa am,.i 1 af aa] rfl h1 (Int.le_of_eq (Int.toNat_of_nonneg (lin [_] [] ai aa 1 [.i 1 ao aa] rfl h0))))))))))
 rw [e,gT _ (by simp only [List.length_append,dg,List.length_drop];exact lin [_] [_,_,_,_] aa (.c cz) 1 [.i 1 aa am,.j 1 bC av,.j 1 av (.a ab (.a ak aF))] rfl (Int.le_of_eq (Eq.symm (Int.toNat_of_nonneg (lin [_] [] ai aa 1 [.i 1 ao aa] rfl h0)))) (Nat.le_of_eq (Nat.sub_add_cancel (cT [_] [_,_] ab ae 1 [.i 1 aa am,.i 1 af aa] rfl h1 (Int.le_of_eq (Int.toNat_of_nonneg (lin [_] [] ai aa 1 [.i 1 ao aa] rfl h0)))))) (Nat.le_of_eq (Eq.symm (Nat.sub_add_cancel (cT [_] [_,_,_] b6 ae 1 [.i 1 ao aa,.i 1 aa au,.j 1 bI ae] rfl h0 (Int.le_of_eq (Eq.symm (Int.toNat_of_nonneg (lin [_] [] ai aa 1 [.i 1 ao aa] rfl h0)))) (Nat.le_of_eq (Nat.sub_add_cancel (cT [_] [_,_] ab ae 1 [.i 1 aa am,.i 1 af aa] rfl h1 (Int.le_of_eq (Int.toNat_of_nonneg (lin [_] [] ai aa 1 [.i 1 ao aa] rfl h0)))))))))))]
 exact (congrArg (rdE .i (le 4 x++T.drop (T.length-ob.toNat+4))) e2).trans (lw (F:=.i) hx0 hx1)
theorem lR {F:Fm} {T:List UInt8} {ob x p:Int} (h0:4≤ob) (h1:ob≤T.length) (hp:ob≤p-F.w) (hp2:p≤T.length):rdE F (fR T ob x) p=rdE F T p:=by
 have hl:=jc (x:=x) h0 h1
 unfold rdE
 rw [hl]
 congr 1
 unfold fR
 rw [List.append_assoc,List.drop_append_of_le_length (by simp;exact cT [_,_] [_,_,_,_,_] ab bp 1 [.i 1 aa (.s an ax),.i 1 an au,.i 1 aK aa,.j 1 ab (.a ae az)] rfl hp (Int.le_of_eq (Eq.symm (Int.toNat_of_nonneg (lin [_,_] [_] ai aa 1 [.i 1 ao an,.i 1 an bE] rfl h0 hp)))) (Int.le_of_eq (Int.toNat_of_nonneg (lin [_] [] ai aa 1 [.i 1 ao aa] rfl h0))) (Nat.le_of_eq (Eq.symm (Nat.sub_add_cancel (cT [_] [_,_] ab ae 1 [.i 1 aa am,.i 1 af aa] rfl h1 (Int.le_of_eq (Int.toNat_of_nonneg (lin [_] [] ai aa 1 [.i 1 ao aa] rfl h0)))))))),List.take_append_of_le_length (by simp;exact cT [_,_] [_,_,_,_,_,_,_] ab ae 1 [.i 1 aa (.s an af),.i 1 au aa,.i 1 an ax,.j 1 az (.a aL ak),.j 1 (.a (.v 6) av) az,.j 1 aL (.a ae (.v 6))] rfl hp (Int.le_of_eq (Int.toNat_of_nonneg (lin [_] [] ai aa 1 [.i 1 ao aa] rfl h0))) (Int.le_of_eq (Eq.symm (Int.toNat_of_nonneg (lin [_,_] [_] ai aa 1 [.i 1 ao an,.i 1 an bE] rfl h0 hp)))) (Nat.le_of_eq (Eq.symm (Nat.sub_add_cancel (cT [_] [_,_] ab ae 1 [.i 1 aa am,.i 1 af aa] rfl h1 (Int.le_of_eq (Int.toNat_of_nonneg (lin [_] [] ai aa 1 [.i 1 ao aa] rfl h0))))))) (Nat.le_of_eq (Nat.sub_add_cancel (cT [_] [_,_] ab ae 1 [.i 1 aa am,.i 1 af aa] rfl hp2 (Int.le_of_eq (Int.toNat_of_nonneg (lin [_,_] [_] ai aa 1 [.i 1 ao an,.i 1 an bE] rfl h0 hp)))))) (Nat.le_of_eq (Eq.symm (Nat.sub_add_cancel (cT [_,_] [_,_,_,_,_,_] ab ae 1 [.i 1 aa (.s an au),.i 1 ax aa,.i 1 an aK,.j 1 aL bS,.j 1 (.a ab az) aL] rfl hp (Int.le_of_eq (Int.toNat_of_nonneg (lin [_] [] ai aa 1 [.i 1 ao aa] rfl h0))) (Int.le_of_eq (Eq.symm (Int.toNat_of_nonneg (lin [_,_] [_] ai aa 1 [.i 1 ao an,.i 1 an bE] rfl h0 hp)))) (Nat.le_of_eq (Eq.symm (Nat.sub_add_cancel (cT [_] [_,_] ab ae 1 [.i 1 aa am,.i 1 af aa] rfl h1 (Int.le_of_eq (Int.toNat_of_nonneg (lin [_] [] ai aa 1 [.i 1 ao aa] rfl h0))))))) (Nat.le_of_eq (Nat.sub_add_cancel (cT [_] [_,_] ab ae 1 [.i 1 aa am,.i 1 af aa] rfl hp2 (Int.le_of_eq (Int.toNat_of_nonneg (lin [_,_] [_] ai aa 1 [.i 1 ao an,.i 1 an bE] rfl h0 hp))))))))))),List.drop_take,List.take_take]
 congr 1
 exact Nat.le_antisymm (cT [] [_,_] ab ae 1 [.j 1 ab ae] rfl (Nat.min_le_left _ _)) (cT [] [_,_] ab ae 1 [.j 1 ab ae] rfl (Nat.le_of_eq (Eq.symm (Nat.min_eq_left (cT [_,_] [_,_,_,_,_,_,_] ab ae 1 [.i 1 aa (.s an af),.i 1 au aa,.i 1 an ax,.j 1 az (.a aL ak),.j 1 (.a (.v 6) av) az,.j 1 aL (.a ae (.v 6))] rfl hp (Int.le_of_eq (Int.toNat_of_nonneg (lin [_] [] ai aa 1 [.i 1 ao aa] rfl h0))) (Int.le_of_eq (Eq.symm (Int.toNat_of_nonneg (lin [_,_] [_] ai aa 1 [.i 1 ao an,.i 1 an bE] rfl h0 hp)))) (Nat.le_of_eq (Eq.symm (Nat.sub_add_cancel (cT [_] [_,_] ab ae 1 [.i 1 aa am,.i 1 af aa] rfl h1 (Int.le_of_eq (Int.toNat_of_nonneg (lin [_] [] ai aa 1 [.i 1 ao aa] rfl h0))))))) (Nat.le_of_eq (Nat.sub_add_cancel (cT [_] [_,_] ab ae 1 [.i 1 aa am,.i 1 af aa] rfl hp2 (Int.le_of_eq (Int.toNat_of_nonneg (lin [_,_] [_] ai aa 1 [.i 1 ao an,.i 1 an bE] rfl h0 hp)))))) (Nat.le_of_eq (Eq.symm (Nat.sub_add_cancel (cT [_,_] [_,_,_,_,_,_] ab ae 1 [.i 1 aa (.s an au),.i 1 ax aa,.i 1 an aK,.j 1 aL bS,.j 1 (.a ab az) aL] rfl hp (Int.le_of_eq (Int.toNat_of_nonneg (lin [_] [] ai aa 1 [.i 1 ao aa] rfl h0))) (Int.le_of_eq (Eq.symm (Int.toNat_of_nonneg (lin [_,_] [_] ai aa 1 [.i 1 ao an,.i 1 an bE] rfl h0 hp)))) (Nat.le_of_eq (Eq.symm (Nat.sub_add_cancel (cT [_] [_,_] ab ae 1 [.i 1 aa am,.i 1 af aa] rfl h1 (Int.le_of_eq (Int.toNat_of_nonneg (lin [_] [] ai aa 1 [.i 1 ao aa] rfl h0))))))) (Nat.le_of_eq (Nat.sub_add_cancel (cT [_] [_,_] ab ae 1 [.i 1 aa am,.i 1 af aa] rfl hp2 (Int.le_of_eq (Int.toNat_of_nonneg (lin [_,_] [_] ai aa 1 [.i 1 ao an,.i 1 an bE] rfl h0 hp)))))))))))))))
structure p7 (T:List UInt8) (p:Int) (L:List Int):Prop where
 lo:4≤p
 hi:p≤T.length
 vlo:2≤p+rdE .i T p
 vhi:p+rdE .i T p≤T.length
 fit:∀i:Nat,(4+2*(i:Int))<rdE .H T (p+rdE .i T p)→4+2*(i:Int)+2≤p+rdE .i T p
 sl:∀i:Nat,(if (4+2*(i:Int))<rdE .H T (p+rdE .i T p) then rdE .H T (p+rdE .i T p-(4+2*(i:Int))) else 0)=(match L[i]? with|some q=>if q=0 then 0 else p-q|none=>0)
theorem p7.app {T:List UInt8} {p:Int} {L:List Int} (h:p7 T p L) (X:List UInt8):p7 (X++T) p L:=by
 obtain ⟨h1,h2,h3,h4,h5,h6⟩:=h
 have e1:rdE .i (X++T) p=rdE .i T p:=gT X h2
 have e2:rdE .H (X++T) (p+rdE .i T p)=rdE .H T (p+rdE .i T p):=gT X h4
 have hl:(X++T).length=X.length+T.length:=List.length_append
 refine ⟨h1,by exact (lin [_] [_,_,_] aa af 1 [.i 1 aa am,.j 1 bC ab] rfl h2 (Nat.le_of_eq (Eq.symm hl))),by rw [e1];exact h3,by rw [e1];exact (lin [_,_] [_,_,_] bl af 1 [.i 1 bl am,.j 1 bC ab] rfl h4 (Nat.le_of_eq (Eq.symm hl))),fun i=>by rw [e1,e2];exact h5 i,fun i=>?_⟩
 rw [e1,e2,gT X (by exact lin [_,_] [_,_] (.s bl (.a ao bD)) am 1 [.i 1 bl am] rfl h4)]
 exact h6 i
structure VtE (T:List UInt8) (vp:Int) (ks:List Int):Prop where
 lo:2*((ks.length:Int)+2)≤vp
 hi:vp≤T.length
 sz:rdE .H T vp=2*((ks.length:Int)+2)
 en:∀i:Nat,i<ks.length→some (rdE .H T (vp-(4+2*(i:Int))))=ks.reverse[i]?
theorem VtE.app {T:List UInt8} {vp:Int} {ks:List Int} (h:VtE T vp ks) (X:List UInt8):VtE (X++T) vp ks:=by
 obtain ⟨h1,h2,h3,h4⟩:=h
 have hl:(X++T).length=X.length+T.length:=List.length_append
 refine ⟨h1,by exact (lin [_] [_,_,_] aa af 1 [.i 1 aa am,.j 1 bC ab] rfl h2 (Nat.le_of_eq (Eq.symm hl))),by rw [gT X h2];exact h3,fun i hi=>?_⟩
 rw [gT X (by exact lin [_] [_,_] (.s aa (.a ao bD)) am 1 [.i 1 aa am] rfl h2)];exact h4 i hi
noncomputable def tL (T:List UInt8) (vts:List (P × P)):Prop:=∀x∈vts,∃ks osz vp,x.1=kT (ks++[osz])∧x.2=.int vp∧VtE T vp ks
theorem tL.app {T:List UInt8} {vts:List (P × P)} (h:tL T vts) (X:List UInt8):tL (X++T) vts:=fun x hx=>
 e3c (h x hx) fun ks osz vp h1 h2 h3=>⟨ks,osz,vp,h1,h2,h3.app X⟩
noncomputable def slf (ob q:Int):Int:=if q=0 then 0 else ob-q
theorem rU (ob:Int) (ys:List Int):gK ob false ys=ys.map (slf ob):=by
 induction ys with
 |nil=>rfl
 |cons y ys ih=>exact congrArg (slf ob y::·) ih
theorem ua (ob:Int) (ys:List Int):∃z ys',ys=List.replicate z 0++ys'∧gK ob true ys=ys'.map (slf ob):=by
 induction ys with
 |nil=>exact ⟨0,[],rfl,rfl⟩
 |cons y ys ih=>
  by_cases h:y=0
  ·refine e2b ih fun z ys' e1 e2=>?_
   exact ⟨z+1,ys',by rw [e1,h];rfl,by rw [h,mC];exact e2⟩
  ·refine ⟨0,y::ys,rfl,?_⟩
   rw [pB h,rU]
   exact congrArg (·::_) (if_neg h).symm
theorem tp (ob:Int) (l:List Int):∃z l',l=l'++List.replicate z 0∧(gK ob true l.reverse).reverse=l'.map (slf ob):=by
 refine e2b (ua ob l.reverse) fun z ys' e1 e2=>?_
 refine ⟨z,ys'.reverse,?_,by rw [e2,List.map_reverse]⟩
 rw [←List.reverse_reverse (as:=l),e1,List.reverse_append,List.reverse_replicate]
theorem zS (a:Ab) (x:Int) (h:a.T.length % 2=0):(cU a .H x).T=le 2 x++a.T:=by
 refine (?_:le 2 x++(List.replicate (lp a.T.length 0 2).toNat 0++a.T)=_)
 rw [show lp a.T.length 0 2=0 by unfold lp;lia];rfl
theorem xc (ks:List Int) (a:Ab) (h:a.T.length % 2=0):(ez a ks).T=(ks.reverse.map (le 2)).flatten++a.T∧(ez a ks).T.length=a.T.length+2*ks.length:=by
 induction ks generalizing a with
 |nil=>exact ⟨rfl,rfl⟩
 |cons k ks ih=>
  have e:=zS a k h
  have el:(cU a .H k).T.length=a.T.length+2:=by rw [e,List.length_append,dg,Nat.add_comm]
  refine e0b (ih (cU a .H k) (by rw [el,Nat.add_mod_right];exact h)) fun h1 h2=>?_
  refine ⟨h1.trans ?_,h2.trans ?_⟩
  ·rw [e,List.reverse_cons,List.map_append,List.flatten_append,List.append_assoc];rfl
  ·rw [el,List.length_cons];exact Nat.le_antisymm (cT [] [_,_] (.a (.a ab aG) bM) (.a ab (.m 2 bc)) 1 [] rfl) (cT [] [_,_] (.a ab (.m 2 bc)) (.a (.a ab aG) bM) 1 [] rfl)
theorem kY (rs:List Int):((rs.map (le 2)).flatten).length=2*rs.length:=by
 induction rs with
 |nil=>rfl
 |cons r rs ih=>rw [List.map_cons,List.flatten_cons,List.length_append,dg,ih,List.length_cons];exact Nat.le_antisymm (cT [] [_] (.a aG bj) cG 1 [] rfl) (cT [] [_] cG (.a aG bj) 1 [] rfl)
theorem v5 {T:List UInt8}:∀(rs:List Int),(∀r∈rs,0≤r∧r≤65535)→∀i:Nat,i<rs.length→some (rdE .H ((rs.map (le 2)).flatten++T) (T.length+2*rs.length-2*(i:Int)))=rs[i]?
 |[],_,i,hi=>by simp at hi
 |r::rs,h,i,hi=>by
  have hr:=h r List.mem_cons_self
  have hl:=kY rs
  cases i with
  |zero=>
   rw [List.map_cons,List.flatten_cons,List.append_assoc]
   have:=lw (F:=.H) (T:=(rs.map (le 2)).flatten++T) hr.1 hr.2
   have e:((T.length:Int)+2*((r::rs).length:Int)-2*((0:Nat):Int))=(((rs.map (le 2)).flatten++T).length:Int)+(Fm.H).w:=by
    rw [List.length_append,hl,List.length_cons];simp only [Fm.w];exact Int.le_antisymm (lin [] [_,_] (.s (.a af (.m 2 cJ)) (.m 2 bQ)) (.a (.c (.a bM ab)) (.c aG)) 1 [] rfl) (lin [] [_,_] (.a (.c cN) (.c aG)) (.s (.a am (.m 2 (.c a8))) (.m 2 bQ)) 1 [] rfl)
   rw [e]
   exact congrArg some this
  |succ i=>
   rw [List.map_cons,List.flatten_cons,List.append_assoc,gT _ (by rw [List.length_append,hl,List.length_cons];exact lin [] [_,_,_] (.s (.a af (.m 2 cJ)) (.m 2 (.c bt))) (.c (.a bM ab)) 1 [] rfl)]
   have:=v5 (T:=T) rs (fun x hx=>h x (List.mem_cons_of_mem _ hx)) i (by simpa using hi)
   rw [List.getElem?_cons_succ,←this,List.length_cons]
   congr 2
   exact Int.le_antisymm (lin [] [_,_,_] (.s (.a af (.m 2 cJ)) (.m 2 (.c bt))) (.s (.a af bN) bV) 1 [] rfl) (lin [] [_,_,_] (.s (.a af bN) bV) (.s (.a af (.m 2 cJ)) (.m 2 (.c bt))) 1 [] rfl)
theorem BE (a:Ab):∃x,(fO a 0).T=le 4 x++(List.replicate (lp a.T.length 0 4).toNat 0++a.T):=⟨_,rfl⟩
theorem xA (a:Ab):((fO a 0).T.length:Int) % 4=0:=by
 have h:=iz a 0
 have h2:=(dB a (s:=4) (add:=0) (by unfold gX;exact Or.inr (Or.inr (Or.inl (Int.le_antisymm (lin [] [] ao ao 1 [] rfl) (lin [] [] ao ao 1 [] rfl)))))).2
 have h3:lp a.T.length 0 4=(-((a.T.length:Int)+0)) % 4:=rfl
 lia
structure DF (a a':Ab) (l:List Int) (ob:Int):Prop where
 suf:∃X,a'.T=X++a.T
 tab:p7 a'.T ob l
 vts:tL a'.T a'.vts
 vtn:a'.vts.length≤a.vts.length+1
 vk:∀x∈a'.vts,BP x.1∧∃v,x.2=.int v∧0≤v∧v≤a'.T.length
 len:(a'.T.length:Int)≤a.T.length+11+2*l.length
 obl:ob≤a'.T.length
 vt:a'.vt=none
 nested:a'.nested=a.nested
 force:a'.force=a.force
 fin:a'.fin=a.fin
 mal:a'.mal=if a.mal<4 then 4 else a.mal
theorem oR {A U:List UInt8} {ob x:Int} (h:(U.length:Int)+4≤ob) (hob:ob≤(A++U).length):∃Y,fR (A++U) ob x=Y++U:=by
 unfold fR
 have h2:(A++U).length-ob.toNat+4≤A.length:=by rw [List.length_append] at hob ⊢;exact cT [_] [_,_,_,_] b6 ae 1 [.i 1 b9 aa,.i 1 aa ax,.j 1 (.a ab av) bp] rfl h (Int.le_of_eq (Eq.symm (Int.toNat_of_nonneg (lin [_] [_] ai aa 1 [.i 1 bu aa] rfl h)))) (Nat.le_of_eq (Nat.sub_add_cancel (cT [_] [_,_,_] ab bp 1 [.i 1 aa (.c bp),.i 1 af aa] rfl hob (Int.le_of_eq (Int.toNat_of_nonneg (lin [_] [_] ai aa 1 [.i 1 bu aa] rfl h))))))
 refine ⟨(A++U).take ((A++U).length-ob.toNat)++le 4 x++A.drop ((A++U).length-ob.toNat+4),?_⟩
 rw [List.drop_append_of_le_length h2,List.append_assoc,List.append_assoc,List.append_assoc]
theorem Aa {ks ks':List Int} {o o':Int} (h:kT (ks++[o])=kT (ks'++[o'])):ks=ks':=by
 have:=vM.mp h
 have:=congrArg List.dropLast this
 simpa using this
theorem yg {es:List (P × P)} {k z:P} (h:iQ es k=some z):(k,z)∈es:=by
 unfold iQ at h
 cases q:es.find? fun x=>eqB x.1 k with
 |none=>rw [q] at h;exact ns h
 |some x=>
  rw [q] at h;obtain rfl:=sj h
  have h1:=List.find?_some q
  have h2:=List.mem_of_find?_eq_some q
  have h3:=jv.mp h1
  rw [←h3];exact h2
theorem qc {T:List UInt8} {ob vp:Int} {l:List Int} {ks:List Int} (h0:4≤ob) (h1:ob≤T.length) (hv:VtE T vp ks) (hs:rdE .i T ob=vp-ob) (hk:∃z l',l=l'++List.replicate z 0∧ks.reverse=l'.map (slf ob)):p7 T ob l:=by
 obtain ⟨v1,v2,v3,v4⟩:=hv
 have e:ob+rdE .i T ob=vp:=by exact Int.le_antisymm (lin [_,_,_] [] bl aB 1 [.i 1 an (.s aB aa)] rfl (Int.le_of_eq hs)) (lin [_,_,_] [] aa (.a an aB) 1 [.i 1 bi aB] rfl (Int.le_of_eq (Eq.symm hs)))
 refine ⟨h0,h1,by exact (lin [_,_,_] [_] aA bl 1 [.i 1 (.s aB aa) an,.i 1 (.m 2 bF) aB] rfl (Int.le_of_eq (Eq.symm hs)) v1),by exact (lin [_,_,_] [_] bl af 1 [.i 1 an (.s aB aa),.i 1 aB af] rfl (Int.le_of_eq hs) v2),fun i hi=>by rw [e] at hi ⊢;lia,fun i=>?_⟩
 rw [e,v3]
 refine e2b hk fun z l' e1 e2=>?_
 have hlen:l'.length=ks.length:=by have:=congrArg List.length e2;simpa using this.symm
 by_cases hi:i<ks.length
 ·rw [if_pos (by exact lin [] [_,_] (.a (.a ao bD) ap) (.m 2 b8) 1 [.j 2 a8 ae] rfl hi)]
  have h3:=v4 i hi
  rw [e2,List.getElem?_map] at h3
  have h4:l[i]? = l'[i]?:=by rw [e1,List.getElem?_append_left (by exact cT [] [_,_,_] a8 ae 1 [.j 1 ak ae,.j 1 a8 ak] rfl (Nat.le_of_eq (Eq.symm hlen)) hi)]
  rw [h4]
  rw [List.getElem?_eq_getElem (by exact cT [] [_,_,_] a8 ae 1 [.j 1 ak ae,.j 1 a8 ak] rfl (Nat.le_of_eq (Eq.symm hlen)) hi)] at h3 ⊢
  simp only [Option.map_some,Option.some.injEq] at h3
  rw [h3];rfl
 ·rw [if_neg (by exact Int.not_lt.mpr (lin [] [_,_] (.m 2 bF) cF 1 [.j 2 ab ae] rfl (Nat.not_lt.mp hi)))]
  have h4:l[i]? = none∨l[i]? = some 0:=by
   rw [e1,List.getElem?_append_right (by exact cT [] [_,_,_] ab ae 1 [.j 1 ab ak,.j 1 ak ae] rfl (Nat.le_of_eq hlen) (Nat.not_lt.mp hi)),List.getElem?_replicate]
   split
   ·exact .inr rfl
   ·exact .inl rfl
  rcases h4 with h4|h4<;>rw [h4]
  rfl
end
section
theorem rC (ks:List Int) (a:Ab) (h:2≤a.mal):(ez a ks).mal=a.mal∧(ez a ks).vts=a.vts∧(ez a ks).nested=a.nested∧(ez a ks).force=a.force∧(ez a ks).fin=a.fin:=by
 induction ks generalizing a with
 |nil=>exact ⟨rfl,rfl,rfl,rfl,rfl⟩
 |cons k ks ih=>
  have e:(cU a .H k).mal=a.mal:=if_neg (Int.not_lt.mpr h)
  have h0:=ih (cU a .H k) (by rw [e];exact h)
  exact ⟨h0.1.trans e,h0.2⟩
theorem xB (a:Ab):(fO a 0).mal=if a.mal<4 then 4 else a.mal:=rfl
theorem vL {l:List Int} {ob:Int} (h:∀e∈l,e=0∨(0<e∧e≤ob∧ob-e≤65535)):∀r∈(gK ob true l.reverse).reverse,0≤r∧r≤65535:=by
 refine e2b (tp ob l) fun z l' e1 e2=>?_
 rw [e2]
 intro r hr
 refine e1b (List.mem_map.mp hr) fun q hq zq2=>?_;clear hr e2;subst zq2
 have:=h q (by rw [e1];exact List.mem_append_left _ hq)
 unfold slf
 clear h hq e1 l' z;split
 ·exact And.intro (lin [] [] ai ai 1 [] rfl) (lin [] [] ai aW 1 [] rfl)
 ·clear l;rcases this with h'|h'<;>(first|exact (And.intro (False.elim (y3 [_] [] [.i 1 (.n 0) (.v 0), .i 1 (.a (.v 0) (.n 1)) (.n 0)] rfl (Int.le_of_eq (Eq.symm h')) (Int.lt_iff_le_and_ne.mpr (And.intro (lin [_] [] aa ai 1 [.i 1 aa ai] rfl (Int.le_of_eq h')) (by assumption))))) (False.elim (y3 [_] [] [.i 1 (.n 0) (.v 0), .i 1 (.a (.v 0) (.n 1)) (.n 0)] rfl (Int.le_of_eq (Eq.symm h')) (Int.lt_iff_le_and_ne.mpr (And.intro (lin [_] [] aa ai 1 [.i 1 aa ai] rfl (Int.le_of_eq h')) (by assumption))))))|exact And.intro (lin [_,_] [] ai bi 1 [.i 1 an aa] rfl (And.left (And.right h'))) (lin [_,_] [] bi aW 1 [.i 1 bi aW] rfl (And.right (And.right h'))))
theorem yM {a:Ab} {l:List Int} {e0:Int} (hp:wO a l e0) (hv:tL a.T a.vts):DF a (wvA a l e0) l (fO a 0).T.length:=by
 obtain ⟨hpT,hpl,hpe,hpo,hpk,hpn⟩:=hp
 refine e1a (BE a) fun x hT1=>?_
 have hmod:=xA a
 have hrl:=iz a 0
 have hq:=dB a (s:=4) (add:=0) (by unfold gX;exact Or.inr (Or.inr (Or.inl (Int.le_antisymm (lin [] [] ao ao 1 [] rfl) (lin [] [] ao ao 1 [] rfl)))))
 have hq2:=dR (n:=a.T.length) (add:=0) (s:=4) (by unfold gX;exact Or.inr (Or.inr (Or.inl (Int.le_antisymm (lin [] [] ao ao 1 [] rfl) (lin [] [] ao ao 1 [] rfl)))))
 have hkey:=tp (fO a 0).T.length l
 have hkr:=vL hpe
 have hkl:=qH (fO a 0).T.length true l.reverse
 rw [List.length_reverse] at hkl
 have hm1:=xB a
 have f1:(fO a 0).vts=a.vts:=rfl
 have f2:(fO a 0).nested=a.nested:=rfl
 have f3:(fO a 0).force=a.force:=rfl
 have f4:(fO a 0).fin=a.fin:=rfl
 generalize hw:wvA a l e0=a'
 unfold wvA wvC zj at hw
 rw [f1] at hw
 generalize ha1:fO a 0=a1 at *
 generalize hob:(a1.T.length:Int)=ob at *
 generalize hk:gK ob true l.reverse=key at *
 have vkOf:∀{T:List UInt8} {vts:List (P × P)},tL T vts→∀x∈vts,BP x.1∧∃v,x.2=.int v∧0≤v∧v≤T.length:=fun hE y hy=>by
  refine e3c (hE y hy) fun ks osz vp g1 g2 g3=>?_
  have:=g3.lo;have:=g3.hi
  exact ⟨⟨_,g1⟩,vp,g2,by exact (lin [_] [_] ai aa 1 [.i 1 (.m 2 bF) aa] rfl (by assumption)),by exact lin [_] [_] aa af 1 [.i 1 aa af] rfl this⟩
 cases hd:iQ a.vts (kT (key++[ob-e0])) with
 |some z=>
  have hmem:=yg hd
  refine e3c (hv _ hmem) fun ks osz vp g1 g2 g3=>?_
  have hks:key=ks:=Aa g1
  clear hk ha1 g1 hpn hpk hpo hpe hmem hmod osz;subst hks
  dsimp only at g2
  subst g2
  rw [hd] at hw
  have hw:{a1 with T:=fR a1.T ob (vp-ob),vt:=none}=a':=hw
  subst hw
  have hA:a1.T=(le 4 x++List.replicate (lp a.T.length 0 4).toNat 0)++a.T:=by rw [hT1,List.append_assoc]
  obtain ⟨Y,hY⟩:∃Y,fR a1.T ob (vp-ob)=Y++a.T:=by
   rw [hA];exact oR (by exact lin [_] [_,_] bu aa 1 [.i 1 af am,.i 1 bz aa] rfl (And.left hq) (Int.le_of_eq (Eq.symm hrl))) (by rw [←hA];exact lin [_] [_] aa af 1 [.i 1 aa af] rfl (Int.le_of_eq (Eq.symm hob)))
  have hpl2:=jc (T:=a1.T) (ob:=ob) (x:=vp-ob) (by exact lin [_] [_,_] ao aa 1 [.i 1 af am,.i 1 bz aa] rfl (And.left hq) (Int.le_of_eq (Eq.symm hrl))) (by exact lin [_] [_] aa af 1 [.i 1 aa af] rfl (Int.le_of_eq (Eq.symm hob)))
  have g4:=g3.app Y
  rw [←hY] at g4
  have g5:=g3.hi;have g6:=g3.lo
  exact {
   suf:=⟨Y,hY⟩
   tab:=qc (by exact lin [_,_] [_,_,_] ao aa 1 [.i 1 af am,.i 1 bz aa,.i 1 an af,.i 1 (.m 2 bX) an] rfl (And.left hq) (Int.le_of_eq (Eq.symm hrl)) g5 g6) (by refine (?_:ob≤((fR a1.T ob (vp-ob)).length:Int));exact lin [_] [_,_] aa af 1 [.i 1 aa am,.j 1 ae ab] rfl (Int.le_of_eq (Eq.symm hob)) (Nat.le_of_eq (Eq.symm hpl2))) g4 (qv (by exact lin [_,_] [_,_,_] ao aa 1 [.i 1 af am,.i 1 bz aa,.i 1 an af,.i 1 (.m 2 bX) an] rfl (And.left hq) (Int.le_of_eq (Eq.symm hrl)) g5 g6) (by exact lin [_] [_] aa af 1 [.i 1 aa af] rfl (Int.le_of_eq (Eq.symm hob))) (by exact lin [_,_,_] [_,_,_] aD bi 1 [.j 1 ab aZ,.i 1 am (.a af aB),.i 1 (.a aB ap) ao,.i 1 an bz,.i 1 (.m 2 bX) aa] rfl hpT (Int.le_of_eq (And.right hq)) (And.right hq2) (Int.le_of_eq hrl) g6) (by exact lin [_,_] [_,_] bi aY 1 [.i 1 af am,.i 1 bz an,.i 1 aa af] rfl (And.left hq) (Int.le_of_eq (Eq.symm hrl)) g5)) hkey
   vts:=by refine (?_:tL (fR a1.T ob (vp-ob)) a1.vts);rw [hY,f1];exact hv.app Y
   vtn:=by refine (?_:a1.vts.length≤_);rw [f1];exact cT [] [_] ab a8 1 [] rfl
   vk:=by
    have:tL (fR a1.T ob (vp-ob)) a1.vts:=by rw [hY,f1];exact hv.app Y
    exact vkOf this
   len:=by refine (?_:((fR a1.T ob (vp-ob)).length:Int)≤_);exact lin [_,_] [_,_,_,_,_] af (.a (.a am (.n 11)) bV) 1 [.i 1 ax bR,.i 1 be ao,.i 1 aK an,.i 1 an cm,.j 1 ab az] rfl (Int.le_of_eq (And.right hq)) (And.right hq2) (Int.le_of_eq hob) (Int.le_of_eq hrl) (Nat.le_of_eq hpl2)
   obl:=by refine (?_:ob≤((fR a1.T ob (vp-ob)).length:Int));exact lin [_] [_,_] aa af 1 [.i 1 aa am,.j 1 ae ab] rfl (Int.le_of_eq (Eq.symm hob)) (Nat.le_of_eq (Eq.symm hpl2))
   vt:=rfl
   nested:=f2
   force:=f3
   fin:=f4
   mal:=hm1}
 |none=>
  rw [hd] at hw
  have hw:{n9 a1 key (ob-e0) with T:=fR (n9 a1 key (ob-e0)).T ob ((n9 a1 key (ob-e0)).T.length-ob),vts:=o5 a1.vts (kT (key++[ob-e0])) (.int (n9 a1 key (ob-e0)).T.length),vt:=none}=a':=hw
  unfold n9 at hw
  rw [f1] at hw
  have hm2:2≤a1.mal:=by rw [hm1];clear hpn hpk hpo hpe hpT f1 hmod;split<;>(first|exact (lin [] [] aA ao 1 [] rfl)|exact lin [_] [] aA aa 1 [.i 1 ao aa] rfl (Int.not_lt.mp (by assumption)))
  refine e0e (rC key a1 hm2) fun s1 s2 s3 s4 s5=>?_
  refine e0b (xc key a1 (by lia)) fun t1 t2=>?_
  have e1:=zS (ez a1 key) (ob-e0) (by lia)
  have l1:(cU (ez a1 key) .H (ob-e0)).T.length=(ez a1 key).T.length+2:=by rw [e1,List.length_append,dg];exact Nat.le_antisymm (cT [] [_] (.a aG ab) (.a ab aG) 1 [] rfl) (cT [] [_] (.a ab aG) (.a aG ab) 1 [] rfl)
  have e2:=zS (cU (ez a1 key) .H (ob-e0)) (((key.length:Int)+2)*2) (by lia)
  have l2:(cU (cU (ez a1 key) .H (ob-e0)) .H (((key.length:Int)+2)*2)).T.length=(ez a1 key).T.length+4:=by rw [e2,List.length_append,dg];exact Nat.le_antisymm (cT [] [_,_] (.a aG ab) (.a ae aF) 1 [.j 1 ab (.a ae aG)] rfl (Nat.le_of_eq l1)) (cT [] [_,_] b6 (.a aG ae) 1 [.j 1 (.a ab aG) ae] rfl (Nat.le_of_eq (Eq.symm l1)))
  have m1:(cU (ez a1 key) .H (ob-e0)).mal=a1.mal:=(if_neg (by refine (?_:¬(ez a1 key).mal<2);exact Int.not_lt.mpr (lin [_,_] [] aA aa 1 [.i 1 aA an,.i 1 an aa] rfl hm2 (Int.le_of_eq (Eq.symm s1))))).trans s1
  have m2:(cU (cU (ez a1 key) .H (ob-e0)) .H (((key.length:Int)+2)*2)).mal=a1.mal:=(if_neg (by refine (?_:¬(cU (ez a1 key) .H (ob-e0)).mal<2);exact Int.not_lt.mpr (lin [_,_] [] aA aa 1 [.i 1 aA an,.i 1 an aa] rfl hm2 (Int.le_of_eq (Eq.symm m1))))).trans m1
  have n1:(cU (cU (ez a1 key) .H (ob-e0)) .H (((key.length:Int)+2)*2)).nested=a1.nested:=s3
  have n2:(cU (cU (ez a1 key) .H (ob-e0)) .H (((key.length:Int)+2)*2)).force=a1.force:=s4
  have n3:(cU (cU (ez a1 key) .H (ob-e0)) .H (((key.length:Int)+2)*2)).fin=a1.fin:=s5
  clear hpn hpk hpo hpe hpT m1 l1 hm2 f1 hmod;generalize cU (cU (ez a1 key) .H (ob-e0)) .H (((key.length:Int)+2)*2)=a2 at *
  rw [e1,t1] at e2
  have hA:a2.T=(le 2 (((key.length:Int)+2)*2)++(le 2 (ob-e0)++((key.reverse.map (le 2)).flatten++(le 4 x++List.replicate (lp a.T.length 0 4).toNat 0))))++a.T:=by
   rw [e2,hT1];simp only [List.append_assoc]
  have hlen2:(a2.T.length:Int)=ob+2*key.length+4:=by exact Int.le_antisymm (lin [_] [_,_,_,_] af (.a (.a aa bN) ao) 1 [.i 1 au aa,.j 1 av (.a ak bM),.j 1 ab bK] rfl (Int.le_of_eq hob) (Nat.le_of_eq t2) (Nat.le_of_eq l2)) (lin [_] [_,_,_,_] (.a (.a aa bD) ao) am 1 [.i 1 aa au,.j 1 (.a ak bj) av,.j 1 bK ae] rfl (Int.le_of_eq (Eq.symm hob)) (Nat.le_of_eq (Eq.symm t2)) (Nat.le_of_eq (Eq.symm l2)))
  clear hlen2 e1;obtain ⟨Y,hY⟩:∃Y,fR a2.T ob (a2.T.length-ob)=Y++a.T:=by
   rw [hA];exact oR (by exact lin [_] [_,_] bu aa 1 [.i 1 af am,.i 1 bz aa] rfl (And.left hq) (Int.le_of_eq (Eq.symm hrl))) (by rw [←hA];exact lin [_] [_,_,_,_] aa af 1 [.i 1 aa am,.j 1 cI av,.j 1 bK ab] rfl (Int.le_of_eq (Eq.symm hob)) (Nat.le_of_eq (Eq.symm t2)) (Nat.le_of_eq (Eq.symm l2)))
  have hpl2:=jc (T:=a2.T) (ob:=ob) (x:=(a2.T.length:Int)-ob) (by exact lin [_] [_,_] ao aa 1 [.i 1 af am,.i 1 bz aa] rfl (And.left hq) (Int.le_of_eq (Eq.symm hrl))) (by exact lin [_] [_,_,_,_] aa af 1 [.i 1 aa am,.j 1 cI av,.j 1 bK ab] rfl (Int.le_of_eq (Eq.symm hob)) (Nat.le_of_eq (Eq.symm t2)) (Nat.le_of_eq (Eq.symm l2)))
  have hvt:VtE (fR a2.T ob (a2.T.length-ob)) a2.T.length key:=by
   refine ⟨by exact (lin [_] [_,_,_,_,_,_] (.m 2 bF) am 1 [.i 1 au ax,.i 1 aa aK,.i 1 cm aa,.j 1 (.a az bj) aL,.j 1 (.a aL aF) ae] rfl (And.left hq) (Int.le_of_eq (Eq.symm hob)) (Int.le_of_eq (Eq.symm hrl)) (Nat.le_of_eq (Eq.symm t2)) (Nat.le_of_eq (Eq.symm l2))),by exact (lin [] [_,_] af am 1 [.j 1 ab ae] rfl (Nat.le_of_eq (Eq.symm hpl2))),?_,fun i hi=>?_⟩
   ·rw [lR (by exact lin [_] [_,_] ao aa 1 [.i 1 af am,.i 1 bz aa] rfl (And.left hq) (Int.le_of_eq (Eq.symm hrl))) (by exact lin [_] [_,_,_,_] aa af 1 [.i 1 aa am,.j 1 cI av,.j 1 bK ab] rfl (Int.le_of_eq (Eq.symm hob)) (Nat.le_of_eq (Eq.symm t2)) (Nat.le_of_eq (Eq.symm l2))) (by simp only [Fm.w];exact lin [_] [_,_,_,_] aa (.s af (.c aG)) 1 [.i 1 aa am,.j 1 cI av,.j 1 bK ab] rfl (Int.le_of_eq (Eq.symm hob)) (Nat.le_of_eq (Eq.symm t2)) (Nat.le_of_eq (Eq.symm l2))) (by exact lin [] [_] af af 1 [] rfl)]
    have:=lw (F:=.H) (T:=le 2 (ob-e0)++((key.reverse.map (le 2)).flatten++a1.T)) (x:=((key.length:Int)+2)*2) (by simp only [Fm.lo];exact lin [] [_] ai (.r bF 2) 1 [] rfl) (by simp only [Fm.hi];exact lin [] [_,_] (.r bF 2) aW 1 [.j 2 ae aI,.j 2 ab ae] rfl hpl hkl)
    have e3:(a2.T.length:Int)=(le 2 (ob-e0)++((key.reverse.map (le 2)).flatten++a1.T)).length+(Fm.H).w:=by
     rw [List.length_append,List.length_append,dg,kY,List.length_reverse];simp only [Fm.w];exact Int.le_antisymm (lin [] [_,_,_,_] af (.a (.c (.a aG (.a bM ak))) (.c aG)) 1 [.j 1 av (.a ak bM),.j 1 ab bK] rfl (Nat.le_of_eq t2) (Nat.le_of_eq l2)) (lin [] [_,_,_,_] (.a (.c (.a aG cN)) (.c aG)) au 1 [.j 1 (.a ae bj) av,.j 1 bK ak] rfl (Nat.le_of_eq (Eq.symm t2)) (Nat.le_of_eq (Eq.symm l2)))
    rw [e3,e2]
    exact this.trans (by exact Int.le_antisymm (lin [] [_] (.r bF 2) (.m 2 bF) 1 [] rfl) (lin [] [_] (.m 2 bF) (.r bF 2) 1 [] rfl))
   ·rw [lR (by exact lin [_] [_,_] ao aa 1 [.i 1 af am,.i 1 bz aa] rfl (And.left hq) (Int.le_of_eq (Eq.symm hrl))) (by exact lin [_] [_,_,_,_,_] aa af 1 [.i 1 aa am,.j 1 cI av,.j 1 bK ab,.j 2 (.a az aj) ak] rfl (Int.le_of_eq (Eq.symm hob)) (Nat.le_of_eq (Eq.symm t2)) (Nat.le_of_eq (Eq.symm l2)) hi) (by simp only [Fm.w];exact lin [_] [_,_,_,_,_] aa (.s (.s af cF) (.c aG)) 1 [.i 1 aa au,.j 1 (.a ak (.m 2 av)) az,.j 1 (.a az aF) ab,.j 2 bc av] rfl (Int.le_of_eq (Eq.symm hob)) (Nat.le_of_eq (Eq.symm t2)) (Nat.le_of_eq (Eq.symm l2)) hi) (by exact lin [] [_,_] (.s af cF) af 1 [] rfl)]
    have:=v5 (T:=a1.T) key.reverse hkr i (by rw [List.length_reverse];exact hi)
    rw [←this,e2,gT _ (by simp only [List.length_append,dg,kY,List.length_reverse];exact lin [] [_,_,_] (.s (.c (.a aG (.a aG cN))) (.a ao bV)) (.c (.a aG cN)) 1 [] rfl),gT _ (by simp only [List.length_append,dg,kY,List.length_reverse];exact lin [] [_,_,_] (.s (.c (.a aG (.a aG cN))) (.a ao bV)) (.c cN) 1 [] rfl),List.length_reverse]
    congr 2
    simp only [List.length_append,dg,kY,List.length_reverse];exact Int.le_antisymm (lin [] [_,_,_] (.s (.c (.a aG (.a aG cN))) (.a ao bV)) (.s (.a am bD) bV) 1 [] rfl) (lin [] [_,_,_] (.s (.a af bN) bV) (.s (.c (.a aG (.a aG (.a bM ab)))) (.a ao bV)) 1 [] rfl)
  have hvts:tL (fR a2.T ob (a2.T.length-ob)) (o5 a.vts (kT (key++[ob-e0])) (.int a2.T.length)):=by
   have hds:o5 a.vts (kT (key++[ob-e0])) (.int a2.T.length)=a.vts++[(kT (key++[ob-e0]), .int a2.T.length)]:=by unfold o5;rw [hd]
   rw [hds]
   intro y hy
   rcases List.mem_append.mp hy with hy|hy
   ·have:=hv.app Y
    rw [←hY] at this
    exact this y hy
   ·simp at hy;clear hk ha1 hv;subst hy
    exact ⟨key,ob-e0,a2.T.length,rfl,rfl,hvt⟩
  subst hw
  exact {
   suf:=⟨Y,hY⟩
   tab:=qc (by exact lin [_] [_,_] ao aa 1 [.i 1 af am,.i 1 bz aa] rfl (And.left hq) (Int.le_of_eq (Eq.symm hrl))) (by refine (?_:ob≤((fR a2.T ob (a2.T.length-ob)).length:Int));exact lin [_] [_,_,_,_,_] aa af 1 [.i 1 aa am,.j 1 cI av,.j 1 bK az,.j 1 az ab] rfl (Int.le_of_eq (Eq.symm hob)) (Nat.le_of_eq (Eq.symm t2)) (Nat.le_of_eq (Eq.symm l2)) (Nat.le_of_eq (Eq.symm hpl2))) hvt (qv (by exact lin [_] [_,_] ao aa 1 [.i 1 af am,.i 1 bz aa] rfl (And.left hq) (Int.le_of_eq (Eq.symm hrl))) (by exact lin [_] [_,_,_,_] aa af 1 [.i 1 aa am,.j 1 cI av,.j 1 bK ab] rfl (Int.le_of_eq (Eq.symm hob)) (Nat.le_of_eq (Eq.symm t2)) (Nat.le_of_eq (Eq.symm l2))) (by exact lin [_] [_,_,_,_] aD bf 1 [.i 1 aa am,.j 1 cI av,.j 1 bK ab] rfl (Int.le_of_eq (Eq.symm hob)) (Nat.le_of_eq (Eq.symm t2)) (Nat.le_of_eq (Eq.symm l2))) (by exact lin [_] [_,_,_,_,_] bf aY 1 [.j 2 ae aI,.i 1 au aa,.j 2 av ae,.j 1 az (.a ak (.m 2 av)),.j 1 ab (.a az aF)] rfl hpl (Int.le_of_eq hob) hkl (Nat.le_of_eq t2) (Nat.le_of_eq l2))) hkey
   vts:=hvts
   vtn:=by
    refine (?_:(o5 a.vts _ _).length≤_)
    unfold o5;rw [hd];simp
   vk:=vkOf hvts
   len:=by refine (?_:((fR a2.T ob (a2.T.length-ob)).length:Int)≤_);exact lin [_,_] [_,_,_,_,_,_,_,_] af (.a (.a am (.n 11)) bV) 1 [.i 1 ax bR,.i 1 be ao,.i 1 aK an,.i 1 an cm,.j 2 aL ak,.j 1 (.v 6) (.a az (.m 2 aL)),.j 1 (.v 7) (.a (.v 6) aF),.j 1 ab (.v 7)] rfl (Int.le_of_eq (And.right hq)) (And.right hq2) (Int.le_of_eq hob) (Int.le_of_eq hrl) hkl (Nat.le_of_eq t2) (Nat.le_of_eq l2) (Nat.le_of_eq hpl2)
   obl:=by refine (?_:ob≤((fR a2.T ob (a2.T.length-ob)).length:Int));exact lin [_] [_,_,_,_,_] aa af 1 [.i 1 aa am,.j 1 cI av,.j 1 bK az,.j 1 az ab] rfl (Int.le_of_eq (Eq.symm hob)) (Nat.le_of_eq (Eq.symm t2)) (Nat.le_of_eq (Eq.symm l2)) (Nat.le_of_eq (Eq.symm hpl2))
   vt:=rfl
   nested:=n1.trans f2
   force:=n2.trans f3
   fin:=n3.trans f4
   mal:=m2.trans hm1}
end
section
structure lq (F:Fm) (T:List UInt8) (q v:Int):Prop where
 lo:(F.w:Int)≤q
 hi:q≤T.length
 rd:rdE F T q=v
theorem lq.app {F:Fm} {T:List UInt8} {q v:Int} (h:lq F T q v) (X:List UInt8):lq F (X++T) q v:=
 ⟨h.lo,by have:=h.hi;rw [List.length_append];exact (lin [_] [_,_] aa (.c a9) 1 [.i 1 aa am] rfl this),(gT X h.hi).trans h.rd⟩
theorem lq.suf {F:Fm} {T T':List UInt8} {q v:Int} (h:lq F T q v) (hs:∃X,T'=X++T):lq F T' q v:=by refine e1a hs fun X zq1=>?_;clear hs;subst zq1;exact h.app X
theorem p7.suf {T T':List UInt8} {p:Int} {L:List Int} (h:p7 T p L) (hs:∃X,T'=X++T):p7 T' p L:=by refine e1a hs fun X zq1=>?_;clear hs;subst zq1;exact h.app X
theorem szF (F:Fm):gX F.w:=by cases F<;>simp [gX,Fm.w]
structure Sm (a a':Ab):Prop where
 suf:∃X,a'.T=X++a.T
 vt:a'.vt=a.vt
 nested:a'.nested=a.nested
 oe:a'.oe=a.oe
 force:a'.force=a.force
 fin:a'.fin=a.fin
 vts:a'.vts=a.vts
 mal:gX a.mal→gX a'.mal
theorem Sm.refl (a:Ab):Sm a a:=⟨⟨[],rfl⟩,rfl,rfl,rfl,rfl,rfl,rfl,fun h=>h⟩
theorem Sm.trans {a b c:Ab} (h:Sm a b) (h':Sm b c):Sm a c:=by
 refine e1a h.suf fun X hX=>?_
 refine e1a h'.suf fun Y hY=>?_
 exact ⟨⟨Y++X,by rw [hY,hX,List.append_assoc]⟩,h'.vt.trans h.vt,h'.nested.trans h.nested,h'.oe.trans h.oe,h'.force.trans h.force,h'.fin.trans h.fin,h'.vts.trans h.vts,fun q=>h'.mal (h.mal q)⟩
theorem mS (a:Ab) {s add:Int} (hs:gX s):Sm a (dy a s add):=⟨⟨_,rfl⟩,rfl,rfl,rfl,rfl,rfl,rfl,fun h=>by
 refine (?_:gX (if a.mal<s then s else a.mal))
 split
 ·exact hs
 ·exact h⟩
theorem sQ (a:Ab) (F:Fm) (x:Int):Sm a (j6 a F x):=⟨⟨_,rfl⟩,rfl,rfl,rfl,rfl,rfl,rfl,fun h=>h⟩
theorem jC (a:Ab) (F:Fm) (x:Int):Sm a (cU a F x):=(mS a (szF F)).trans (sQ _ F x)
theorem mR (a:Ab) (off:Int):Sm a (lQ a off):=(mS a (s:=4) sz4).trans (sQ _ _ _)
theorem rM (a:Ab) (F:Fm) (x:Int):(a.T.length:Int)+F.w≤(cU a F x).T.length∧((cU a F x).T.length:Int)≤a.T.length+16:=by
 have h:=dB a (s:=F.w) (add:=0) (szF F)
 have h2:=dR (n:=a.T.length) (add:=0) (s:=F.w) (szF F)
 have e:((cU a F x).T.length:Int)=(dy a F.w 0).T.length+F.w:=by
  refine (?_:((le F.w _++(dy a F.w 0).T).length:Int)=_)
  rw [List.length_append,dg];exact Int.le_antisymm (lin [] [_,_] (.c a9) (.a am af) 1 [] rfl) (lin [] [_,_] b7 (.c bT) 1 [] rfl)
 have h3:=szF F
 unfold gX at h3
 lia
theorem nh (a:Ab) {F:Fm} {x:Int} (h0:F.lo≤x) (h1:x≤F.hi):lq F (cU a F x).T (cU a F x).T.length x:=by
 have e:((cU a F x).T.length:Int)=(dy a F.w 0).T.length+F.w:=by
  refine (?_:((le F.w _++(dy a F.w 0).T).length:Int)=_)
  rw [List.length_append,dg];exact Int.le_antisymm (lin [] [_,_] (.c a9) (.a am af) 1 [] rfl) (lin [] [_,_] b7 (.c bT) 1 [] rfl)
 refine ⟨by exact (lin [] [_,_,_] af am 1 [.i 1 (.a au af) am] rfl (Int.le_of_eq (Eq.symm e))),Int.le_refl _,?_⟩
 rw [e]
 exact lw h0 h1
theorem kL (a:Ab) (off:Int):((lQ a off).T.length:Int)=(dy a 4 0).T.length+4∧(a.T.length:Int)+4≤(lQ a off).T.length∧((lQ a off).T.length:Int)≤a.T.length+8:=by
 have h:=dB a (s:=4) (add:=0) sz4
 have h2:=dR (n:=a.T.length) (add:=0) (s:=4) sz4
 have e:((lQ a off).T.length:Int)=(dy a 4 0).T.length+4:=by
  refine (?_:((le 4 _++(dy a 4 0).T).length:Int)=_)
  rw [List.length_append,dg];exact Int.le_antisymm (lin [] [_] (.c cz) bu 1 [] rfl) (lin [] [_] bu (.c cz) 1 [] rfl)
 exact And.intro (Int.le_antisymm (lin [] [_,_] af bz 1 [.i 1 af bz] rfl (Int.le_of_eq e)) (lin [] [_,_] bu am 1 [.i 1 bu am] rfl (Int.le_of_eq (Eq.symm e)))) (And.intro (lin [] [_,_,_] bu am 1 [.i 1 af au,.i 1 b9 am] rfl (And.left h) (Int.le_of_eq (Eq.symm e))) (lin [_] [_,_,_] af (.a am aT) 1 [.i 1 au bR,.i 1 be ao,.i 1 af b9] rfl (Int.le_of_eq (And.right h)) (And.right h2) (Int.le_of_eq e)))
theorem pu (a:Ab) {off:Int} (h0:0≤off) (h1:off≤(dy a 4 0).T.length) (h2:a.T.length≤1048576):lq .I (lQ a off).T (lQ a off).T.length ((lQ a off).T.length-off):=by
 have e:=kL a off
 refine ⟨by simp only [Fm.w];exact (lin [_] [_,_] (.c aF) af 1 [.i 1 ai aa,.i 1 aa am,.i 1 bz af] rfl h0 h1 (Int.le_of_eq (Eq.symm (And.left e)))),Int.le_refl _,?_⟩
 have h3:=lw (F:=.I) (T:=(dy a 4 0).T) (x:=(dy a 4 0).T.length-off+4) (by simp only [Fm.lo];exact lin [_] [_] ai cE 1 [.i 1 aa af] rfl h1) (by simp only [Fm.hi];exact lin [_] [_,_,_] cE aJ 1 [.i 1 ai aa,.j 1 ae aC,.i 1 bu au,.i 1 au (.a am aT)] rfl h0 h2 (Int.le_of_eq (Eq.symm (And.left e))) (And.right (And.right e)))
 rw [e.1]
 have e2:((dy a 4 0).T.length:Int)+4=(dy a 4 0).T.length+(Fm.I).w:=rfl
 exact h3.trans (by exact Int.le_antisymm (lin [_] [_] cE (.s bu aa) 1 [] rfl) (lin [_] [_] (.s bu aa) cE 1 [] rfl))
structure p5 (a0 a:Ab) (l:List Int):Prop where
 suf:∃X,a.T=X++a0.T
 vt:a.vt=some l
 oe:a.oe=.int a0.T.length
 nested:a.nested=true
 force:a.force=a0.force
 fin:a.fin=a0.fin
 vts:a.vts=a0.vts
 mal:gX a.mal
 ent:∀q∈l,q=0∨((a0.T.length:Int)<q∧q≤a.T.length)
theorem p5.start {a0:Ab} (hm:gX a0.mal) (n:Int):p5 a0 (dA a0 n) (List.replicate n.toNat 0):=
 ⟨⟨[],rfl⟩,rfl,rfl,rfl,rfl,rfl,rfl,hm,fun q hq=>.inl (List.eq_of_mem_replicate hq)⟩
theorem p5.step {a0 a a':Ab} {l:List Int} (h:p5 a0 a l) (hs:Sm a a') (o:Int) (hl:a.T.length<a'.T.length):p5 a0 (lu a' o) (l.set o.toNat a'.T.length):=by
 refine e1a h.suf fun X hX=>?_
 refine e1a hs.suf fun Y hY=>?_
 have hlen:a0.T.length≤a.T.length:=by rw [hX,List.length_append];exact cT [] [_,_] ab bT 1 [] rfl
 refine ⟨⟨Y++X,by refine (?_:a'.T=_);rw [hY,hX,List.append_assoc]⟩,?_,hs.oe.trans h.oe,hs.nested.trans h.nested,hs.force.trans h.force,hs.fin.trans h.fin,hs.vts.trans h.vts,hs.mal h.mal,fun q hq=>?_⟩
 ·refine (?_:a'.vt.map _=_)
  rw [hs.vt,h.vt];rfl
 ·refine (?_:q=0∨_∧q≤(a'.T.length:Int))
  rcases List.mem_or_eq_of_mem_set hq with hq|rfl
  ·rcases h.ent q hq with h1|h1
   ·exact .inl h1
   ·exact .inr ⟨h1.1,by exact lin [_] [_,_] aa af 1 [.j 1 bc ab,.i 1 aa am] rfl hl (And.right h1)⟩
  ·exact .inr ⟨by exact (lin [] [_,_,_] bw am 1 [.j 1 bt ae,.j 1 ab ak] rfl hl hlen),Int.le_refl _⟩
theorem p5.pre {a0 a:Ab} {l:List Int} (h:p5 a0 a l) (hb:a.T.length≤a0.T.length+2000) (hT:a0.T.length≤100000) (hl:l.length≤1000) (hv:tL a0.T a0.vts) (hn:a0.vts.length≤100000):wO {a with nested:=false} l a0.T.length:=by
 have hrl:=iz {a with nested:=false} 0
 have hq:=dB {a with nested:=false} (s:=4) (add:=0) sz4
 have hq2:=dR (n:=a.T.length) (add:=0) (s:=4) sz4
 dsimp only at hq
 refine e1a h.suf fun X hX=>?_
 have hlen:a0.T.length≤a.T.length:=by rw [hX,List.length_append];exact cT [] [_,_] ab bT 1 [] rfl
 refine ⟨by refine (?_:a.T.length≤_);exact (cT [] [_,_] ab aZ 1 [.j 1 ab (.a ae (.n 2000)),.j 1 ae aQ] rfl hb hT),hl,fun e he=>?_,by exact (And.intro (lin [] [_,_,_,_] ai (.s af am) 1 [.i 1 b9 af,.i 1 ax au,.j 1 ae av] rfl (Int.le_of_eq (Eq.symm hrl)) (And.left hq) hlen) (lin [_] [_,_,_,_] (.s af am) aW 1 [.j 1 ak (.a ae (.n 2000)),.i 1 af cm,.i 1 ax (.a au aa),.i 1 be ao] rfl hb (Int.le_of_eq hrl) (Int.le_of_eq (And.right hq)) (And.right hq2))),fun x hx=>?_,by refine (?_:a.vts.length≤_);rw [h.vts];exact hn⟩
 ·rcases h.ent e he with h1|h1
  ·exact .inl h1
  ·exact .inr (by exact And.intro (lin [_] [_] bn aa 1 [.i 1 bw aa] rfl (And.left h1)) (And.intro (lin [_] [_,_,_] aa af 1 [.i 1 bz af,.i 1 au am,.i 1 aa au] rfl (Int.le_of_eq (Eq.symm hrl)) (And.left hq) (And.right h1)) (lin [_,_] [_,_,_,_] bf aW 1 [.j 1 ae (.a ak (.n 2000)),.i 1 af cm,.i 1 ax (.a am an),.i 1 bP ao,.i 1 (.a au ap) aa] rfl hb (Int.le_of_eq hrl) (Int.le_of_eq (And.right hq)) (And.right hq2) (And.left h1))))
 ·have hx:x∈a0.vts:=by rw [←h.vts];exact hx
  refine e3c (hv x hx) fun ks osz vp g1 g2 g3=>?_
  have:=g3.lo;have:=g3.hi
  exact ⟨⟨_,g1⟩,vp,g2,by exact (lin [_] [_] ai aa 1 [.i 1 (.m 2 bF) aa] rfl (by assumption)),by exact lin [_] [_] aa aO 1 [.j 1 ab aQ,.i 1 aa af] rfl hT this⟩
structure fp where
 kind:Int
 holds:List Int
 place:Int
noncomputable def kO (n:fp):P:=.tup [.int n.kind, .lst (n.holds.map .int), .int n.place]
noncomputable def zg (F:Fm) (T:List UInt8) (p q v:Int):Prop:=(q=0∧v=0)∨(q≠0∧q<p∧lq F T q v)
noncomputable def OpE (T:List UInt8) (ns:List fp) (p qk qo h:Int):Prop:=(h<0∧qk=0∧qo=0)∨
 (0≤h∧∃c,ns[h.toNat]? = some c∧(qk≠0∧qk<p∧lq .B T qk c.kind)∧(qo≠0∧qo<p∧lq .I T qo (qo-c.place)))
structure RowE (T:List UInt8) (ns:List fp) (hs:List Int) (vk vp:Int):Prop where
 nk:lq .I T vk hs.length
 np:lq .I T vp hs.length
 el:∀(k:Nat) (h:Int),hs[k]? = some h→∃c,0≤h∧ns[h.toNat]? = some c∧lq .B T (vk-4-k) c.kind∧lq .I T (vp-4-4*k) (vp-4-4*k-c.place)
inductive jB (T:List UInt8) (ns:List fp) (i:Nat) (n:fp):Prop
 |num (v q:Int):n.kind=1→n.holds=[v]→-2147483648≤v→v≤2147483647→p7 T n.place [q]→zg .i T n.place q v→jB T ns i n
 |name (v q:Int):n.kind=2→n.holds=[v]→0≤v→v≤2→p7 T n.place [q]→zg .B T n.place q v→jB T ns i n
 |ops (L:List Int):(n.kind=3∨n.kind=4∨n.kind=5)→n.holds.length=(if n.kind=5 then 3 else 2)→(∀h∈n.holds,-1≤h∧h<i)→p7 T n.place L→L.length=2*n.holds.length→
   (∀(k:Nat) (h:Int),n.holds[k]? = some h→∃qk qo,L[2*k]? = some qk∧L[2*k+1]? = some qo∧OpE T ns n.place qk qo h)→jB T ns i n
 |row (q0 q1 vk vp:Int):n.kind=6→n.holds.length≤3→(∀h∈n.holds,0≤h∧h<i)→p7 T n.place [q0,q1]→(q0≠0∧q0<n.place∧lq .I T q0 (q0-vk))→(q1≠0∧q1<n.place∧lq .I T q1 (q1-vp))→
   RowE T ns n.holds vk vp→jB T ns i n
theorem vX {ns ms:List fp} {i:Nat} {c:fp} (h:ns[i]? = some c):(ns++ms)[i]? = some c:=by
 rw [List.getElem?_append_left (List.getElem?_eq_some_iff.mp h).1];exact h
theorem zg.suf {F:Fm} {T T':List UInt8} {p q v:Int} (h:zg F T p q v) (hs:∃X,T'=X++T):zg F T' p q v:=by
 rcases h with h|⟨h1,h2,h3⟩
 ·exact .inl h
 ·exact .inr ⟨h1,h2,h3.suf hs⟩
theorem OpE.suf {T T':List UInt8} {ns:List fp} {p qk qo h:Int} (x:OpE T ns p qk qo h) (hs:∃X,T'=X++T) (ms:List fp):OpE T' (ns++ms) p qk qo h:=by
 rcases x with x|⟨h0,c,h1,⟨h2,h3,h4⟩,h5,h6,h7⟩
 ·exact .inl x
 ·exact .inr ⟨h0,c,vX h1,⟨h2,h3,h4.suf hs⟩,h5,h6,h7.suf hs⟩
theorem RowE.suf {T T':List UInt8} {ns:List fp} {l:List Int} {vk vp:Int} (x:RowE T ns l vk vp) (hs:∃X,T'=X++T) (ms:List fp):RowE T' (ns++ms) l vk vp:=
 ⟨x.nk.suf hs,x.np.suf hs,fun k h hk=>e1d (x.el k h hk) fun c h0 h1 h2 h3=>⟨c,h0,vX h1,h2.suf hs,h3.suf hs⟩⟩
theorem jB.suf {T T':List UInt8} {ns:List fp} {i:Nat} {n:fp} (x:jB T ns i n) (hs:∃X,T'=X++T) (ms:List fp):jB T' (ns++ms) i n:=by
 cases x with
 |num v q h1 h2 h3 h4 h5 h6=>exact .num v q h1 h2 h3 h4 (h5.suf hs) (h6.suf hs)
 |name v q h1 h2 h3 h4 h5 h6=>exact .name v q h1 h2 h3 h4 (h5.suf hs) (h6.suf hs)
 |ops L h1 h2 h3 h4 h5 h6=>exact .ops L h1 h2 h3 (h4.suf hs) h5 fun k h hk=>e2c (h6 k h hk) fun qk qo e1 e2 e3=>⟨qk,qo,e1,e2,e3.suf hs ms⟩
 |row q0 q1 vk vp h1 h2 h3 h4 h5 h6 h7=>exact .row q0 q1 vk vp h1 h2 h3 (h4.suf hs) ⟨h5.1,h5.2.1,h5.2.2.suf hs⟩ ⟨h6.1,h6.2.1,h6.2.2.suf hs⟩ (h7.suf hs ms)
structure wZ (a:Ab) (ns:List fp):Prop where
 nested:a.nested=false
 force:a.force=false
 fin:a.fin=false
 mal:gX a.mal
 vts:tL a.T a.vts
 vtn:a.vts.length≤ns.length
 len:a.T.length≤200*ns.length
 few:ns.length≤100
 nodes:∀(i:Nat) (n:fp),ns[i]? = some n→jB a.T ns i n∧4≤n.place∧n.place≤a.T.length∧1≤n.kind∧n.kind≤6
theorem jB.place {T:List UInt8} {ns:List fp} {i:Nat} {n:fp} (x:jB T ns i n):4≤n.place∧n.place≤T.length∧1≤n.kind∧n.kind≤6:=by
 cases x with
 |num v q h1 h2 h3 h4 h5 h6=>exact ⟨h5.lo,h5.hi,by exact (lin [_] [] ap aa 1 [.i 1 ap aa] rfl (Int.le_of_eq (Eq.symm h1))),by exact lin [_] [] aa a7 1 [.i 1 aa ap] rfl (Int.le_of_eq h1)⟩
 |name v q h1 h2 h3 h4 h5 h6=>exact ⟨h5.lo,h5.hi,by exact (lin [_] [] ap aa 1 [.i 1 aA aa] rfl (Int.le_of_eq (Eq.symm h1))),by exact lin [_] [] aa a7 1 [.i 1 aa aA] rfl (Int.le_of_eq h1)⟩
 |ops L h1 h2 h3 h4 h5 h6=>exact ⟨h4.lo,h4.hi,by lia,by lia⟩
 |row q0 q1 vk vp h1 h2 h3 h4 h5 h6 h7=>exact ⟨h4.lo,h4.hi,by exact (lin [_] [] ap aa 1 [.i 1 a7 aa] rfl (Int.le_of_eq (Eq.symm h1))),by exact lin [_] [] aa a7 1 [.i 1 aa a7] rfl (Int.le_of_eq h1)⟩
end
section
theorem de {G:Pg} {fa:Addr} {args args':List V} {kws:List (Str × P)} {env:List (Option V)} {σ:List O} {Q:V→St→Prop} {ctr:Ctr} {objs:List O} (hΦ:G.Φ fa=some ctr) (ho:qI σ (f8 args [])=some objs)
  (ha:py ((f8 args []).idxOf ·) args=args') (h:ctr args' kws objs fun v os=>Q (A0 (sD (f8 args []) σ.length) v) ⟨env,mU σ (f8 args []) os⟩):fj G fa args kws ⟨env,σ⟩ Q:=by
 unfold fj
 rw [hΦ]
 refine (?_:opt (qI σ _) _)
 rw [ho,ha];exact h
theorem lj {bindf:List V→List (Str × P)→Option (List V)} {k:Nat} {S:S} {G:Pg} {args:List V} {kws:List (Str × P)} {objs:List O} {Q:V→List O→Prop} {env:List V} (hb:bindf args kws=some env)
  (h:∀K:Fl→St→Prop,(∀fl e (os r:List O),objs.length=os.length→scp os.length (w5 fl)=true→Q (w5 fl) os→K fl ⟨e,os++r⟩)→wS G S ⟨env.map some++List.replicate k none,objs⟩ K):eY bindf k S G args kws objs Q:=by
 unfold eY
 rw [hb]
 refine h _ fun fl e os r hl hs hq=>⟨os.length,⟨Nat.le_of_eq hl,?_,hs⟩,?_⟩
 ·refine (?_:os.length≤(os++r).length)
  rw [List.length_append];exact Nat.le_add_right _ _
 ·refine (?_:Q _ ((os++r).take os.length))
  rw [List.take_left' rfl];exact hq
noncomputable def bxO (xs:List Int) (i:Int):O:=.bx (.lst [.lst (xs.map .int), .int i])
structure tM (xs:List Int) (i many:Int):Prop where
 i0:0≤i
 m0:0<many
 l:xs.length≤64
@[irreducible] noncomputable def ra:Ctr:=fun args kws objs Q=>∃xs i many,args=[.ref 0, .p (.int many)]∧kws=[]∧objs=[bxO xs i]∧tM xs i many∧∀v i',0≤v→v<many→0≤i'→Q (.p (.int v)) [bxO xs i']
theorem gL {xs:List Int} {i many:Int} {Q:V→List O→Prop} (h0:tM xs i many) (h:∀v i',0≤v→v<many→0≤i'→Q (.p (.int v)) [bxO xs i']):ra [.ref 0, .p (.int many)] [] [bxO xs i] Q:=by
 unfold ra;exact ⟨xs,i,many,rfl,rfl,rfl,h0,h⟩
theorem Cj {Φ:Addr→Option Ctr}:BD Φ ra (db 2) 1 mZ:=fun args kws objs Q hq=>by
 unfold ra at hq
 revert hq;intro zh;refine e3e zh fun xs i many zq3 zq4 zq5 h hq=>?_;clear zh;subst zq3 zq4 zq5
 refine lj (env:=[.ref 0, .p (.int many)]) rfl fun K hK=>?_
 have h0:=h.i0
 have h2:(xs.map P.int).length≤16777216:=by rw [List.length_map];exact Nat.le_trans h.l (by decide)
 lk
 refine eG 1 rfl rfl ?_
 lk
 refine eG 0 rfl rfl ?_
 lk
 refine ⟨h2,?_⟩
 lk
 refine dk (fun q=>?_) (fun q=>?_)
 ·lk
  exact hK (.ret (.p (.int 0))) _ [bxO xs i] [] rfl rfl (hq 0 i (Int.le_refl 0) h.m0 h0)
 ·have q1:i.toNat<xs.length:=by have q1:=of_decide_eq_false q;rw [List.length_map] at q1;exact cT [_] [_,_] a8 ae 1 [.i 1 be am,.i 1 af aa] rfl (Int.not_le.mp q1) (Int.le_of_eq (Int.toNat_of_nonneg (lin [_] [] ai aa 1 [.i 1 ai aa] rfl h0)))
  lk
  refine eG 0 rfl rfl ?_
  lk
  refine eG 1 rfl rfl ?_
  lk
  refine f9 h0 (z:=.int xs[i.toNat]) (by rw [List.getElem?_map,List.getElem?_eq_getElem q1];rfl) h2 ?_
  lk
  refine eG 1 rfl rfl ?_
  lk
  refine ⟨⟨by decide,show (1:Int)<((2:Nat):Int) by decide,Nat.le_of_ble_eq_true rfl⟩,?_⟩
  lk
  refine ⟨h.m0,?_⟩
  lk
  exact hK (.ret (.p (.int (xs[i.toNat] % many)))) _ [bxO xs (i+1)] [] rfl rfl (hq _ (i+1) (Int.emod_nonneg _ (Int.ne_of_gt h.m0)) (Int.emod_lt_of_pos _ h.m0) (by exact lin [_] [] ai be 1 [.i 1 ai aa] rfl h0))
noncomputable def dS (ns:List fp):O:=.bx (.lst (ns.map kO))
noncomputable def opA (a:Ab) (ns:List fp) (sl wh:Int):Ab:=if wh<0 then a else match ns[wh.toNat]? with|some c=>gz (ed a (sl+1) c.place 0) .B sl c.kind 0|none=>a
structure wV (a:Ab) (ns:List fp) (sl wh:Int) (l:List Int):Prop where
 lo : -1≤wh
 hi:wh<ns.length
 vt:a.vt=some l
 nested:a.nested=true
 s0:0≤sl
 s1:sl+1<l.length
 ll:l.length≤100
 len:a.T.length≤200000
 few:ns.length≤100
 nodes:∀n∈ns,1≤n.place∧n.place≤a.T.length∧1≤n.kind∧n.kind≤6
@[irreducible] noncomputable def rh:Ctr:=fun args kws objs Q=>∃a bytes head ver ns sl wh l,args=[.ref 0, .ref 1, .p (.int sl), .p (.int wh)]∧kws=[]∧objs=[bo cP a bytes head ver,dS ns]∧Rb a.T a.room bytes head∧wV a ns sl wh l∧
 ∀bytes' head' ver',Rb (opA a ns sl wh).T (opA a ns sl wh).room bytes' head'→Q (.p .none) [bo cP (opA a ns sl wh) bytes' head' ver',dS ns]
theorem ta {a:Ab} {bytes:List UInt8} {head:Int} {ver:Nat} {ns:List fp} {sl wh:Int} {Q:V→List O→Prop} (l:List Int) (hr:Rb a.T a.room bytes head) (hp:wV a ns sl wh l)
  (h:∀bytes' head' ver',Rb (opA a ns sl wh).T (opA a ns sl wh).room bytes' head'→Q (.p .none) [bo cP (opA a ns sl wh) bytes' head' ver',dS ns]):rh [.ref 0, .ref 1, .p (.int sl), .p (.int wh)] [] [bo cP a bytes head ver,dS ns] Q:=by
 unfold rh;exact ⟨a,bytes,head,ver,ns,sl,wh,l,rfl,rfl,rfl,hr,hp,h⟩
theorem xd {a:Ab} {o x:Int} (h:0<x):ed a o x 0=lu (lQ a x) o:=if_pos (.inl (Int.ne_of_gt h))
theorem Cn {Φ:Addr→Option Ctr} (hU:AT Φ c9 q9) (hB:AT Φ dD (lg .u8)) :
  BD Φ rh (db 4) 0 j5:=fun args kws objs Q hq=>by
 unfold rh at hq
 obtain ⟨a,bytes,head,ver,ns,sl,wh,l,rfl,rfl,rfl,hr,hp,hq⟩:=hq
 refine lj (env:=[.ref 0, .ref 1, .p (.int sl), .p (.int wh)]) rfl fun K hK=>?_
 lk
 refine dk (fun q=>?_) (fun q=>?_)
 ·have q:=of_decide_eq_true q
  have hhi:=hp.hi
  have hlt:wh.toNat<ns.length:=by exact cT [_] [_,_] a8 ae 1 [.i 1 be am,.i 1 af aa] rfl hhi (Int.le_of_eq (Int.toNat_of_nonneg (lin [_] [] ai aa 1 [.i 1 ai aa] rfl q)))
  have hget:(ns.map kO)[wh.toNat]? = some (kO ns[wh.toNat]):=by rw [List.getElem?_map,List.getElem?_eq_getElem hlt];rfl
  have e:opA a ns sl wh=gz (ed a (sl+1) ns[wh.toNat].place 0) .B sl ns[wh.toNat].kind 0:=by unfold opA;rw [if_neg (Int.not_lt.mpr q),List.getElem?_eq_getElem hlt]
  have hc:=hp.nodes _ (List.getElem_mem hlt)
  generalize ns[wh.toNat]=c at hget e hc
  refine e0d hc fun c1 c2 c3 c4=>?_
  have e2:=xd (a:=a) (o:=sl+1) (x:=c.place) c1
  rw [e,e2] at hq
  have hle:(ns.map kO).length≤16777216:=by rw [List.length_map];exact Nat.le_trans hp.few (by decide)
  have hpl:=(dB a (s:=4) (add:=0) sz4).1
  have hul:=kL a c.place
  have hal:=hp.len;have hs0:=hp.s0;have hs1:=hp.s1;have hll:=hp.ll
  lk
  refine f9 q hget hle ?_
  lk
  refine eG 2 rfl rfl ?_
  lk
  refine dp hU 0 {x:=sl+1,y:=c.place,z:=0} rfl hr ⟨l,⟨Int.le_trans (by decide) c1,show c.place≤(dy a 4 0).T.length by exact (lin [_] [_,_] aa af 1 [.i 1 aa am,.i 1 am af] rfl c2 hpl),Nat.le_trans hal (by decide)⟩,hp.vt,hp.nested,show 0≤sl+1 by exact (lin [_] [] ai be 1 [.i 1 ai aa] rfl hs0),hs1,Nat.le_trans hll (by decide)⟩ fun bytes1 head1 ver1 hr1=>?_
  dsimp only at hr1
  rw [e2] at hr1
  lk
  refine f9 q hget hle ?_
  lk
  refine eG 0 rfl rfl ?_
  lk
  conv=>whnf
  rw [e2]
  refine dp hB 0 {x:=sl,y:=c.kind,z:=0} rfl hr1 ⟨l.set (sl+1).toNat (lQ a c.place).T.length,⟨show 0≤c.kind by exact (lin [_] [] ai aa 1 [.i 1 ap aa] rfl c3),show c.kind≤255 by exact (lin [_] [] aa (.n 255) 1 [.i 1 aa a7] rfl c4),show (lQ a c.place).T.length≤1048576 by exact cT [] [_,_] ab aC 1 [.i 1 af (.a am aT),.j 1 ae (.n 200000)] rfl (And.right (And.right hul)) hal⟩,Int.le_refl 0,show (0:Int)≤255 by decide,?_,hp.nested,hs0,?_,?_⟩ fun bytes2 head2 ver2 hr2=>?_
  ·refine (?_:a.vt.map _=_)
   rw [hp.vt];rfl
  ·rw [List.length_set];refine (?_:sl<l.length);exact lin [_] [_] be af 1 [.i 1 (.a be ap) af] rfl hs1
  ·rw [List.length_set];exact Nat.le_trans hll (by decide)
  lk
  exact hK .next _ [bo cP _ bytes2 head2 ver2,dS ns] [] rfl rfl (hq _ _ _ hr2)
 ·rw [show opA a ns sl wh=a from if_pos (Int.not_le.mp (of_decide_eq_false q))] at hq
  lk
  exact hK .next _ [bo cP a bytes head ver,dS ns] [] rfl rfl (hq _ _ _ hr)
end
section
structure zd (a:Ab) (ns:List fp) (hs:List Int):Prop where
 nested:a.nested=false
 mal:gX a.mal
 len:a.T.length≤100000
 few:ns.length≤100
 hn:hs.length≤10
 hs:∀h∈hs,0≤h∧h<ns.length
 nodes:∀n∈ns,1≤n.place∧n.place≤a.T.length∧1≤n.kind∧n.kind≤6
structure ze (a a':Ab) (ns:List fp) (hs:List Int) (vk vp:Int):Prop where
 sm:Sm a a'
 row:RowE a'.T ns hs vk vp
 k0:0<vk
 k1:vk≤a'.T.length
 p0:0<vp
 p1:vp≤a'.T.length
 len:(a'.T.length:Int)≤a.T.length+20+5*hs.length
@[irreducible] noncomputable def Ax:Ctr:=fun args kws objs Q=>∃a bytes head ver ns hs,args=[.ref 0, .ref 1, .p (.lst (hs.map .int))]∧kws=[]∧objs=[bo cP a bytes head ver,dS ns]∧Rb a.T a.room bytes head∧zd a ns hs∧
 ∀a' vk vp bytes' head' ver',ze a a' ns hs vk vp→Rb a'.T a'.room bytes' head'→Q (.p (.tup [.int vk, .int vp])) [bo cP a' bytes' head' ver',dS ns]
theorem zN {a:Ab} {bytes:List UInt8} {head:Int} {ver:Nat} {ns:List fp} {hs:List Int} {Q:V→List O→Prop} (hr:Rb a.T a.room bytes head) (hp:zd a ns hs)
  (h:∀a' vk vp bytes' head' ver',ze a a' ns hs vk vp→Rb a'.T a'.room bytes' head'→Q (.p (.tup [.int vk, .int vp])) [bo cP a' bytes' head' ver',dS ns]):Ax [.ref 0, .ref 1, .p (.lst (hs.map .int))] [] [bo cP a bytes head ver,dS ns] Q:=by
 unfold Ax;exact ⟨a,bytes,head,ver,ns,hs,rfl,rfl,rfl,hr,hp,h⟩
theorem lM (a:Ab) {es n al:Int} (hes:es=1∨es=4) (hal:al=es) (hn:0≤n) :
  ∃X,(eQ a es n al).T=X++a.T∧((eQ a es n al).T.length:Int)≤a.T.length+3∧(((eQ a es n al).T.length:Int)+es*n) % 4=0∧4+es*n≤(eQ a es n al).room∧(eQ a es n al).nested=true∧(eQ a es n al).vne=some (.int n)∧
   (eQ a es n al).vt=a.vt∧(eQ a es n al).oe=a.oe∧(eQ a es n al).force=a.force∧(eQ a es n al).fin=a.fin∧(eQ a es n al).vts=a.vts∧(gX a.mal→gX (eQ a es n al).mal):=by
 subst hal
 have h4:gX 4:=by unfold gX;exact Or.inr (Or.inr (Or.inl (Int.le_antisymm (lin [] [] ao ao 1 [] rfl) (lin [] [] ao ao 1 [] rfl))))
 have hE:gX al:=by unfold gX;lia
 have hp1:=dB {a with nested:=true,vne:=some (.int n)} (s:=4) (add:=al*n) h4
 have hq1:=dR (n:=a.T.length) (add:=al*n) (s:=4) h4
 have hp2:=dB (dy {a with nested:=true,vne:=some (.int n)} 4 (al*n)) (s:=al) (add:=al*n) hE
 dsimp only at hp1
 have hm1:((dy {a with nested:=true,vne:=some (.int n)} 4 (al*n)).T.length+al*n) % 4=0:=by
  rw [hp1.2];unfold lp;lia
 have hz:lp (dy {a with nested:=true,vne:=some (.int n)} 4 (al*n)).T.length (al*n) al=0:=by
  unfold lp
  rcases hes with rfl|rfl<;>(first|exact (Int.le_antisymm (lin [_] [] aa ai 1 [.i 1 be ap] rfl (Int.emod_lt_of_pos _ (show (0:Int)<1 by decide))) (lin [_] [] ai aa 1 [.i 1 ai aa] rfl (Int.emod_nonneg _ (show (1:Int)≠0 by decide))))|lia)
 refine ⟨_,(List.append_assoc _ _ _).symm,?_,?_,?_,rfl,rfl,rfl,rfl,rfl,rfl,rfl,fun h=>?_⟩
 ·refine (?_:((dy (dy {a with nested:=true,vne:=some (.int n)} 4 (al*n)) al (al*n)).T.length:Int)≤_)
  exact lin [_,_] [_,_,_] af (.a am a6) 1 [.i 1 au bR,.i 1 be ao,.i 1 af (.a au an),.i 1 an ai] rfl (Int.le_of_eq (And.right hp1)) (And.right hq1) (Int.le_of_eq (And.right hp2)) (Int.le_of_eq hz)
 ·refine (?_:(((dy (dy {a with nested:=true,vne:=some (.int n)} 4 (al*n)) al (al*n)).T.length:Int)+_) % 4=0)
  rw [hp2.2,hz];lia
 ·refine (?_:4+al*n≤max ((dy {a with nested:=true,vne:=some (.int n)} 4 (al*n)).room-lp (dy {a with nested:=true,vne:=some (.int n)} 4 (al*n)).T.length (al*n) al) (al+al*n))
  rw [hz]
  have:=kK {a with nested:=true,vne:=some (.int n)} 4 (al*n)
  exact lin [_,_,_] [] (.a ao aa) an 1 [.i 1 (.a ao aa) aB,.i 1 (.s aB ai) an] rfl this (Int.le_max_left _ _)
 ·exact (mS _ hE).mal ((mS {a with nested:=true,vne:=some (.int n)} h4).mal h)
theorem om (a:Ab) (x:Int) (hr:1≤a.room):((cU a .B x).T.length:Int)=a.T.length+1∧a.room-1≤(cU a .B x).room∧(cU a .B x).vne=a.vne:=by
 have hz:lp a.T.length 0 1=0:=by unfold lp;exact Int.le_antisymm (lin [_] [] aa ai 1 [.i 1 be ap] rfl (Int.emod_lt_of_pos _ (show (0:Int)<1 by decide))) (lin [_] [] ai aa 1 [.i 1 ai aa] rfl (Int.emod_nonneg _ (show (1:Int)≠0 by decide)))
 refine ⟨?_,?_,rfl⟩
 ·refine (?_:((le 1 x++(List.replicate (lp a.T.length 0 1).toNat 0++a.T)).length:Int)=_)
  rw [hz,List.length_append,dg];simp;exact Int.le_antisymm (lin [] [_] (.a ap af) bw 1 [] rfl) (lin [] [_] bw (.a ap af) 1 [] rfl)
 ·refine (?_:a.room-1≤max (a.room-lp a.T.length 0 1) (1+0)-1)
  rw [hz];exact lin [_,_] [] bU (.s an ap) 1 [.i 1 (.s aa ai) an] rfl (Int.le_of_eq (Eq.symm (Int.max_eq_left (lin [_] [] (.a ap ai) (.s aa ai) 1 [.i 1 ap aa] rfl hr))))
theorem tX (a:Ab) (x:Int) (hm:(a.T.length:Int) % 4=0):((lQ a x).T.length:Int)=a.T.length+4∧a.room-4≤(lQ a x).room∧(lQ a x).vne=a.vne∧(dy a 4 0).T.length=a.T.length:=by
 have hz:lp a.T.length 0 4=0:=by unfold lp;lia
 have hl:(dy a 4 0).T.length=a.T.length:=by
  refine (?_:(List.replicate (lp a.T.length 0 4).toNat (0:UInt8)++a.T).length=_)
  rw [hz];simp
 refine ⟨?_,?_,rfl,hl⟩
 ·have:=(kL a x).1;exact Int.le_antisymm (lin [] [_,_,_] af bz 1 [.j 1 ak ae,.i 1 af b9] rfl (Nat.le_of_eq hl) (Int.le_of_eq this)) (lin [] [_,_,_] bu am 1 [.j 1 ab ak,.i 1 b9 am] rfl (Nat.le_of_eq (Eq.symm hl)) (Int.le_of_eq (Eq.symm this)))
 ·refine (?_:a.room-4≤max (a.room-lp a.T.length 0 4) (4+0)-4)
  rw [hz];exact lin [_,_] [] cA (.s an ao) 1 [.i 1 (.s aa ai) an] rfl (Int.le_max_left _ _)
end
section
theorem oY (a:Ab) (n:Int) (hn:0≤n) (hn2:n≤4294967295):((gn a n).T.length:Int)=a.T.length+4∧lq .I (gn a n).T ((a.T.length:Int)+4) n∧(∃X,(gn a n).T=X++a.T):=by
 have hl:((gn a n).T.length:Int)=a.T.length+4:=by
  refine (?_:((le 4 n++a.T).length:Int)=_)
  rw [List.length_append,dg];exact Int.le_antisymm (lin [] [_] (.c cz) bu 1 [] rfl) (lin [] [_] bu (.c cz) 1 [] rfl)
 refine ⟨hl,⟨by simp only [Fm.w];exact (lin [] [_] (.c aF) bu 1 [] rfl),by exact (lin [] [_,_] bu am 1 [.i 1 bu am] rfl (Int.le_of_eq (Eq.symm hl))),?_⟩,⟨le 4 n,rfl⟩⟩
 exact lw (F:=.I) (T:=a.T) hn hn2
theorem td {hs:List Int} {k:Nat} (h:k≤hs.length) (hx:([]:List P)=((hs.take k).reverse).map .int):k=0:=by
 have q:=congrArg List.length hx
 rw [List.length_map,List.length_reverse,List.length_take_of_le h] at q
 exact q.symm
structure AR (a1:Ab) (hs:List Int) (s:Int) (p:Ab→Nat→Int→Prop) (xs:List P) (j:Lv):Prop where
 k:j.k≤hs.length
 x:xs=((hs.take j.k).reverse).map .int
 r:Rb j.a.T j.a.room j.b j.h
 sm:Sm a1 j.a
 ln:(j.a.T.length:Int)=a1.T.length+s*hs.length-s*j.k
 rm:4+s*(j.k:Int)≤j.a.room
 vn:j.a.vne=some (.int hs.length)
 fl:∀(i:Nat) (h:Int),hs[i]? = some h→j.k≤i→p j.a i h
theorem AR.cons {a1:Ab} {hs:List Int} {s:Int} {p:Ab→Nat→Int→Prop} {x:P} {xs:List P} {j:Lv} (h:AR a1 hs s p (x::xs) j):∃k w,j.k=k+1∧k<hs.length∧hs[k]? = some w∧x=.int w∧xs=((hs.take k).reverse).map .int:=by
 have hx:=h.x
 have hk:=h.k
 clear h p s a1;cases q:j.k with
 |zero=>rw [q] at hx;exact cn hx
 |succ k=>
  rw [q] at hx hk
  rw [sO hk] at hx
  cases hx
  exact ⟨k,hs[k],rfl,hk,List.getElem?_eq_getElem hk,rfl,rfl⟩
theorem AR.step {a1 a':Ab} {hs:List Int} {s:Int} {p:Ab→Nat→Int→Prop} {x:P} {xs:List P} {j:Lv} (h:AR a1 hs s p (x::xs) j) {k:Nat} {w:Int} (e:j.k=k+1) (hw:hs[k]? = some w) (hk:k<hs.length) (hxs:xs=((hs.take k).reverse).map .int)
  (hsm:Sm j.a a') (hl:(a'.T.length:Int)=j.a.T.length+s) (hr:j.a.room-s≤a'.room) (hv:a'.vne=j.a.vne) {b:List UInt8} {hd:Int} (v:Nat) (o:Option P) (hrb:Rb a'.T a'.room b hd) (hp:p a' k w) (hpp:∀i h,p j.a i h→p a' i h) :
  AR a1 hs s p xs {k:=k,a:=a',b:=b,h:=hd,v:=v,o:=o}:=by
 have h1:=h.ln
 have h2:=h.rm
 have em:s*(j.k:Int)=s*(k:Int)+s:=by rw [e,Int.natCast_add,Int.mul_add];exact congrArg _ (Int.mul_one s)
 rw [em] at h1 h2
 refine ⟨Nat.le_of_lt hk,hxs,hrb,h.sm.trans hsm,by dsimp only;exact (Int.le_antisymm (lin [_,_,_] [_,_,_] af (.s bR an) 1 [.i 1 af (.a au aB),.i 1 au (.s bR (.a an aB))] rfl (Int.le_of_eq hl) (Int.le_of_eq h1)) (lin [_,_,_] [_,_,_] (.s cj an) am 1 [.i 1 (.a au aB) am,.i 1 (.s cj (.a an aB)) au] rfl (Int.le_of_eq (Eq.symm hl)) (Int.le_of_eq (Eq.symm h1)))),by dsimp only;exact (lin [_,_,_,_] [] (.a ao aa) an 1 [.i 1 (.s aB aN) an,.i 1 (.a ao (.a aa aN)) aB] rfl hr h2),hv.trans h.vn,fun i z hi hki=>?_⟩
 clear hrb hv hr hl hsm hxs hk;rcases Nat.lt_or_ge k i with q|q
 ·exact hpp i z (h.fl i z hi (by rw [e];exact q))
 ·have e2:i=k:=Nat.le_antisymm q hki
  rw [e2,hw] at hi
  obtain rfl:=sj hi
  rw [e2];exact hp
theorem wz {G:Pg} {fa c:Addr} {A:Ar→List P} {side:Ar→Ab→Prop} {new:Ar→Ab→Ab} {ret:Ar→Ab→P} {env:List (Option V)} {σ:List O} {Q:V→St→Prop} (hΦ:G.Φ fa=some (n4 c A side new ret)) (j:Nat) (i:Ar) {args:List V} (ha:args=(A i).map .p)
  {a:Ab} {bytes:List UInt8} {head:Int} {ver:Nat} (hj:σ[j]? = some (bo c a bytes head ver)) (hr:Rb a.T a.room bytes head) (hs:side i a)
  (h:∀bytes' head' ver',Rb (new i a).T (new i a).room bytes' head'→Q (.p (ret i a)) ⟨env,σ.set j (bo c (new i a) bytes' head' ver')⟩):fj G fa (.ref j::args) [] ⟨env,σ⟩ Q:=by
 subst ha;exact dp hΦ j i hj hr hs h
theorem Dy {Φ:Addr→Option Ctr} (hSV:AT Φ eV pS) (hU8:AT Φ eJ (l6 .u8))
  (hEV:AT Φ fL yq) (hRU:AT Φ da um) :
  BD Φ Ax (db 3) 2 oI:=fun args kws objs Q hq=>by
 unfold Ax at hq
 obtain ⟨a,bytes,head,ver,ns,hs,rfl,rfl,rfl,hr,hp,hq⟩:=hq
 refine lj (env:=[.ref 0, .ref 1, .p (.lst (hs.map .int))]) rfl fun K hK=>?_
 have hlen:=hp.len
 have hn10:=hp.hn
 have hget:∀(i:Nat) (h:Int),hs[i]? = some h→∃c,0≤h∧ns[h.toNat]? = some c∧(ns.map kO)[h.toNat]? = some (kO c)∧1≤c.place∧c.place≤a.T.length∧1≤c.kind∧c.kind≤6:=fun i h hi=>by
  have h1:=hp.hs h (List.mem_of_getElem? hi)
  have h2:h.toNat<ns.length:=by exact cT [_] [_,_] a8 ae 1 [.i 1 be am,.i 1 af aa] rfl (And.right h1) (Int.le_of_eq (Int.toNat_of_nonneg (lin [_] [] ai aa 1 [.i 1 ai aa] rfl (And.left h1))))
  have h3:=List.getElem?_eq_getElem h2
  exact ⟨_,h1.1,h3,by rw [List.getElem?_map,h3];rfl,hp.nodes _ (List.mem_of_getElem? h3)⟩
 have hle:(ns.map kO).length≤16777216:=by rw [List.length_map];exact Nat.le_trans hp.few (by decide)
 have hhl:(hs.map P.int).length≤16777216:=by rw [List.length_map];exact Nat.le_trans hn10 (by decide)
 refine e1l (lM a (es:=1) (n:=hs.length) (al:=1) (.inl rfl) rfl (Int.natCast_nonneg _)) fun X1 s1 s2 s3 s4 s5 s6 s7 s8 s9 s10 s11 s12=>?_
 have hst1:∀{es al:Int},gX al→0≤es→es≤4→∀{a:Ab},a.nested=false→(a.T.length:Int)≤200000→tN es hs.length al a:=fun {es al} hsz h0 h1 {a} hne hl=>by
  have hm:es*(hs.length:Int)≤40:=Int.le_trans (Int.mul_le_mul_of_nonneg_right h1 (Int.natCast_nonneg _)) (by exact lin [] [_] (.m 4 af) (.n 40) 1 [.j 4 ab aS] rfl hn10)
  exact ⟨hne,hsz,h0,Int.le_trans h1 (by decide),Int.natCast_nonneg _,by exact (lin [] [_] af (.n 1000) 1 [.j 1 ab aS] rfl hn10),Int.mul_nonneg h0 (Int.natCast_nonneg _),by exact lin [_] [_] cj (.n 1048000) 1 [.i 1 af (.n 200000),.i 1 aa (.n 40)] rfl hl hm⟩
 lk
 refine ⟨hhl,?_⟩
 lk
 refine wz hSV 0 {x:=1,y:=hs.length,z:=1} (congrArg (fun n:Nat=>[V.p (.int 1),V.p (.int n),V.p (.int 1)]) (List.length_map ..)) rfl hr (hst1 (es:=1) (.inl rfl) (by decide) (by decide) hp.nested (by exact lin [] [_] af (.n 200000) 1 [.j 1 ab aQ] rfl hlen)) fun bytes1 head1 ver1 hr1=>?_
 clear hr s3;generalize ha1:eQ a 1 hs.length 1=a1 at *
 lk
 refine ⟨trivial,hhl,?_⟩
 lk
 refine qF (n0:=2) (fun j=>⟨[some (.ref 0),some (.ref 1),some (.p (.lst (hs.map .int))),j.o.map .p,none],[bo cP j.a j.b j.h j.v,dS ns]⟩)
  (AR a1 hs 1 fun a' i h=>∃c,ns[h.toNat]? = some c∧lq .B a'.T ((a1.T.length:Int)+hs.length-i) c.kind) (fun x xs j K2 hj hn _ _=>⟨rfl,?_⟩) (fun j hj=>⟨rfl,?_⟩) _
  {k:=hs.length,a:=a1,b:=bytes1,h:=head1,v:=ver1} ⟨Nat.le_refl _,by rw [List.take_length,List.map_reverse],hr1, .refl _,by dsimp only;exact (Int.le_antisymm (lin [] [_,_] af (.s (.a af (.m 1 am)) (.m 1 am)) 1 [] rfl) (lin [] [_,_] (.s (.a af (.m 1 am)) (.m 1 am)) af 1 [] rfl)),by dsimp only;exact (lin [_] [_] (.a ao (.m 1 af)) aa 1 [.i 1 (.a ao (.m 1 af)) aa] rfl s4),s6,fun i h hi hk=>absurd (List.getElem?_eq_some_iff.mp hi).1 (Nat.not_lt.mpr hk)⟩
 ·refine e2e hj.cons fun k w e hk hw zq5 hxs=>?_;subst zq5
  refine e1g (hget k w hw) fun c c1 c3 c8 c4 c5 c6 c7=>?_
  have hl1:=hj.ln;have hl2:=hj.rm
  rw [e] at hl1 hl2
  have hlo:Fm.B.lo≤c.kind:=show (0:Int)≤c.kind by exact lin [_] [] ai aa 1 [.i 1 ap aa] rfl c6
  have hhi:c.kind≤Fm.B.hi:=show c.kind≤255 by exact lin [_] [] aa (.n 255) 1 [.i 1 aa a7] rfl c7
  refine e0c (om j.a c.kind (by exact lin [_] [_] ap aa 1 [.i 1 (.a ao (.m 1 (.c a8))) aa] rfl hl2)) fun g1 g2 g3=>?_
  lk
  refine f9 c1 c8 hle ?_
  lk
  refine eG 0 rfl rfl ?_
  lk
  refine dp hU8 0 {x:=c.kind} rfl hj.r ⟨hlo,hhi,show j.a.T.length≤1048576 by exact cT [] [_,_,_,_,_] ab aC 1 [.j 1 ae aQ,.j 1 ak aS,.i 1 ax (.a am a6),.i 1 af (.s (.a ax (.m 1 au)) (.m 1 (.c (.a az aj))))] rfl hlen hn10 s2 (Int.le_of_eq hl1)⟩ fun bytes2 head2 ver2 hr2=>?_
  lk
  refine (hn _ {k:=k,a:=cU j.a .B c.kind,b:=bytes2,h:=head2,v:=ver2,o:=some (.int w)} rfl (hj.step e hw hk hxs (jC _ _ _) g1 g2 g3 _ _ hr2 ⟨c,c3,?_⟩ fun i h zp=>e1b zp fun c' e1 e2=>⟨c',e1,e2.suf (jC j.a .B c.kind).suf⟩)).1
  have hf:=nh j.a hlo hhi
  rw [g1] at hf
  rw [show (a1.T.length:Int)+hs.length-k=(j.a.T.length:Int)+1 by exact (Int.le_antisymm (lin [] [_,_,_,_] (.s b7 au) (.a ax ap) 1 [.i 1 (.s (.a af (.m 1 am)) (.m 1 (.c bt))) ax] rfl (Int.le_of_eq (Eq.symm hl1))) (lin [] [_,_,_,_] bw (.s (.a am au) ax) 1 [.i 1 af (.s (.a am (.m 1 au)) (.m 1 (.c bA)))] rfl (Int.le_of_eq hl1)))]
  exact hf
 refine e0c (oY j.a hs.length (Int.natCast_nonneg _) (by exact lin [] [_] af aJ 1 [.j 1 ab aS] rfl hn10)) fun v1 v2 v3=>?_
 have hk0:=td hj.k hj.x
 have hl1:=hj.ln;have hrm:=hj.rm
 rw [hk0] at hl1 hrm
 lk
 refine dp hEV 0 {x:=hs.length} rfl hj.r ⟨hj.vn,hj.sm.nested.trans s5,Int.natCast_nonneg _,by exact (lin [] [_] af aJ 1 [.j 1 ab aS] rfl hn10),by exact lin [_] [] ao aa 1 [.i 1 (.a ao cL) aa] rfl hrm⟩ fun bytes2 head2 ver2 hr2=>?_
 have f7:gX (gn j.a hs.length).mal:=hj.sm.mal (s12 hp.mal)
 have f1:(gn j.a hs.length).nested=false:=rfl
 have f2:(gn j.a hs.length).vt=a.vt:=hj.sm.vt.trans s7
 have f3:(gn j.a hs.length).oe=a.oe:=hj.sm.oe.trans s8
 have f4:(gn j.a hs.length).force=a.force:=hj.sm.force.trans s9
 have f5:(gn j.a hs.length).fin=a.fin:=hj.sm.fin.trans s10
 have f6:(gn j.a hs.length).vts=a.vts:=hj.sm.vts.trans s11
 have suf0:∃X,j.a.T=X++a.T:=by refine e1a hj.sm.suf fun Y hY=>?_;exact ⟨Y++X1,by rw [hY,s1,List.append_assoc]⟩
 have hfl:=hj.fl
 rw [hk0] at hfl
 dsimp only at hr2
 clear ha1 hU8 s1 X1 hrm s5 hj s6 s4 hr1;generalize gn j.a hs.length=e at *
 refine e1l (lM e (es:=4) (n:=hs.length) (al:=4) (.inr rfl) rfl (Int.natCast_nonneg _)) fun X2 t1 t2 t3 t4 t5 t6 t7 t8 t9 t10 t11 t12=>?_
 have hst2:=hst1 (es:=4) sz4 (by decide) (by decide) f1 (by exact lin [] [_,_,_,_,_] af (.n 200000) 1 [.j 1 ae aQ,.j 1 ak aS,.i 1 ax (.a am a6),.i 1 aK (.s (.a ax (.m 1 au)) cL),.i 1 af cq] rfl hlen hn10 s2 (Int.le_of_eq hl1) (Int.le_of_eq v1))
 lk
 refine ⟨hhl,?_⟩
 lk
 refine wz hSV 0 {x:=4,y:=hs.length,z:=4} (congrArg (fun n:Nat=>[V.p (.int 4),V.p (.int n),V.p (.int 4)]) (List.length_map ..)) rfl hr2 hst2 fun bytes3 head3 ver3 hr3=>?_
 dsimp only at hr3
 clear hSV hr2;generalize eQ e 4 hs.length 4=a2 at *
 lk
 refine ⟨trivial,hhl,?_⟩
 lk
 refine qF (n0:=2) (fun j2=>⟨[some (.ref 0),some (.ref 1),some (.p (.lst (hs.map .int))),j2.o.map .p,some (.p (.int e.T.length))],[bo cP j2.a j2.b j2.h j2.v,dS ns]⟩)
  (AR a2 hs 4 fun a' i h=>∃c,ns[h.toNat]? = some c∧lq .I a'.T ((a2.T.length:Int)+4*(hs.length-i)) ((a2.T.length:Int)+4*(hs.length-i)-c.place)) (fun x xs j2 K2 hj2 hn _ _=>⟨rfl,?_⟩) (fun j2 hj2=>⟨rfl,?_⟩) _
  {k:=hs.length,a:=a2,b:=bytes3,h:=head3,v:=ver3,o:=j.o} ⟨Nat.le_refl _,by rw [List.take_length,List.map_reverse],hr3, .refl _,by dsimp only;exact (Int.le_antisymm (lin [] [_,_] af (.s (.a af bO) bO) 1 [] rfl) (lin [] [_,_] (.s (.a af bO) bO) af 1 [] rfl)),by dsimp only;exact (lin [_] [_] (.a ao (.m 4 af)) aa 1 [.i 1 (.a ao (.m 4 af)) aa] rfl t4),t6,fun i h hi hk=>absurd (List.getElem?_eq_some_iff.mp hi).1 (Nat.not_lt.mpr hk)⟩
 ·refine e2e hj2.cons fun k w e0 hk hw zq5 hxs=>?_;subst zq5
  refine e1g (hget k w hw) fun c c1 c3 c8 c4 c5 c6 c7=>?_
  have hl3:=hj2.ln;have hl4:=hj2.rm
  rw [e0] at hl3 hl4
  refine e0d (tX j2.a c.place (by lia)) fun g1 g2 g3 g4=>?_
  have hlT:a.T.length≤j2.a.T.length:=by
   refine e1a hj2.sm.suf fun Y hY=>?_
   refine e1a v3 fun Z hZ=>?_
   refine e1a suf0 fun W hW=>?_
   rw [hY,t1,hZ,hW,List.length_append,List.length_append,List.length_append,List.length_append];exact cT [] [_,_,_,_,_] ab (.a ae (.a ak (.a av (.a az ab)))) 1 [] rfl
  lk
  refine f9 c1 c8 hle ?_
  lk
  refine eG 2 rfl rfl ?_
  lk
  have hc0:(0:Int)≤c.place:=by exact lin [_] [] ai aa 1 [.i 1 ap aa] rfl c4
  have hc1:c.place≤(dy j2.a 4 0).T.length:=by exact lin [_] [_,_,_] aa af 1 [.i 1 aa am,.j 1 ak ab,.j 1 ae ak] rfl c5 (Nat.le_of_eq (Eq.symm g4)) hlT
  have hc2:j2.a.T.length≤1048576:=by exact cT [] [_,_,_,_,_,_,_,_] ab aC 1 [.j 1 ae aQ,.j 5 ak aS,.i 1 ax (.a am a6),.i 1 aK (.s (.a ax (.m 1 au)) cL),.i 1 (.w 5) cq,.i 1 (.w 6) (.a (.w 5) a6),.i 1 af (.s (.a (.w 6) (.m 4 au)) (.m 4 (.c (.a (.v 7) aj))))] rfl hlen hn10 s2 (Int.le_of_eq hl1) (Int.le_of_eq v1) t2 (Int.le_of_eq hl3)
  refine dp hRU 0 {x:=c.place} rfl hj2.r ⟨hc0,hc1,hc2⟩ fun bytes4 head4 ver4 hr4=>?_
  lk
  refine (hn _ {k:=k,a:=lQ j2.a c.place,b:=bytes4,h:=head4,v:=ver4,o:=some (.int w)} rfl (hj2.step e0 hw hk hxs (mR _ _) g1 g2 g3 _ _ hr4 ⟨c,c3,?_⟩ fun i h zp=>e1b zp fun c' e1 e2=>⟨c',e1,e2.suf (mR j2.a c.place).suf⟩)).1
  have hf:=pu j2.a hc0 hc1 hc2
  rw [g1] at hf
  rw [show (a2.T.length:Int)+4*(hs.length-k)=(j2.a.T.length:Int)+4 by exact (Int.le_antisymm (lin [] [_,_,_,_] (.a af (.m 4 (.s am au))) cm 1 [.i 1 (.s (.a af bO) (.m 4 (.c bt))) ax] rfl (Int.le_of_eq (Eq.symm hl3))) (lin [] [_,_,_,_] bu (.a am (.m 4 (.s au ax))) 1 [.i 1 af (.s (.a am (.m 4 au)) (.m 4 (.c bA)))] rfl (Int.le_of_eq hl3)))]
  exact hf
 have hk2:=td hj2.k hj2.x
 have hl3:=hj2.ln;have hl4:=hj2.rm
 rw [hk2] at hl3 hl4
 refine e0c (oY j2.a hs.length (Int.natCast_nonneg _) (by exact lin [] [_] af aJ 1 [.j 1 ab aS] rfl hn10)) fun w1 w2 w3=>?_
 lk
 refine dp hEV 0 {x:=hs.length} rfl hj2.r ⟨hj2.vn,hj2.sm.nested.trans t5,Int.natCast_nonneg _,by exact (lin [] [_] af aJ 1 [.j 1 ab aS] rfl hn10),by exact lin [_] [] ao aa 1 [.i 1 (.a ao (.m 4 bQ)) aa] rfl hl4⟩ fun bytes5 head5 ver5 hr5=>?_
 lk
 refine ⟨Nat.le_of_ble_eq_true rfl,?_⟩
 lk
 refine hK (.ret (.p (.tup [.int e.T.length, .int (gn j2.a hs.length).T.length]))) _ [bo cP (gn j2.a hs.length) bytes5 head5 ver5,dS ns] [] rfl rfl (hq (gn j2.a hs.length) e.T.length (gn j2.a hs.length).T.length bytes5 head5 ver5 ?_ hr5)
 refine e1a hj2.sm.suf fun Y2 hY2=>?_
 refine e1a v3 fun Z1 hZ1=>?_
 refine e1a w3 fun Z2 hZ2=>?_
 refine e1a suf0 fun W hW=>?_
 have suf1:∃X,(gn j2.a hs.length).T=X++j2.a.T:=⟨_,hZ2⟩
 have suf2:∃X,(gn j2.a hs.length).T=X++e.T:=⟨Z2++(Y2++X2),by rw [hZ2,hY2,t1,List.append_assoc,List.append_assoc]⟩
 have suf3:∃X,(gn j2.a hs.length).T=X++j.a.T:=by refine e1a suf2 fun X hX=>?_;exact ⟨X++Z1,by rw [hX,hZ1,List.append_assoc]⟩
 have suf4:∃X,(gn j2.a hs.length).T=X++a.T:=by refine e1a suf3 fun X hX=>?_;exact ⟨X++W,by rw [hX,hW,List.append_assoc]⟩
 have hel:=congrArg List.length t1
 rw [List.length_append] at hel
 have hfl2:=hj2.fl
 rw [hk2] at hfl2
 refine ⟨⟨suf4,hj2.sm.vt.trans (t7.trans f2),hp.nested.symm,hj2.sm.oe.trans (t8.trans f3),hj2.sm.force.trans (t9.trans f4),hj2.sm.fin.trans (t10.trans f5),hj2.sm.vts.trans (t11.trans f6),fun _=>hj2.sm.mal (t12 f7)⟩,⟨?_,?_,fun k hh hk=>?_⟩,by exact (lin [] [_,_,_,_] bn af 1 [.i 1 (.s (.a am (.m 1 au)) cL) ax,.i 1 cm af] rfl (Int.le_of_eq (Eq.symm hl1)) (Int.le_of_eq (Eq.symm v1))),by exact (lin [] [_,_,_,_,_,_] af am 1 [.i 1 (.s (.a au (.m 4 ax)) (.m 4 bQ)) aK,.i 1 cq am,.j 1 (.a aL ab) ak] rfl (Int.le_of_eq (Eq.symm hl3)) (Int.le_of_eq (Eq.symm w1)) (Nat.le_of_eq (Eq.symm hel))),by exact (lin [] [_,_,_,_,_,_,_,_] bn af 1 [.i 1 (.s (.a am (.m 1 au)) cL) ax,.i 1 cm aK,.i 1 (.s (.a (.w 5) (.m 4 au)) (.m 4 bQ)) (.w 6),.i 1 (.a (.w 6) ao) af,.j 1 (.a (.v 7) az) aL] rfl (Int.le_of_eq (Eq.symm hl1)) (Int.le_of_eq (Eq.symm v1)) (Int.le_of_eq (Eq.symm hl3)) (Int.le_of_eq (Eq.symm w1)) (Nat.le_of_eq (Eq.symm hel))),by exact (lin [] [_] af af 1 [] rfl),by exact lin [] [_,_,_,_,_,_,_,_] af (.a (.a am (.n 20)) (.m 5 au)) 1 [.i 1 ax (.a am a6),.i 1 aK (.s (.a ax (.m 1 au)) cL),.i 1 (.w 5) cq,.i 1 (.w 6) (.a (.w 5) a6),.i 1 (.w 7) (.s (.a (.w 6) (.m 4 au)) (.m 4 bQ)),.i 1 af (.a (.w 7) ao)] rfl s2 (Int.le_of_eq hl1) (Int.le_of_eq v1) t2 (Int.le_of_eq hl3) (Int.le_of_eq w1)⟩
 ·rw [v1];exact (v1▸v2:lq .I e.T _ _).suf suf2
 ·rw [w1];exact w2
 ·refine e1g (hget k hh hk) fun c c1 c3 c8 c4 c5 c6 c7=>?_
  refine e1b (hfl k hh hk (Nat.zero_le _)) fun d1 e1 e2=>?_
  refine e1b (hfl2 k hh hk (Nat.zero_le _)) fun d2 e3 e4=>?_
  rw [c3] at e1 e3;obtain rfl:=sj e1;obtain rfl:=sj e3
  refine ⟨c,c1,c3,?_,?_⟩
  ·rw [show (e.T.length:Int)-4-k=(a1.T.length:Int)+hs.length-k by exact (Int.le_antisymm (lin [] [_,_,_,_,_] (.s (.s af ao) am) (.s (.a au ax) am) 1 [.i 1 aK (.s (.a au (.m 1 ax)) cL),.i 1 af cq] rfl (Int.le_of_eq hl1) (Int.le_of_eq v1)) (lin [] [_,_,_,_,_] (.s b7 au) (.s (.s ax ao) au) 1 [.i 1 (.s (.a af (.m 1 am)) cL) aK,.i 1 cq ax] rfl (Int.le_of_eq (Eq.symm hl1)) (Int.le_of_eq (Eq.symm v1))))]
   exact e2.suf suf3
  ·rw [show ((gn j2.a hs.length).T.length:Int)-4-4*k=(a2.T.length:Int)+4*(hs.length-k) by exact (Int.le_antisymm (lin [] [_,_,_,_,_] (.s (.s af ao) bO) (.a au (.m 4 (.s ax am))) 1 [.i 1 aK (.s (.a au (.m 4 ax)) (.m 4 bQ)),.i 1 af cq] rfl (Int.le_of_eq hl3) (Int.le_of_eq w1)) (lin [] [_,_,_,_,_] (.a af (.m 4 (.s am au))) (.s (.s ax ao) (.m 4 au)) 1 [.i 1 (.s (.a af bO) (.m 4 bQ)) aK,.i 1 cq ax] rfl (Int.le_of_eq (Eq.symm hl3)) (Int.le_of_eq (Eq.symm w1))))]
   exact e4.suf suf1
end
section
noncomputable def DJ (F:Fm) (T:List UInt8) (q v:Int):Prop:=(q=0∧v=0)∨(q≠0∧q≤T.length∧lq F T q v)
theorem DJ.num {F:Fm} {T T':List UInt8} {q v p:Int} (h:DJ F T q v) (hs:∃X,T'=X++T) (hp:(T.length:Int)<p):zg F T' p q v:=by
 rcases h with h|⟨h1,h2,h3⟩
 ·exact .inl h
 ·exact .inr ⟨h1,by exact (lin [_,_] [_] be an 1 [.i 1 bw an,.i 1 aa af] rfl hp h2),h3.suf hs⟩
theorem pq {l:List Int} {o:Nat} {q:Int} (h:l[o]? = some q):l.set o q=l:=by
 apply List.ext_getElem?
 intro i
 by_cases e:o=i
 ·subst e
  rw [List.getElem?_set_self (List.getElem?_eq_some_iff.mp h).1,h]
 ·rw [List.getElem?_set_ne e]
structure sK (a0 a a':Ab) (l':List Int) (n:Nat):Prop where
 inv:p5 a0 a' l'
 suf:∃X,a'.T=X++a.T
 len:a'.T.length≤a.T.length+n
theorem ng {a0 a:Ab} {l:List Int} {F:Fm} {o x:Int} (O:p5 a0 a l) (hf:a.force=false) (h0:F.lo≤x) (h1:x≤F.hi) (hl:l[o.toNat]? = some 0) :
  ∃q,sK a0 a (gz a F o x 0) (l.set o.toNat q) 16∧DJ F (gz a F o x 0).T q x:=by
 have hpl:=rM a F x
 have hw:=szF F
 unfold gX at hw
 by_cases h:x=0
 ·have e:gz a F o x 0=a:=if_neg (by simp [h,hf])
  rw [e]
  exact ⟨0,⟨by rw [pq hl];exact O,⟨[],rfl⟩,by exact cT [] [_] ab (.a ab (.n 16)) 1 [] rfl⟩, .inl ⟨rfl,h⟩⟩
 ·have e:gz a F o x 0=lu (cU a F x) o:=if_pos (.inl h)
  rw [e]
  refine ⟨(cU a F x).T.length,⟨O.step (jC a F x) o (by lia),(jC a F x).suf,?_⟩, .inr ⟨by lia,Int.le_refl _,nh a h0 h1⟩⟩
  refine (?_:(cU a F x).T.length≤_);exact cT [] [_,_] ab (.a ae (.n 16)) 1 [.i 1 af (.a am (.n 16))] rfl (And.right hpl)
theorem mN {a0 a:Ab} {l:List Int} {o x:Int} (O:p5 a0 a l) (h0:0<x) (h1:x≤a.T.length) (h2:a.T.length≤1048576) :
  ∃q,sK a0 a (ed a o x 0) (l.set o.toNat q) 8∧q≠0∧q≤(ed a o x 0).T.length∧lq .I (ed a o x 0).T q (q-x)∧(ed a o x 0).force=a.force:=by
 have hpl:=dB a (s:=4) (add:=0) (by unfold gX;exact Or.inr (Or.inr (Or.inl (Int.le_antisymm (lin [] [] ao ao 1 [] rfl) (lin [] [] ao ao 1 [] rfl)))))
 have hul:=kL a x
 have e:ed a o x 0=lu (lQ a x) o:=if_pos (.inl (by exact Int.ne_of_gt (lin [_] [] bn aa 1 [.i 1 bn aa] rfl h0)))
 rw [e]
 refine ⟨(lQ a x).T.length,⟨O.step (mR a x) o (by exact cT [] [_,_,_] a8 ae 1 [.i 1 af au,.i 1 b9 am] rfl (And.left hpl) (Int.le_of_eq (Eq.symm (And.left hul)))),(mR a x).suf,?_⟩,by exact (Int.ne_of_gt (lin [_] [_,_,_] bn af 1 [.i 1 bn aa,.i 1 aa am,.i 1 am au,.i 1 b9 af] rfl h0 h1 (And.left hpl) (Int.le_of_eq (Eq.symm (And.left hul))))),Int.le_refl _,pu a (by exact lin [_] [] ai aa 1 [.i 1 bn aa] rfl h0) (by exact lin [_] [_,_] aa af 1 [.i 1 aa am,.i 1 am af] rfl h1 (And.left hpl)) h2,rfl⟩
 refine (?_:(lQ a x).T.length≤_);exact cT [] [_,_] ab (.a ae aE) 1 [.i 1 af (.a am aT)] rfl (And.right (And.right hul))
noncomputable def OpU (T:List UInt8) (ns:List fp) (qk qo h:Int):Prop:=(h<0∧qk=0∧qo=0)∨
 (0≤h∧∃c,ns[h.toNat]? = some c∧(qk≠0∧qk≤T.length∧lq .B T qk c.kind)∧(qo≠0∧qo≤T.length∧lq .I T qo (qo-c.place)))
theorem OpU.suf {T T':List UInt8} {ns:List fp} {qk qo h:Int} (x:OpU T ns qk qo h) (hs:∃X,T'=X++T):OpU T' ns qk qo h:=by
 have hl:(T.length:Int)≤T'.length:=by refine e1a hs fun X zq1=>?_;clear hs;subst zq1;rw [List.length_append];exact lin [] [_,_] af (.c bT) 1 [] rfl
 rcases x with x|⟨h0,c,h1,⟨h2,h3,h4⟩,h5,h6,h7⟩
 ·exact .inl x
 ·exact .inr ⟨h0,c,h1,⟨h2,by exact (lin [_] [_,_] aa af 1 [.i 1 am af,.i 1 aa am] rfl hl h3),h4.suf hs⟩,h5,by exact (lin [_] [_,_] aa af 1 [.i 1 am af,.i 1 aa am] rfl hl h6),h7.suf hs⟩
theorem OpU.op {T T':List UInt8} {ns:List fp} {qk qo h p:Int} (x:OpU T ns qk qo h) (hs:∃X,T'=X++T) (hp:(T.length:Int)<p):OpE T' ns p qk qo h:=by
 rcases x with x|⟨h0,c,h1,⟨h2,h3,h4⟩,h5,h6,h7⟩
 ·exact .inl x
 ·exact .inr ⟨h0,c,h1,⟨h2,by exact (lin [_,_] [_] be an 1 [.i 1 bw an,.i 1 aa af] rfl hp h3),h4.suf hs⟩,h5,by exact (lin [_,_] [_] be an 1 [.i 1 bw an,.i 1 aa af] rfl hp h6),h7.suf hs⟩
theorem yU {a0 a:Ab} {l:List Int} {ns:List fp} {sl:Nat} {wh:Int} (O:p5 a0 a l) (P:wV a ns sl wh l) (hf:a.force=false) (hl0:l[sl]? = some 0) (hl1:l[sl+1]? = some 0) :
  ∃qk qo,sK a0 a (opA a ns sl wh) ((l.set (sl+1) qo).set sl qk) 24∧OpU (opA a ns sl wh).T ns qk qo wh∧(opA a ns sl wh).force=false:=by
 by_cases h:wh<0
 ·have e:opA a ns sl wh=a:=if_pos h
  rw [e]
  exact ⟨0,0,⟨by rw [pq hl1,pq hl0];exact O,⟨[],rfl⟩,by exact cT [] [_] ab (.a ab (.n 24)) 1 [] rfl⟩, .inl ⟨h,rfl,rfl⟩,hf⟩
 ·have p1:=P.hi;have p2:=P.len
  have hget:ns[wh.toNat]? = some (ns[wh.toNat]'(by exact cT [_] [_,_] a8 ae 1 [.i 1 be am,.i 1 af aa] rfl p1 (Int.le_of_eq (Int.toNat_of_nonneg (lin [_] [] ai aa 1 [.i 1 ai aa] rfl (Int.not_lt.mp h)))))):=List.getElem?_eq_getElem (by exact cT [_] [_,_] a8 ae 1 [.i 1 be am,.i 1 af aa] rfl p1 (Int.le_of_eq (Int.toNat_of_nonneg (lin [_] [] ai aa 1 [.i 1 ai aa] rfl (Int.not_lt.mp h)))))
  have hmem:ns[wh.toNat]'(by exact cT [_] [_,_] a8 ae 1 [.i 1 be am,.i 1 af aa] rfl p1 (Int.le_of_eq (Int.toNat_of_nonneg (lin [_] [] ai aa 1 [.i 1 ai aa] rfl (Int.not_lt.mp h)))))∈ns:=List.getElem_mem (by exact cT [_] [_,_] a8 ae 1 [.i 1 be am,.i 1 af aa] rfl p1 (Int.le_of_eq (Int.toNat_of_nonneg (lin [_] [] ai aa 1 [.i 1 ai aa] rfl (Int.not_lt.mp h)))))
  generalize ns[wh.toNat]'(by exact cT [_] [_,_] a8 ae 1 [.i 1 be am,.i 1 af aa] rfl p1 (Int.le_of_eq (Int.toNat_of_nonneg (lin [_] [] ai aa 1 [.i 1 ai aa] rfl (Int.not_lt.mp h)))))=c at hget hmem
  refine e0d (P.nodes c hmem) fun c1 c2 c3 c4=>?_
  have e:opA a ns sl wh=gz (ed a ((sl:Int)+1) c.place 0) .B sl c.kind 0:=by unfold opA;rw [if_neg h,hget]
  rw [e]
  refine e1e (mN (o:=(sl:Int)+1) O (by exact lin [_] [] bn aa 1 [.i 1 ap aa] rfl c1) c2 (by exact cT [] [_] ab aC 1 [.j 1 ab (.n 200000)] rfl p2)) fun qo S1 u1 u2 u3 u4=>?_
  have eo:((sl:Int)+1).toNat=sl+1:=by exact Nat.le_antisymm (cT [] [_,_] ab bc 1 [.i 1 af (.a am ap)] rfl (Int.le_of_eq (Int.toNat_of_nonneg (lin [] [_] ai bw 1 [] rfl)))) (cT [] [_,_] a8 ae 1 [.i 1 bw am] rfl (Int.le_of_eq (Eq.symm (Int.toNat_of_nonneg (lin [] [_] ai bw 1 [] rfl)))))
  rw [eo] at S1
  obtain ⟨qk,S2,k1⟩:=ng (F:=.B) (o:=(sl:Int)) (x:=c.kind) S1.inv (u4.trans hf) (by refine (?_:(0:Int)≤_);exact lin [_] [] ai aa 1 [.i 1 ap aa] rfl c3) (by refine (?_:_≤(255:Int));exact lin [_] [] aa (.n 255) 1 [.i 1 aa a7] rfl c4) (by
   rw [Int.toNat_natCast,List.getElem?_set_ne (by exact Nat.ne_of_gt (cT [] [_] a8 a8 1 [] rfl))];exact hl0)
  rw [Int.toNat_natCast] at S2
  have hs:∃X,(gz (ed a ((sl:Int)+1) c.place 0) .B sl c.kind 0).T=X++a.T:=by
   refine e1a S2.suf fun X hX=>?_
   refine e1a S1.suf fun Y hY=>?_
   exact ⟨X++Y,by rw [hX,hY,List.append_assoc]⟩
  refine ⟨qk,qo,⟨S2.inv,hs,by have:=S1.len;have:=S2.len;exact cT [] [_,_,_] ab (.a ae (.n 24)) 1 [.j 1 ak (.a ae aE),.j 1 ab (.a ak (.n 16))] rfl (by assumption) this⟩, .inr ⟨by exact (lin [_] [] ai aa 1 [.i 1 ai aa] rfl (Int.not_lt.mp h)),c,hget,?_,u1,?_,u3.suf S2.suf⟩,S2.inv.force.trans (O.force.symm.trans hf)⟩
  ·rcases k1 with ⟨_,k2⟩|k2
   ·lia
   ·exact k2
  ·refine e1a S2.suf fun X hX=>?_
   rw [hX,List.length_append];exact lin [_] [_,_] aa (.c a9) 1 [.i 1 aa am] rfl u2
theorem wZ.close2 {a a0 a':Ab} {ns:List fp} {l:List Int} {n:fp} (B:wZ a ns) (S:Sm a a0) (hl0:a0.T.length≤a.T.length+40) (O:p5 a0 a' l) (hb:a'.T.length≤a0.T.length+110) (hl:l.length≤10) (hf:ns.length<100) (hp:n.place=(fO {a' with nested:=false} 0).T.length)
  (hn:∀T',(∃X,T'=X++a'.T)→p7 T' n.place l→jB T' ns ns.length n):wO {a' with nested:=false} l a0.T.length∧wZ (wvA {a' with nested:=false} l a0.T.length) (ns++[n]):=by
 have hT:=B.len
 have hvn:=B.vtn
 have hv0:tL a0.T a0.vts:=by rw [S.vts];refine e1a S.suf fun X hX=>?_;rw [hX];exact B.vts.app X
 have WP:=O.pre (by exact cT [] [_,_] ab (.a ae (.n 2000)) 1 [.j 1 ab (.a ae (.n 110))] rfl hb) (by exact cT [] [_,_,_] ab aQ 1 [.j 1 ab (.a ae (.n 40)),.j 200 bt aR,.j 1 ae (.m 200 ak)] rfl hl0 hf hT) (by exact cT [] [_] ab aI 1 [.j 1 ab aS] rfl hl) hv0 (by rw [S.vts];exact cT [] [_,_] ab aQ 1 [.j 1 bc aR,.j 1 ab ae] rfl hf hvn)
 have W:=yM WP (by refine (?_:tL a'.T a'.vts);rw [O.vts];refine e1a O.suf fun X hX=>?_;rw [hX];exact hv0.app X)
 have hwl:=W.len
 dsimp only at hwl
 have hsuf0:∃X,(wvA {a' with nested:=false} l a0.T.length).T=X++a.T:=by
  refine e1a W.suf fun X hX=>?_
  refine e1a O.suf fun Y hY=>?_
  refine e1a S.suf fun Z hZ=>?_
  exact ⟨X++(Y++Z),by rw [hX];refine (?_:X++a'.T=_);rw [hY,hZ];simp only [List.append_assoc]⟩
 have hN:=hn _ W.suf (by rw [hp];exact W.tab)
 refine ⟨WP,W.nested,W.force.trans (O.force.trans (S.force.trans B.force)),W.fin.trans (O.fin.trans (S.fin.trans B.fin)),?_,W.vts,?_,?_,?_,fun i m hm=>?_⟩
 ·rw [W.mal];refine (?_:gX (if a'.mal<4 then 4 else a'.mal));split
  ·unfold gX;exact Or.inr (Or.inr (Or.inl (Int.le_antisymm (lin [] [] ao ao 1 [] rfl) (lin [] [] ao ao 1 [] rfl))))
  ·exact O.mal
 ·have h1:=W.vtn
  have e2:a'.vts.length=a.vts.length:=by rw [O.vts,S.vts]
  have h2:(wvA {a' with nested:=false} l a0.T.length).vts.length≤a'.vts.length+1:=h1
  simp only [List.length_append,List.length_cons,List.length_nil];exact cT [] [_,_,_,_] ab (.a ae bg) 1 [.j 1 ak ae,.j 1 ab bA,.j 1 av ak] rfl hvn h1 (Nat.le_of_eq e2)
 ·simp only [List.length_append,List.length_cons,List.length_nil];exact cT [] [_,_,_,_,_,_] ab (.m 200 (.a ae bg)) 1 [.j 1 ak (.a av (.n 40)),.j 1 az (.a ak (.n 110)),.j 2 aL aS,.j 1 av bL,.i 1 af (.a (.a aK (.n 11)) (.m 2 (.w 5)))] rfl hl0 hb hl hT hwl
 ·simp only [List.length_append,List.length_cons,List.length_nil];exact cT [] [_] cM aR 1 [.j 1 a8 aR] rfl hf
 ·have:jB (wvA {a' with nested:=false} l a0.T.length).T (ns++[n]) i m:=by
   rcases Nat.lt_trichotomy i ns.length with h|h|h
   ·rw [List.getElem?_append_left h] at hm
    exact (B.nodes i m hm).1.suf hsuf0 [n]
   ·subst h
    rw [List.getElem?_append_right (Nat.le_refl _),Nat.sub_self] at hm
    obtain rfl:=sj hm
    exact hN.suf ⟨[],rfl⟩ [n]
   ·rw [List.getElem?_eq_none (by simp;exact cT [] [_,_] a8 ae 1 [.j 1 a8 ae] rfl h)] at hm;cases hm
  exact ⟨this,this.place⟩
end
section
theorem sZ (n:Int):(Builtin.Range.rangeSize 0 n 1).toNat=n.toNat:=by
 unfold Builtin.Range.rangeSize
 rw [if_pos (by decide)]
 by_cases h:0<n
 ·rw [if_pos h,Int.ediv_one,show n-0-1+1=n by exact (Int.le_antisymm (lin [_] [] (.a (.s (.s aa ai) ap) ap) aa 1 [] rfl) (lin [_] [] aa (.a (.s (.s aa ai) ap) ap) 1 [] rfl))]
 ·rw [if_neg h];exact (Int.toNat_of_nonpos (Int.not_lt.mp h)).symm
theorem fQ (n:Int):(lS 0 n 1).length=n.toNat:=by
 unfold lS
 rw [List.length_map,List.length_range,sZ]
noncomputable def rg (k m:Nat):List P:=(List.range' k m).map fun (i:Nat)=>P.int i
theorem kM (n:Nat):lS 0 n 1=rg 0 n:=by
 unfold lS rg
 rw [sZ,Int.toNat_natCast,List.range_eq_range']
 exact List.map_congr_left fun k _=>by rw [Int.mul_one,Int.zero_add]
structure CH (a:Ab) (ns:List fp) (xs:List Int) (i:Int):Prop where
 B:wZ a ns
 few:ns.length≤20
 xl:xs.length≤64
 i0:0≤i
@[irreducible] noncomputable def sy:Ctr:=fun args kws objs Q=>∃a bytes head ver ns xs i,args=[.ref 0, .ref 1, .ref 2]∧kws=[]∧objs=[bo cP a bytes head ver,dS ns,bxO xs i]∧Rb a.T a.room bytes head∧CH a ns xs i∧
 ∀a' n bytes' head' ver' i',wZ a' (ns++[n])→Rb a'.T a'.room bytes' head'→0≤i'→Q (.p .none) [bo cP a' bytes' head' ver',dS (ns++[n]),bxO xs i']
theorem tj {a:Ab} {bytes:List UInt8} {head:Int} {ver:Nat} {ns:List fp} {xs:List Int} {i:Int} {Q:V→List O→Prop} (hr:Rb a.T a.room bytes head) (hp:CH a ns xs i)
  (h:∀a' n bytes' head' ver' i',wZ a' (ns++[n])→Rb a'.T a'.room bytes' head'→0≤i'→Q (.p .none) [bo cP a' bytes' head' ver',dS (ns++[n]),bxO xs i']):sy [.ref 0, .ref 1, .ref 2] [] [bo cP a bytes head ver,dS ns,bxO xs i] Q:=by
 unfold sy;exact ⟨a,bytes,head,ver,ns,xs,i,rfl,rfl,rfl,hr,hp,h⟩
structure Half (a a0 a':Ab) (ns:List fp) (kind:Int) (hs:List Int) (l:List Int):Prop where
 S:Sm a a0
 l0:a0.T.length≤a.T.length+40
 O:p5 a0 a' l
 ll:l.length≤10
 len:a'.T.length≤a0.T.length+110
 node:∀T' p,(∃X,T'=X++a'.T)→(a'.T.length:Int)<p→p7 T' p l→jB T' ns ns.length ⟨kind,hs,p⟩
theorem z0 {α β:Type} (f:α→β) (l:List α) (x:α):l.map f++[f x]=(l++[x]).map f:=by rw [List.map_append];rfl
theorem pt {x:P} {xs:List P} {k n:Nat} (h:x::xs=rg k n):∃m,n=m+1∧x=.int k∧xs=rg (k+1) m:=by
 cases n with
 |zero=>exact cn h
 |succ m=>cases h;exact ⟨m,rfl,rfl,rfl⟩
structure OpsI (a:Ab) (ns:List fp) (hs:List Int) (xs:List P) (j:Lv):Prop where
 k:j.k≤hs.length
 x:xs=rg j.k (hs.length-j.k)
 r:Rb j.a.T j.a.room j.b j.h
 O:p5 a j.a j.m
 ll:j.m.length=2*hs.length
 z:∀n,2*j.k≤n→n<2*hs.length→j.m[n]? = some 0
 len:j.a.T.length≤a.T.length+24*j.k
 fo:j.a.force=false
 op:∀n,n<j.k→∀h,hs[n]? = some h→∃qk qo,j.m[2*n]? = some qk∧j.m[2*n+1]? = some qo∧OpU j.a.T ns qk qo h
theorem Co {Φ:Addr→Option Ctr} (hT:AT Φ fT ra) (hSO:AT Φ ek nR)
  (hI:AT Φ dP (lg .i)) (hB:AT Φ dD (lg .u8))
  (hU:AT Φ c9 q9) (hRow:AT Φ il Ax) (hOp:AT Φ eL rh)
  (hE:AT Φ e9 wD) :
  BD Φ sy (db 3) 5 m6:=fun args kws objs Q hq=>by
 unfold sy at hq
 obtain ⟨a,bytes,head,ver,ns,xs,i,rfl,rfl,rfl,hr,hp,hq⟩:=hq
 refine lj (env:=[.ref 0, .ref 1, .ref 2]) rfl fun K hK=>?_
 have Bi:=hp.B
 have hfew:=hp.few
 have hTl:=Bi.len
 have hT4:a.T.length≤4000:=by exact cT [] [_,_] ab (.n 4000) 1 [.j 200 ae aU,.j 1 ab bL] rfl hfew hTl
 have htk:∀{i many:Int},0≤i→0<many→tM xs i many:=fun h1 h2=>⟨h1,h2,hp.xl⟩
 have hnodes:∀n∈ns,1≤n.place∧n.place≤a.T.length∧1≤n.kind∧n.kind≤6:=fun n hn=>by
  obtain ⟨j,hj,e⟩:=List.mem_iff_getElem.mp hn
  have hB:=(Bi.nodes j n (by rw [List.getElem?_eq_getElem hj,e])).2
  exact ⟨Int.le_trans (by decide) hB.1,hB.2⟩
 refine kF (fun j=>⟨[some (.ref 0),some (.ref 1),some (.ref 2),some (.p (.int j.x)),none,none,none,none],[bo cP a bytes head ver,dS ns,bxO xs j.y]⟩) (fun j=>(1≤j.x∧j.x≤6)∧0≤j.y) (fun K2 hK2 _=>?_) fun j hj=>?_
 ·lk
  refine de hT rfl rfl (gL (htk hp.i0 (by decide)) fun v i1 hv0 hv1 hi1=>?_)
  lk
  exact hK2 {x:=1+v,y:=i1} ⟨by dsimp only;exact (And.intro (lin [_] [] ap (.a ap aa) 1 [.i 1 ai aa] rfl hv0) (lin [_] [] (.a ap aa) a7 1 [.i 1 be a7] rfl hv1)),hi1⟩
 refine e0b hj fun hk hi0=>?_
 generalize j.x=kind at hk
 generalize j.y=i at hi0
 refine kF (fun j=>⟨[some (.ref 0),some (.ref 1),some (.ref 2),some (.p (.int kind)),some (.p (.lst (j.l.map .int))),j.o.map .p,j.q.map .p,j.r.map .p],[bo cP j.a j.b j.h j.v,dS ns,bxO xs j.x]⟩)
  (fun j=>Rb j.a.T j.a.room j.b j.h∧(∃a0,Half a a0 j.a ns kind j.l j.m)∧0≤j.x) (fun K2 hK2 _=>?_) fun j hj=>?_
 ·lk
  refine dk (fun q=>?_) (fun q=>?_)
  ·have q:kind=1:=of_decide_eq_true q
   subst q
   lk
   refine de hT rfl rfl (gL (htk hi0 (by decide)) fun v i1 hv0 hv1 hi1=>?_)
   lk
   refine ⟨Nat.le_of_ble_eq_true rfl,?_⟩
   lk
   refine dp hSO 0 {x:=1} rfl hr ⟨Bi.nested,show (0:Int)≤1 by decide,show (1:Int)≤1000 by decide⟩ fun bytes1 head1 ver1 hr1=>?_
   lk
   refine eG 0 rfl rfl ?_
   lk
   have hlo:Fm.i.lo≤v-2147483648:=show (-2147483648:Int)≤_ by exact lin [_] [] aD (.s aa aH) 1 [.i 1 ai aa] rfl hv0
   have hhi:v-2147483648≤Fm.i.hi:=show _≤(2147483647:Int) by exact lin [_] [] (.s aa aH) aY 1 [.i 1 be (.n 4294967296)] rfl hv1
   refine dp hI 0 {x:=0,y:=v-2147483648,z:=0} rfl hr1 ⟨[0],⟨hlo,hhi,show a.T.length≤1048576 by exact cT [] [_,_] ab aC 1 [.j 200 ae aU,.j 1 ab bL] rfl hfew hTl⟩,show (-2147483648:Int)≤0 by decide,show (0:Int)≤2147483647 by decide,rfl,rfl,Int.le_refl 0,show (0:Int)<((1:Nat):Int) by decide,Nat.le_of_ble_eq_true rfl⟩ fun bytes2 head2 ver2 hr2=>?_
   refine e1b (ng (F:=.i) (o:=0) (x:=v-2147483648) (p5.start Bi.mal 1) Bi.force hlo hhi rfl) fun q S N=>?_
   lk
   refine hK2 {a:=gz (dA a 1) .i 0 (v-2147483648) 0,b:=bytes2,h:=head2,v:=ver2,x:=i1,l:=[v-2147483648],m:=[q]} ⟨hr2,⟨a, .refl a,Nat.le_add_right _ _,S.inv,Nat.le_of_ble_eq_true rfl,Nat.le_trans S.len (show a.T.length+16≤a.T.length+110 by exact cT [] [_] (.a ab (.n 16)) (.a ab (.n 110)) 1 [] rfl),fun T' p hs hp ht=>.num (v-2147483648) q rfl rfl hlo hhi ht (N.num hs hp)⟩,hi1⟩
  lk
  refine dk (fun q2=>?_) (fun q2=>?_)
  ·have q2:kind=2:=of_decide_eq_true q2
   subst q2
   lk
   refine de hT rfl rfl (gL (htk hi0 (by decide)) fun v i1 hv0 hv1 hi1=>?_)
   lk
   refine ⟨Nat.le_of_ble_eq_true rfl,?_⟩
   lk
   refine dp hSO 0 {x:=1} rfl hr ⟨Bi.nested,show (0:Int)≤1 by decide,show (1:Int)≤1000 by decide⟩ fun bytes1 head1 ver1 hr1=>?_
   lk
   refine eG 0 rfl rfl ?_
   lk
   have hlo:Fm.B.lo≤v:=hv0
   have hhi:v≤Fm.B.hi:=show v≤255 by exact lin [_] [] aa (.n 255) 1 [.i 1 be a6] rfl hv1
   refine dp hB 0 {x:=0,y:=v,z:=0} rfl hr1 ⟨[0],⟨hlo,hhi,show a.T.length≤1048576 by exact cT [] [_,_] ab aC 1 [.j 200 ae aU,.j 1 ab bL] rfl hfew hTl⟩,Int.le_refl 0,show (0:Int)≤255 by decide,rfl,rfl,Int.le_refl 0,show (0:Int)<((1:Nat):Int) by decide,Nat.le_of_ble_eq_true rfl⟩ fun bytes2 head2 ver2 hr2=>?_
   refine e1b (ng (F:=.B) (o:=0) (x:=v) (p5.start Bi.mal 1) Bi.force hlo hhi rfl) fun q S N=>?_
   lk
   refine hK2 {a:=gz (dA a 1) .B 0 v 0,b:=bytes2,h:=head2,v:=ver2,x:=i1,l:=[v],m:=[q]} ⟨hr2,⟨a, .refl a,Nat.le_add_right _ _,S.inv,Nat.le_of_ble_eq_true rfl,Nat.le_trans S.len (show a.T.length+16≤a.T.length+110 by exact cT [] [_] (.a ab (.n 16)) (.a ab (.n 110)) 1 [] rfl),fun T' p hs hp ht=>.name v q rfl rfl hlo (by exact lin [_] [] aa aA 1 [.i 1 be a6] rfl hv1) ht (N.num hs hp)⟩,hi1⟩
  lk
  refine dk (fun q6=>?_) (fun q6=>?_)
  ·have q6:kind=6:=of_decide_eq_true q6
   subst q6
   refine kF (fun _=>⟨[some (.ref 0),some (.ref 1),some (.ref 2),some (.p (.int 6)),some (.p (.lst [])),none,none,none],[bo cP a bytes head ver,dS ns,bxO xs i]⟩) (fun _=>True) (fun K3 hK3 _=>?_) fun _ _=>?_
   ·lk
    refine ⟨Nat.zero_le _,?_⟩
    lk
    exact hK3 {} trivial
   refine kF (fun j=>⟨[some (.ref 0),some (.ref 1),some (.ref 2),some (.p (.int 6)),some (.p (.lst (j.l.map .int))),none,none,none],[bo cP a bytes head ver,dS ns,bxO xs j.x]⟩) (fun j=>(j.l.length≤3∧∀h∈j.l,0≤h∧h<ns.length)∧0≤j.x) (fun K3 hK3 _=>?_) fun j hj=>?_
   ·lk
    refine ⟨Nat.zero_le _,?_⟩
    lk
    refine ⟨trivial,?_⟩
    lk
    refine dk (fun q=>?_) (fun q=>?_)
    ·have hpos:0<ns.length:=by cases ns with|nil=>exact absurd q Bool.false_ne_true|cons n ns=>exact Nat.zero_lt_succ _
     lk
     refine de hT rfl rfl (gL (htk hi0 (by decide)) fun m i1 hm0 hm1 hi1=>?_)
     lk
     refine ⟨⟨by exact (lin [] [] aD ai 1 [] rfl),by exact (lin [] [] ai aH 1 [] rfl),by exact (lin [_] [] aD aa 1 [.i 1 ai aa] rfl hm0),by exact (lin [_] [] aa aH 1 [.i 1 be ao] rfl hm1), .inl rfl⟩,?_⟩
     lk
     refine ⟨⟨rfl,by rw [fQ];exact cT [_] [_] ab aq 1 [.i 1 be ao,.i 1 af aa] rfl hm1 (Int.le_of_eq (Int.toNat_of_nonneg (lin [_] [] ai aa 1 [.i 1 ai aa] rfl hm0)))⟩,?_⟩
     lk
     refine qU (fun j=>⟨[some (.ref 0),some (.ref 1),some (.ref 2),some (.p (.int 6)),some (.p (.lst [])),none,none,none,none],[bo cP a bytes head ver,dS ns,bxO xs j.x]⟩) (fun xs' acc j=>acc=j.l.map .int∧j.l.length+xs'.length=m.toNat∧(∀h∈j.l,0≤h∧h<ns.length)∧0≤j.x)
      (fun x xs' acc j K4 hj hn=>⟨trivial,?_⟩) (fun acc j hj=>⟨trivial,?_⟩) _ _ {x:=i1} ⟨rfl,by rw [fQ];exact Nat.zero_add _,(fun h hh=>nomatch hh),hi1⟩
     ·refine e0d hj fun zq0 hln hh hj0=>?_;clear hj;subst zq0
      lk
      refine ⟨by rw [List.length_map];exact (cT [] [_] ab aq 1 [.j 1 ab aU] rfl hfew),?_⟩
      lk
      refine de hT rfl (by rw [List.length_map];try rfl) (gL (htk hj0 (by exact lin [] [_] bn af 1 [.j 1 bg ab] rfl hpos)) fun v i3 hv0 hv1 hi3=>?_)
      lk
      refine hn _ {l:=j.l++[v],x:=i3} ⟨iB _ _,?_,fun h hm=>?_,hi3⟩
      ·rw [List.length_append];rw [List.length_cons] at hln;refine (?_:j.l.length+1+xs'.length=m.toNat);exact Nat.le_antisymm (cT [] [_,_,_] cH ak 1 [.j 1 cC ak] rfl (Nat.le_of_eq hln)) (cT [] [_,_,_] ab (.a bc ak) 1 [.j 1 ab (.a ae bt)] rfl (Nat.le_of_eq (Eq.symm hln)))
      ·rcases List.mem_append.mp hm with q|q
       ·exact hh h q
       ·rw [List.mem_singleton.mp q];exact ⟨hv0,hv1⟩
     ·refine e0d hj fun zq0 hln hh hj0=>?_;clear hj;subst zq0
      lk
      exact hK3 {l:=j.l,x:=j.x} ⟨⟨by have hln:j.l.length+0=m.toNat:=hln;dsimp only;exact (cT [_] [_,_] ab aM 1 [.i 1 be ao,.j 1 (.a ab ay) ae,.i 1 am aa] rfl hm1 (Nat.le_of_eq hln) (Int.le_of_eq (Int.toNat_of_nonneg (lin [_] [] ai aa 1 [.i 1 ai aa] rfl hm0)))),hh⟩,hj0⟩
    ·lk
     exact hK3 {x:=i} ⟨⟨Nat.zero_le _,fun h hh=>nomatch hh⟩,hi0⟩
   refine e0b hj fun zn1 hi1=>?_;refine e0b zn1 fun hln hh=>?_
   generalize j.l=hs at hln hh
   generalize j.x=i1 at hi1
   lk
   refine de hRow rfl rfl (zN hr ⟨Bi.nested,Bi.mal,by exact (cT [] [_,_] ab aQ 1 [.j 200 ae aU,.j 1 ab bL] rfl hfew hTl),by exact (cT [] [_] ab aR 1 [.j 1 ab aU] rfl hfew),by exact (cT [] [_] ab aS 1 [.j 1 ab aM] rfl hln),hh,hnodes⟩ fun a1 vk vp bytes1 head1 ver1 RO hr1=>?_)
   have rsm:=RO.sm;have k0:=RO.k0;have k1:=RO.k1;have p0:=RO.p0;have p1:=RO.p1;have rlen:=RO.len
   lk
   refine dp hSO 0 {x:=2} rfl hr1 ⟨rsm.nested.trans Bi.nested,show (0:Int)≤2 by decide,show (2:Int)≤1000 by decide⟩ fun bytes2 head2 ver2 hr2=>?_
   have hO0:=p5.start (a0:=a1) (rsm.mal Bi.mal) 2
   have hpl:(a1.T.length:Int)≤(dy (dA a1 2) 4 0).T.length:=(dB (dA a1 2) (s:=4) (add:=0) sz4).1
   have hst:(dA a1 2).T.length=a1.T.length:=rfl
   have hT8:a1.T.length≤8000:=by exact cT [] [_,_,_,_] ab (.n 8000) 1 [.j 200 ae aU,.j 1 ak bL,.j 5 av aM,.i 1 af (.a (.a au (.n 20)) (.m 5 ax))] rfl hfew hTl hln rlen
   refine e1e (mN (o:=0) (x:=vk) hO0 k0 k1 (Nat.le_trans hT8 (by decide))) fun q0 S1 u1 u2 u3 u4=>?_
   have hS1:=S1.len
   rw [hst] at hS1
   have hpl2:=(dB (ed (dA a1 2) 0 vk 0) (s:=4) (add:=0) sz4).1
   have hl1:a1.T.length≤(ed (dA a1 2) 0 vk 0).T.length:=by refine e1a S1.suf fun X hX=>?_;rw [hX,List.length_append,hst];exact Nat.le_add_left _ _
   refine e1e (mN (o:=1) (x:=vp) S1.inv p0 (by exact lin [_] [_,_] aa af 1 [.i 1 aa am,.j 1 ae ab] rfl p1 hl1) (by exact cT [] [_,_,_,_,_] ab aC 1 [.j 200 ae aU,.j 1 ak bL,.j 5 av aM,.i 1 aK (.a (.a au (.n 20)) (.m 5 ax)),.j 1 ab (.a az aE)] rfl hfew hTl hln rlen hS1)) fun q1 S2 w1 w2 w3 w4=>?_
   have hS2:=S2.len
   lk
   refine dp hU 0 {x:=0,y:=vk,z:=0} rfl hr2 ⟨[0,0],⟨Int.le_of_lt k0,show vk≤(dy (dA a1 2) 4 0).T.length by exact (lin [_] [_,_] aa af 1 [.i 1 aa am,.i 1 am af] rfl k1 hpl),show a1.T.length≤1048576 by exact cT [] [_,_,_,_] ab aC 1 [.j 200 ae aU,.j 1 ak bL,.j 5 av aM,.i 1 af (.a (.a au (.n 20)) (.m 5 ax))] rfl hfew hTl hln rlen⟩,rfl,rfl,Int.le_refl 0,show (0:Int)<((2:Nat):Int) by decide,Nat.le_of_ble_eq_true rfl⟩ fun bytes3 head3 ver3 hr3=>?_
   lk
   refine dp hU 0 {x:=1,y:=vp,z:=0} rfl hr3 ⟨[q0,0],⟨Int.le_of_lt p0,show vp≤(dy (ed (dA a1 2) 0 vk 0) 4 0).T.length by exact (lin [_] [_,_,_] aa af 1 [.i 1 aa am,.i 1 au af,.j 1 ae ak] rfl p1 hpl2 hl1),show (ed (dA a1 2) 0 vk 0).T.length≤1048576 by exact cT [] [_,_,_,_,_] ab aC 1 [.j 200 ae aU,.j 1 ak bL,.j 5 av aM,.i 1 aK (.a (.a au (.n 20)) (.m 5 ax)),.j 1 ab (.a az aE)] rfl hfew hTl hln rlen hS1⟩,S1.inv.vt,S1.inv.nested,show (0:Int)≤1 by decide,show (1:Int)<((2:Nat):Int) by decide,Nat.le_of_ble_eq_true rfl⟩ fun bytes4 head4 ver4 hr4=>?_
   lk
   refine hK2 {a:=ed (ed (dA a1 2) 0 vk 0) 1 vp 0,b:=bytes4,h:=head4,v:=ver4,x:=i1,l:=hs,m:=[q0,q1],q:=some (.int vk),r:=some (.int vp)} ⟨hr4,⟨a1,rsm,by exact (cT [] [_,_,_] ab (.a ae (.n 40)) 1 [.j 5 ak aM,.i 1 af (.a (.a am (.n 20)) (.m 5 au))] rfl hln rlen),S2.inv,Nat.le_of_ble_eq_true rfl,show (ed (ed (dA a1 2) 0 vk 0) 1 vp 0).T.length≤a1.T.length+110 by exact (cT [] [_,_,_] ab (.a ae (.n 110)) 1 [.j 1 ak (.a ae aE),.j 1 ab (.a ak aE)] rfl hS1 hS2),fun T' p hsf hp ht=>?_⟩,hi1⟩
   have hsf1:∃X,T'=X++(ed (dA a1 2) 0 vk 0).T:=by
    refine e1a hsf fun X hX=>?_
    refine e1a S2.suf fun Y hY=>?_
    exact ⟨X++Y,by rw [hX,List.append_assoc];exact congrArg _ hY⟩
   have hsf2:∃X,T'=X++a1.T:=by
    refine e1a hsf1 fun X hX=>?_
    refine e1a S1.suf fun Y hY=>?_
    exact ⟨X++Y,by rw [hX,List.append_assoc];exact congrArg _ hY⟩
   have hl2:(ed (dA a1 2) 0 vk 0).T.length≤(ed (ed (dA a1 2) 0 vk 0) 1 vp 0).T.length:=by refine e1a S2.suf fun X hX=>?_;rw [hX,List.length_append];exact Nat.le_add_left _ _
   have hp':((ed (ed (dA a1 2) 0 vk 0) 1 vp 0).T.length:Int)<p:=hp
   exact .row q0 q1 vk vp rfl hln hh ht ⟨u1,show q0<p by exact (lin [_,_] [_,_] be an 1 [.i 1 aa af,.i 1 (.a am ap) an,.j 1 ab ae] rfl u2 hp hl2),u3.suf hsf1⟩ ⟨w1,show q1<p by exact (lin [_,_] [_] be an 1 [.i 1 aa af,.i 1 bw an] rfl w2 hp),w3.suf hsf⟩ (by have q:=RO.row.suf hsf2 [];rw [List.append_nil] at q;exact q)
  ·have q345:kind=3∨kind=4∨kind=5:=by
    have h1:kind≠1:=of_decide_eq_false q
    have h2:kind≠2:=of_decide_eq_false q2
    have h6:kind≠6:=of_decide_eq_false q6
    lia
   obtain ⟨N,hN⟩:∃N:Nat,N=if kind=5 then 3 else 2:=⟨_,rfl⟩
   have hN3:2≤N∧N≤3:=by rw [hN];split<;>decide
   refine kF (fun j=>⟨[some (.ref 0),some (.ref 1),some (.ref 2),some (.p (.int kind)),some (.p (.lst (j.l.map .int))),none,none,none],[bo cP a bytes head ver,dS ns,bxO xs j.x]⟩) (fun j=>(j.l.length=N∧∀h∈j.l,-1≤h∧h<ns.length)∧0≤j.x) (fun K3 hK3 _=>?_) fun j hj=>?_
   ·lk
    refine dk (fun q5=>?_) (fun q5=>?_)
    all_goals
     lk
     refine ⟨⟨by decide,by decide,by decide,by decide, .inl rfl⟩,?_⟩
     lk
     refine ⟨⟨rfl,by rw [fQ];decide⟩,?_⟩
     lk
     refine qU (fun j=>⟨[some (.ref 0),some (.ref 1),some (.ref 2),some (.p (.int kind)),none,none,none,none,none],[bo cP a bytes head ver,dS ns,bxO xs j.x]⟩) (fun xs' acc j=>acc=j.l.map .int∧j.l.length+xs'.length=N∧(∀h∈j.l,-1≤h∧h<ns.length)∧0≤j.x)
      (fun x xs' acc j K4 hj hn=>⟨trivial,?_⟩) (fun acc j hj=>⟨trivial,?_⟩) _ _ {x:=i} ⟨rfl,?_,(fun h hh=>nomatch hh),hi0⟩
     ·refine e0d hj fun zq0 hln hh hj0=>?_;clear hj;subst zq0
      lk
      refine ⟨by rw [List.length_map];exact (cT [] [_] ab aq 1 [.j 1 ab aU] rfl hfew),?_⟩
      lk
      refine de hT rfl (by rw [List.length_map];try rfl) (gL (htk hj0 (by exact lin [] [_] bn bw 1 [] rfl)) fun v i3 hv0 hv1 hi3=>?_)
      lk
      refine hn _ {l:=j.l++[v-1],x:=i3} ⟨iB _ _,?_,fun h hm=>?_,hi3⟩
      ·rw [List.length_append];rw [List.length_cons] at hln;refine (?_:j.l.length+1+xs'.length=N);exact Nat.le_antisymm (cT [] [_,_,_] cH ak 1 [.j 1 cC ak] rfl (Nat.le_of_eq hln)) (cT [] [_,_,_] ab (.a bc ak) 1 [.j 1 ab (.a ae bt)] rfl (Nat.le_of_eq (Eq.symm hln)))
      ·rcases List.mem_append.mp hm with q|q
       ·exact hh h q
       ·rw [List.mem_singleton.mp q];exact ⟨by exact (lin [_] [] (.n (-1)) bU 1 [.i 1 ai aa] rfl hv0),by exact lin [_] [_] (.a bU ap) af 1 [.i 1 be bw] rfl hv1⟩
     ·refine e0d hj fun zq0 hln hh hj0=>?_;clear hj;subst zq0
      lk
      exact hK3 {l:=j.l,x:=j.x} ⟨⟨hln,hh⟩,hj0⟩
     ·rw [fQ,hN]
      first|rw [if_pos (of_decide_eq_true q5)];rfl|rw [if_neg (of_decide_eq_false q5)];rfl
   refine e0b hj fun zn1 hi1=>?_;refine e0b zn1 fun hln hh=>?_
   generalize j.l=hs at hln hh
   generalize j.x=i1 at hi1
   have hlr:2≤hs.length∧hs.length≤3:=by rw [hln];exact hN3
   have hlm:(hs.map P.int).length≤16777216:=by rw [List.length_map];exact cT [] [_,_] ab aq 1 [.j 1 ae aM,.j 1 ab ae] rfl (And.right hN3) (Nat.le_of_eq hln)
   lk
   refine ⟨hlm,?_⟩
   lk
   conv=>whnf
   rw [List.length_map]
   refine ⟨⟨by exact (lin [] [_,_] (.a (.n (-18446744073709551616)) ap) af 1 [.j 1 aG ae,.j 1 ae ab] rfl (And.left hN3) (Nat.le_of_eq (Eq.symm hln))),by exact lin [] [_,_] bw aX 1 [.j 1 ae aM,.j 1 ab ae] rfl (And.right hN3) (Nat.le_of_eq hln)⟩,?_⟩
   lk
   refine dp hSO 0 {x:=2*(hs.length:Int)} rfl hr ⟨Bi.nested,show 0≤2*(hs.length:Int) by exact (lin [] [_,_] ai bD 1 [.j 2 aG ae,.j 2 ae ab] rfl (And.left hN3) (Nat.le_of_eq (Eq.symm hln))),show 2*(hs.length:Int)≤1000 by exact lin [] [_,_] bD (.n 1000) 1 [.j 2 ae aM,.j 2 ab ae] rfl (And.right hN3) (Nat.le_of_eq hln)⟩ fun bytes1 head1 ver1 hr1=>?_
   lk
   refine ⟨hlm,?_⟩
   lk
   conv=>whnf
   rw [List.length_map]
   refine ⟨⟨by exact (lin [] [] aD ai 1 [] rfl),by exact (lin [] [] ai aH 1 [] rfl),by exact (lin [] [_,_] aD af 1 [.j 1 aG ae,.j 1 ae ab] rfl (And.left hN3) (Nat.le_of_eq (Eq.symm hln))),by exact (lin [] [_,_] af aH 1 [.j 1 ae aM,.j 1 ab ae] rfl (And.right hN3) (Nat.le_of_eq hln)), .inl rfl⟩,?_⟩
   lk
   refine qF (n0:=3) (fun j=>⟨[some (.ref 0),some (.ref 1),some (.ref 2),some (.p (.int kind)),some (.p (.lst (hs.map .int))),j.o.map .p,none,none],[bo cP j.a j.b j.h j.v,dS ns,bxO xs i1]⟩) (OpsI a ns hs) (fun x xs' j K3 hj hn _ _=>⟨trivial,?_⟩) (fun j hj=>⟨trivial,?_⟩) _
    {a:=dA a (2*hs.length),b:=bytes1,h:=head1,v:=ver1,m:=List.replicate (2*(hs.length:Int)).toNat 0}
    ⟨Nat.zero_le _,kM _,hr1,p5.start Bi.mal _,by rw [List.length_replicate];exact (Nat.le_antisymm (cT [] [_,_] ab bM 1 [.i 1 af bN] rfl (Int.le_of_eq (Int.toNat_of_nonneg (lin [] [_,_] ai bD 1 [.j 2 aG ae,.j 2 ae ab] rfl (And.left hN3) (Nat.le_of_eq (Eq.symm hln)))))) (cT [] [_,_] bj ae 1 [.i 1 bD am] rfl (Int.le_of_eq (Eq.symm (Int.toNat_of_nonneg (lin [] [_,_] ai bD 1 [.j 2 aG ae,.j 2 ae ab] rfl (And.left hN3) (Nat.le_of_eq (Eq.symm hln)))))))),fun n h0 h1=>by rw [List.getElem?_replicate,if_pos (by exact cT [] [_,_,_] a8 ae 1 [.j 1 a8 bJ,.i 1 bV am] rfl h1 (Int.le_of_eq (Eq.symm (Int.toNat_of_nonneg (lin [] [_,_] ai bD 1 [.j 2 aG ae,.j 2 ae ab] rfl (And.left hN3) (Nat.le_of_eq (Eq.symm hln)))))))],Nat.le_add_right _ _,Bi.force,fun n hn=>absurd hn (Nat.not_lt_zero n)⟩
   ·refine e1c (pt hj.x) fun m hm zq2 hxs=>?_;subst zq2
    have hkl:j.k<hs.length:=by lia
    have hget:hs[j.k]? = some hs[j.k]:=List.getElem?_eq_getElem hkl
    have hmem:=hh _ (List.getElem_mem hkl)
    generalize hs[j.k]=wh at hget hmem
    have hjl:=hj.len;have hjm:=hj.ll
    lk
    refine ⟨⟨by exact (lin [] [_] (.a (.n (-18446744073709551616)) ap) af 1 [] rfl),by exact lin [] [_,_,_] bw aX 1 [.j 1 ae aM,.j 1 ak ae,.j 1 a8 ak] rfl (And.right hN3) (Nat.le_of_eq hln) hkl⟩,?_⟩
    lk
    refine f9 (Int.natCast_nonneg _) (z:=.int wh) (by rw [Int.toNat_natCast,List.getElem?_map,hget];rfl) hlm ?_
    lk
    have hsl:a.T.length≤j.a.T.length:=by refine e1a hj.O.suf fun X hX=>?_;rw [hX,List.length_append];exact Nat.le_add_left _ _
    have OP:wV j.a ns ((2*j.k:Nat):Int) wh j.m:=⟨hmem.1,hmem.2,hj.O.vt,hj.O.nested,Int.natCast_nonneg _,by exact (lin [] [_,_,_] (.a (.a (.c bj) ap) ap) am 1 [.j 2 a8 ak,.j 1 bJ ae] rfl hkl (Nat.le_of_eq (Eq.symm hjm))),by exact (cT [] [_,_,_] ab aR 1 [.j 2 ae aM,.j 2 ak ae,.j 1 ab bJ] rfl (And.right hN3) (Nat.le_of_eq hln) (Nat.le_of_eq hjm)),by exact (cT [] [_,_,_,_,_,_] ab (.n 200000) 1 [.j 200 ae aU,.j 1 ak bL,.j 24 av aM,.j 24 az av,.j 24 (.a aL aj) az,.j 1 ab (.a ak (.m 24 aL))] rfl hfew hTl (And.right hN3) (Nat.le_of_eq hln) hkl hjl),by exact (cT [] [_] ab aR 1 [.j 1 ab aU] rfl hfew),fun n hn=>by
     have hB:=hnodes n hn
     exact ⟨hB.1,by exact (lin [_] [_,_] aa af 1 [.j 1 ae ab,.i 1 aa am] rfl hsl (And.left (And.right hB))),hB.2.2⟩⟩
    refine de hOp rfl rfl (ta (sl:=((2*j.k:Nat):Int)) j.m hj.r OP fun b2 hd2 vr2 hr2=>?_)
    lk
    refine e2c (yU hj.O OP hj.fo (hj.z _ (Nat.le_refl _) (by exact cT [] [_,_] cB bM 1 [.j 2 a8 ae] rfl hkl)) (hj.z _ (Nat.le_succ _) (by exact cT [] [_,_] (.a cB aj) bM 1 [.j 2 a8 ae] rfl hkl))) fun qk qo S U hfo'=>?_
    have hSl:=S.len
    refine (hn _ {k:=j.k+1,a:=opA j.a ns ((2*j.k:Nat):Int) wh,b:=b2,h:=hd2,v:=vr2,m:=(j.m.set (2*j.k+1) qo).set (2*j.k) qk,o:=some (.int j.k)} rfl ⟨hkl,by rw [hxs];exact congrArg (rg _) (show m=hs.length-(j.k+1) by exact Nat.le_antisymm (cT [] [_,_,_,_,_] ab ae 1 [.j 1 a8 ak,.j 1 bB az,.j 1 az (.a ae bA)] rfl (Nat.le_of_eq (Eq.symm hm)) (Nat.le_of_eq (Nat.sub_add_cancel (cT [] [_,_] ab ae 1 [.j 1 a8 ae] rfl hkl))) (Nat.le_of_eq (Eq.symm (Nat.sub_add_cancel (cT [] [_,_] a8 ae 1 [.j 1 a8 ae] rfl hkl))))) (cT [] [_,_,_,_,_] ab ae 1 [.j 1 ak bc,.j 1 av (.a ak az),.j 1 (.a ab (.a az aj)) av] rfl (Nat.le_of_eq hm) (Nat.le_of_eq (Eq.symm (Nat.sub_add_cancel (cT [] [_,_] ab ae 1 [.j 1 a8 ae] rfl hkl)))) (Nat.le_of_eq (Nat.sub_add_cancel (cT [] [_,_] a8 ae 1 [.j 1 a8 ae] rfl hkl))))),hr2,S.inv,by rw [List.length_set,List.length_set];exact hjm,fun n h0 h1=>?_,show (opA j.a ns ((2*j.k:Nat):Int) wh).T.length≤a.T.length+24*(j.k+1) by exact (cT [] [_,_,_,_] ab (.a ae (.m 24 bt)) 1 [.j 1 av (.a ae (.m 24 ak)),.j 1 ab (.a av (.n 24))] rfl hjl hSl),hfo',fun n hn h hg=>?_⟩).1
    ·have h0:2*(j.k+1)≤n:=h0
     rw [List.getElem?_set_ne (by exact Nat.ne_of_lt (cT [] [_,_] cB ae 1 [.j 1 cG ae] rfl (by assumption))),List.getElem?_set_ne (by exact Nat.ne_of_lt (cT [] [_,_] (.a cB aj) ae 1 [.j 1 cG ae] rfl (by assumption)))]
     exact hj.z n (by exact cT [] [_,_] bj ae 1 [.j 1 cG ae] rfl (by assumption)) h1
    ·have hn:n<j.k+1:=hn
     rcases Nat.lt_or_ge n j.k with q|q
     ·refine e2c (hj.op n q h hg) fun qk' qo' g1 g2 g3=>?_
      refine ⟨qk',qo',?_,?_,g3.suf S.suf⟩
      ·rw [List.getElem?_set_ne (by exact Nat.ne_of_gt (cT [] [_,_] cB bM 1 [.j 2 a8 ae] rfl q)),List.getElem?_set_ne (by exact Nat.ne_of_gt (cT [] [_,_] cB (.a bM aj) 1 [.j 2 a8 ae] rfl q))];exact g1
      ·rw [List.getElem?_set_ne (by exact Nat.ne_of_gt (cT [] [_,_] (.a cB aj) bM 1 [.j 2 a8 ae] rfl q)),List.getElem?_set_ne (by exact Nat.ne_of_gt (cT [] [_,_] (.a cB aj) (.a bM aj) 1 [.j 2 a8 ae] rfl q))];exact g2
     ·have e:n=j.k:=by exact Nat.le_antisymm (cT [] [_,_] ab ae 1 [.j 1 a8 bc] rfl (by assumption)) (cT [] [_,_] ab ae 1 [.j 1 ab ae] rfl q)
      rw [e] at hg ⊢
      rw [hget] at hg;obtain rfl:=sj hg
      refine ⟨qk,qo,?_,?_,U⟩
      ·rw [List.getElem?_set_self (by rw [List.length_set];exact cT [] [_,_,_] cB ae 1 [.j 2 a8 ak,.j 1 bJ ae] rfl hkl (Nat.le_of_eq (Eq.symm hjm)))]
      ·rw [List.getElem?_set_ne (by exact Nat.ne_of_lt (cT [] [_] cB cB 1 [] rfl)),List.getElem?_set_self (by exact cT [] [_,_,_] (.a cB aj) ae 1 [.j 2 a8 ak,.j 1 bJ ae] rfl hkl (Nat.le_of_eq (Eq.symm hjm)))]
   ·have hk0:j.k=hs.length:=by
     have q:=congrArg List.length hj.x
     unfold rg at q
     rw [List.length_map,List.length_range'] at q
     have q:0=hs.length-j.k:=q
     have hk:=hj.k
     exact Nat.le_antisymm (cT [] [_,_] ab ae 1 [.j 1 ab ae] rfl hk) (cT [] [_,_,_] ab ae 1 [.j 1 ak ay,.j 1 ab bC] rfl (Nat.le_of_eq (Eq.symm q)) (Nat.le_of_eq (Eq.symm (Nat.sub_add_cancel (cT [] [_,_] ab ae 1 [.j 1 ab ae] rfl hk)))))
    have hjl:=hj.len;have hjm:=hj.ll
    lk
    refine hK2 {a:=j.a,b:=j.b,h:=j.h,v:=j.v,x:=i1,l:=hs,m:=j.m,o:=j.o} ⟨hj.r,⟨a, .refl a,Nat.le_add_right _ _,hj.O,show j.m.length≤10 by exact (cT [] [_,_,_] ab aS 1 [.j 2 ae aM,.j 2 ak ae,.j 1 ab bJ] rfl (And.right hN3) (Nat.le_of_eq hln) (Nat.le_of_eq hjm)),show j.a.T.length≤a.T.length+110 by exact (cT [] [_,_,_,_,_] ab (.a ae (.n 110)) 1 [.j 24 ak aM,.j 24 av ak,.j 24 az av,.j 1 ab (.a ae (.m 24 az))] rfl (And.right hN3) (Nat.le_of_eq hln) (Nat.le_of_eq hk0) hjl),fun T' p hsf hp ht=>?_⟩,hi1⟩
    refine .ops j.m q345 (hln.trans hN) hh ht hjm fun k' h hg=>?_
    refine e2c (hj.op k' (by rw [hk0];exact (List.getElem?_eq_some_iff.mp hg).1) h hg) fun qk qo g1 g2 g3=>?_
    exact ⟨qk,qo,g1,g2,g3.op hsf hp⟩
 refine e0c hj fun hr1 zn1 hi1=>?_;refine e1a zn1 fun a0 H=>?_
 have hvt:=H.O.vt;have hoe:=H.O.oe
 have hrl:=iz {j.a with nested:=false} 0
 have hq1:(j.a.T.length:Int)≤(dy {j.a with nested:=false} 4 0).T.length:=(dB {j.a with nested:=false} (s:=4) (add:=0) sz4).1
 refine e0b (Bi.close2 (n:=⟨kind,j.l,(fO {j.a with nested:=false} 0).T.length⟩) H.S H.l0 H.O H.len H.ll (by exact cT [] [_] a8 aR 1 [.j 1 ab aU] rfl hfew) rfl fun T'' hs' ht=>H.node T'' _ hs' (show (j.a.T.length:Int)<((fO {j.a with nested:=false} 0).T.length:Int) by exact lin [] [_,_,_] bw am 1 [.i 1 b9 am,.i 1 af au] rfl (Int.le_of_eq (Eq.symm hrl)) hq1) ht) fun WP C=>?_
 lk
 refine dp hE 0 {x:=a0.T.length} rfl hr1 ⟨j.m,H.O.nested,hvt,hoe,WP⟩ fun bytes2 head2 ver2 hr2=>?_
 dsimp only at hr2
 have hvd:j.a.vt.getD []=j.m:=by rw [hvt];rfl
 rw [hvd] at hr2
 lk
 refine ⟨Nat.le_of_ble_eq_true rfl,?_⟩
 lk
 refine ⟨by rw [List.length_map];exact (cT [] [_] a8 aq 1 [.j 1 ab aU] rfl hfew),?_⟩
 lk
 conv=>whnf
 rw [hvd]
 have h2:=hq _ ⟨kind,j.l,(fO {j.a with nested:=false} 0).T.length⟩ _ _ ver2 _ C hr2 hi1
 rw [show dS (ns++[⟨kind,j.l,(fO {j.a with nested:=false} 0).T.length⟩])=O.bx (.lst (ns.map kO++[kO ⟨kind,j.l,(fO {j.a with nested:=false} 0).T.length⟩])) from congrArg (fun z=>O.bx (.lst z)) (z0 kO ns _).symm] at h2
 exact hK .next _ [bo cP (wvA {j.a with nested:=false} j.m a0.T.length) bytes2 head2 ver2,O.bx (.lst (ns.map kO++[kO ⟨kind,j.l,(fO {j.a with nested:=false} 0).T.length⟩])),bxO xs j.x] [] rfl rfl h2
end
section
noncomputable abbrev Met:=List (Int × Int)
noncomputable def oT (m:Met) (k:Int):Option Int:=(m.find? fun x=>decide (x.1=k)).map (·.2)
noncomputable def vw (m:Met) (k v:Int):Met:=match oT m k with
 |some _=>m.map fun x=>if decide (x.1=k) then (x.1,v) else x
 |none=>m++[(k,v)]
noncomputable def rx (m:Met):List (P × P):=m.map fun x=>(P.int x.1,P.int x.2)
theorem wj (a b:Int):eqB (.int a) (.int b)=decide (a=b):=by
 unfold eqB;by_cases h:a=b
 ·subst h;simp
 ·simp [h]
theorem gc (m:Met) (k:Int):iQ (rx m) (.int k)=(oT m k).map .int:=by
 unfold iQ oT rx
 induction m with
 |nil=>rfl
 |cons x m ih=>
  simp only [List.map_cons,List.find?_cons,wj]
  cases decide (x.1=k) with
  |true=>rfl
  |false=>exact ih
theorem qN (m:Met) (k v:Int):o5 (rx m) (.int k) (.int v)=rx (vw m k v):=by
 unfold o5 vw
 rw [gc]
 cases oT m k with
 |none=>simp [rx]
 |some z=>
  simp only [Option.map_some]
  unfold rx
  rw [List.map_map,List.map_map]
  refine List.map_congr_left fun x _=>?_
  simp only [Function.comp,wj]
  clear z;cases decide (x.1=k)<;>simp
theorem gq (m:Met) (k:Int):nA (.int k) (rx m):=.inl ⟨⟨k,rfl⟩,fun x hx=>by
 refine e1b (List.mem_map.mp hx) fun y _ zq2=>?_;subst zq2;exact ⟨_,rfl⟩⟩
theorem oW (m:Met):pE (rx m):=fun x hx=>by
 refine e1b (List.mem_map.mp hx) fun y _ zq2=>?_;subst zq2;exact ⟨⟨_,rfl⟩,⟨_,rfl⟩⟩
theorem ti (m:Met):(rx m).length=m.length:=List.length_map _
noncomputable def bdI (v:Int):Prop:=-1000003≤v∧v≤1000003
structure MOK (m:Met):Prop where
 nd:(m.map (·.1)).Nodup
 bd:∀x∈m,bdI x.2
theorem xN {m:Met} {k v:Int} (h:oT m k=some v):(k,v)∈m:=by
 unfold oT at h
 cases hf:m.find? fun x=>decide (x.1=k) with
 |none=>rw [hf] at h;exact ns h
 |some x=>
  rw [hf] at h
  have h1:=List.find?_some hf
  have h2:=List.mem_of_find?_eq_some hf
  have h3:x.1=k:=of_decide_eq_true h1
  clear h1;obtain rfl:=sj h
  rw [←h3];exact h2
theorem vE {m:Met} {k:Int} (h:oT m k=none):k∉m.map (·.1):=fun hm=>by
 refine e1b (List.mem_map.mp hm) fun x hx zq2=>?_;subst zq2
 unfold oT at h
 rw [Option.map_eq_none_iff,List.find?_eq_none] at h
 exact h x hx (by simp)
theorem vD {m:Met} (hn:(m.map (·.1)).Nodup) {x:Int × Int} (hx:x∈m):oT m x.1=some x.2:=by
 induction m with
 |nil=>cases hx
 |cons y m ih=>
  unfold oT
  rw [List.map_cons,List.nodup_cons] at hn
  rcases List.mem_cons.mp hx with rfl|h
  ·simp
  ·have:y.1≠x.1:=fun e=>hn.1 (by rw [e];exact List.mem_map_of_mem h)
   rw [List.find?_cons,decide_eq_false this]
   exact ih hn.2 h
theorem x7 {m:Met} (hn:(m.map (·.1)).Nodup):eqD (rx m) (rx m)=true:=by
 unfold eqD
 rw [Bool.and_eq_true,List.all_eq_true]
 refine ⟨by simp,fun x hx=>?_⟩
 refine e1b (List.mem_map.mp hx) fun y hy zq2=>?_;subst zq2
 dsimp only
 rw [gc,vD hn hy]
 simp [eqB]
theorem vv (m:Met) (k v:Int):(vw m k v).map (·.1)=if (oT m k).isSome then m.map (·.1) else m.map (·.1)++[k]:=by
 unfold vw
 cases oT m k with
 |none=>simp
 |some z=>
  simp only [List.map_map,Option.isSome_some,if_true]
  refine List.map_congr_left fun x _=>?_
  simp only [Function.comp]
  clear z;cases decide (x.1=k)<;>simp
theorem zX {m:Met} {k v:Int} (h:MOK m) (hv:bdI v):MOK (vw m k v)∧(vw m k v).length≤m.length+1:=by
 have hk:=vv m k v
 refine ⟨⟨?_,fun x hx=>?_⟩,?_⟩
 ·rw [hk]
  cases hg:oT m k with
  |some z=>exact h.nd
  |none=>
   refine List.nodup_append.mpr ⟨h.nd,by simp,fun a ha b hb e=>?_⟩
   simp at hb;subst hb;subst e
   exact vE hg ha
 ·unfold vw at hx
  split at hx
  ·refine e1b (List.mem_map.mp hx) fun y hy zq2=>?_;subst zq2
   split
   ·exact hv
   ·exact h.bd y hy
  ·rcases List.mem_append.mp hx with q|q
   ·exact h.bd x q
   ·simp at q;subst q;exact hv
 ·have:=congrArg List.length hk
  rw [List.length_map] at this
  rw [this]
  split<;>simp
noncomputable def qx:Nat→List Int→List Int
 |_,[]=>[]
 |k,w::ws=>((k:Int)+1)*w::qx (k+1) ws
noncomputable def ij (kind:Int) (ws:List Int):Int:=
 if kind=3 then (ws.getD 0 0+ws.getD 1 0) % 1000003 else if kind=4 then ws.getD 0 0*ws.getD 1 0 % 1000003 else (qx 0 ws).sum % 1000003
theorem vN (kind:Int) (ws:List Int):bdI (ij kind ws):=by
 unfold ij bdI;split
 ·exact And.intro (lin [_] [] aV aa 1 [.i 1 ai aa] rfl (Int.emod_nonneg _ (show (1000003:Int)≠0 by decide))) (lin [_] [] aa aP 1 [.i 1 be aP] rfl (Int.emod_lt_of_pos _ (show (0:Int)<1000003 by decide)))
 ·split
  ·generalize ws.getD 0 0*ws.getD 1 0=z;exact And.intro (lin [_] [] aV aa 1 [.i 1 ai aa] rfl (Int.emod_nonneg _ (show (1000003:Int)≠0 by decide))) (lin [_] [] aa aP 1 [.i 1 be aP] rfl (Int.emod_lt_of_pos _ (show (0:Int)<1000003 by decide)))
  ·exact And.intro (lin [_] [] aV aa 1 [.i 1 ai aa] rfl (Int.emod_nonneg _ (show (1000003:Int)≠0 by decide))) (lin [_] [] aa aP 1 [.i 1 be aP] rfl (Int.emod_lt_of_pos _ (show (0:Int)<1000003 by decide)))
noncomputable def evs (f:Int→Met→Int × Met):List Int→Met→List Int × Met
 |[],m=>([],m)
 |h::hs,m=>((f h m).1::(evs f hs (f h m).2).1,(evs f hs (f h m).2).2)
theorem wb (f:Int→Met→Int × Met):∀(hs:List Int) (m:Met),(evs f hs m).1.length=hs.length
 |[],m=>rfl
 |h::hs,m=>by refine (?_:((f h m).1::(evs f hs (f h m).2).1).length=_);rw [List.length_cons,wb f hs,List.length_cons]
noncomputable def evN (names:List Int) (f:Int→Met→Int × Met) (n:fp) (m:Met):Int × Met:=
 if n.kind=1 then (n.holds.getD 0 0 % 1000003-500000,m)
 else if n.kind=2 then (names.getD (n.holds.getD 0 0).toNat 0,m)
 else if n.kind=5 then f (if 0<(f (n.holds.getD 0 0) m).1 then n.holds.getD 1 0 else n.holds.getD 2 0) (f (n.holds.getD 0 0) m).2
 else (ij n.kind (evs f n.holds m).1,(evs f n.holds m).2)
noncomputable def ev (ns:List fp) (names:List Int):Nat→Int→Met→Int × Met
 |0,_,m=>(0,m)
 |f+1,h,m=>if h<0 then (7,m) else match ns[h.toNat]? with
  |none=>(0,m)
  |some n=>match oT m n.place with
   |some v=>(v,m)
   |none=>((evN names (ev ns names f) n m).1,vw (evN names (ev ns names f) n m).2 n.place (evN names (ev ns names f) n m).1)
structure FOK (f:Int→Met→Int × Met) (B:Nat):Prop where
 ok:∀h m,MOK m→MOK (f h m).2
 bd:∀h m,MOK m→bdI (f h m).1
 len:∀h m,MOK m→(f h m).2.length≤m.length+B
theorem wa {f:Int→Met→Int × Met} {B:Nat} (hf:FOK f B):∀(hs:List Int) (m:Met),MOK m→MOK (evs f hs m).2∧(∀v∈(evs f hs m).1,bdI v)∧(evs f hs m).2.length≤m.length+hs.length*B
 |[],m,h=>⟨h,(fun v hv=>nomatch hv),Nat.le_add_right _ _⟩
 |x::hs,m,h=>by
  refine e0c (wa hf hs (f x m).2 (hf.ok x m h)) fun h1 h2 h3=>?_
  have h4:=hf.len x m h
  refine ⟨h1,fun v hv=>?_,?_⟩
  ·rcases List.mem_cons.mp hv with rfl|hv
   ·exact hf.bd x m h
   ·exact h2 v hv
  ·refine (?_:(evs f hs (f x m).2).2.length≤_)
   rw [List.length_cons,Nat.succ_mul];exact cT [] [_,_,_,_,_] ab (.a ae bB) 1 [.j 1 ab (.a az ak),.j 1 az bS] rfl h3 h4
theorem wi {names:List Int} {f:Int→Met→Int × Met} {B:Nat} {n:fp} (hf:FOK f B) (hn:∀v∈names,bdI v) (hl:n.holds.length≤3) (m:Met) (h:MOK m):MOK (evN names f n m).2∧bdI (evN names f n m).1∧(evN names f n m).2.length≤m.length+3*B:=by
 unfold evN
 split
 ·refine ⟨h,?_,Nat.le_add_right _ _⟩
  unfold bdI;exact And.intro (lin [_] [] aV (.s aa (.n 500000)) 1 [.i 1 ai aa] rfl (Int.emod_nonneg _ (show (1000003:Int)≠0 by decide))) (lin [_] [] (.s aa (.n 500000)) aP 1 [.i 1 be aP] rfl (Int.emod_lt_of_pos _ (show (0:Int)<1000003 by decide)))
 ·split
  ·refine ⟨h,?_,Nat.le_add_right _ _⟩
   refine (?_:bdI (names.getD _ 0))
   rw [List.getD_eq_getElem?_getD]
   cases hg:names[(n.holds.getD 0 0).toNat]? with
   |none=>unfold bdI;decide
   |some v=>exact hn v (List.mem_of_getElem? hg)
  ·clear hn names;split
   ·have h1:=hf.ok (n.holds.getD 0 0) m h
    have h2:=hf.len (n.holds.getD 0 0) m h
    refine ⟨hf.ok _ _ h1,hf.bd _ _ h1,?_⟩
    have:=hf.len (if 0<(f (n.holds.getD 0 0) m).1 then n.holds.getD 1 0 else n.holds.getD 2 0) _ h1
    exact cT [] [_,_,_,_] ab (.a ae cv) 1 [.j 1 av bp,.j 1 ab (.a av ak)] rfl h2 this
   ·refine e0c (wa hf n.holds m h) fun h1 h2 h3=>?_
    refine ⟨h1,vN _ _,Nat.le_trans h3 ?_⟩
    have:n.holds.length*B≤3*B:=Nat.mul_le_mul_right B hl
    exact cT [] [_,_,_] a9 (.a ab cv) 1 [.j 1 ae cv] rfl this
theorem x6 {ns:List fp} {names:List Int} (hn:∀v∈names,bdI v) (hl:∀n∈ns,n.holds.length≤3):∀k:Nat,FOK (ev ns names k) (4 ^ k)
 |0=>⟨fun h m hm=>hm,fun h m hm=>by unfold bdI;exact ⟨by refine (?_:(-1000003:Int)≤0);decide,by refine (?_:(0:Int)≤_);decide⟩,fun h m hm=>by refine (?_:m.length≤_);exact cT [] [_] ab a8 1 [] rfl⟩
 |k+1=>by
  have ih:=x6 hn hl k
  have key:∀h m,MOK m→MOK (ev ns names (k+1) h m).2∧bdI (ev ns names (k+1) h m).1∧(ev ns names (k+1) h m).2.length≤m.length+4 ^ (k+1):=fun h m hm=>by
   unfold ev
   split
   ·exact ⟨hm,(by unfold bdI;dsimp only;exact And.intro (lin [] [] aV (.n 7) 1 [] rfl) (lin [] [] (.n 7) aP 1 [] rfl)),Nat.le_add_right _ _⟩
   ·split
    ·exact ⟨hm,(by unfold bdI;dsimp only;exact And.intro (lin [] [] aV ai 1 [] rfl) (lin [] [] ai aP 1 [] rfl)),Nat.le_add_right _ _⟩
    ·rename_i n hg
     split
     ·rename_i v hv
      exact ⟨hm,hm.bd _ (xN hv),Nat.le_add_right _ _⟩
     ·refine e0c (wi ih hn (hl n (List.mem_of_getElem? hg)) m hm) fun h1 h2 h3=>?_
      refine e0b (zX (k:=n.place) h1 h2) fun h4 h5=>?_
      refine ⟨h4,h2,?_⟩
      have:1≤4 ^ k:=Nat.one_le_pow _ _ (by decide)
      rw [Nat.pow_succ]
      dsimp only
      exact cT [] [_,_,_,_] ab (.a ae (.r ak 4)) 1 [.j 1 av (.a ae cv),.j 1 ab bA,.j 1 aj ak] rfl h3 h5 this
  exact ⟨fun h m hm=>(key h m hm).1,fun h m hm=>(key h m hm).2.1,fun h m hm=>(key h m hm).2.2⟩
theorem l4 {F:Fm} {d:List UInt8} {q v:Int} (h:lq F d q v) (hd:d.length≤16777216):inB F d (d.length-q)∧rdF F d (d.length-q)=v:=by
 have h1:=h.lo;have h2:=h.hi
 exact ⟨⟨by exact (lin [_] [_] ai bf 1 [.i 1 aa af] rfl h2),by exact (lin [_] [_,_] (.a bf am) af 1 [.i 1 am aa] rfl h1),hd⟩,(xC (by exact lin [_] [_] ai aa 1 [.i 1 af aa] rfl h1) h2).trans h.rd⟩
noncomputable def BB (p:Int) (L:List Int) (i:Nat):Int:=match L[i]? with|some q=>if q=0 then 0 else p-q|none=>0
theorem tc {d:List UInt8} {p:Int} {L:List Int} (h:p7 d p L) (hd:d.length≤16777216) (i:Nat):pc d (d.length-p) (4+2*i)∧qd d (d.length-p) (4+2*i)=BB p L i:=by
 obtain ⟨h1,h2,h3,h4,h5,h6⟩:=h
 have e1:rdF .i d (d.length-p)=rdE .i d p:=xC (by exact lin [_] [] ai aa 1 [.i 1 ao aa] rfl h1) h2
 have e2:uz d (d.length-p)=d.length-(p+rdE .i d p):=by unfold uz;rw [e1];exact Int.le_antisymm (lin [_,_] [_] (.s bf an) (.s af bl) 1 [] rfl) (lin [_,_] [_] (.s af bl) (.s bf an) 1 [] rfl)
 have e3:rdF .H d (uz d (d.length-p))=rdE .H d (p+rdE .i d p):=by rw [e2];exact xC (by exact lin [_,_] [] ai bl 1 [.i 1 aA bl] rfl h3) h4
 have e4:(4+2*(i:Int))<rdE .H d (p+rdE .i d p)→uz d (d.length-p)+(4+2*i)=d.length-(p+rdE .i d p-(4+2*i)):=fun h=>by rw [e2];exact Int.le_antisymm (lin [_,_] [_,_] (.a (.s af bl) cF) (.s af (.s bl cF)) 1 [] rfl) (lin [_,_] [_,_] (.s af (.s bl cF)) (.a (.s af bl) cF) 1 [] rfl)
 refine ⟨⟨⟨by exact (lin [_] [_] ai bf 1 [.i 1 aa af] rfl h2),by simp only [Fm.w];exact (lin [_] [_] (.a bf (.c aF)) af 1 [.i 1 ao aa] rfl h1),hd⟩,⟨by rw [e2];exact (lin [_,_] [_] ai (.s af bl) 1 [.i 1 bl af] rfl h4),by rw [e2];simp only [Fm.w];exact (lin [_,_] [_] (.a (.s af bl) (.c aG)) af 1 [.i 1 aA bl] rfl h3),hd⟩,fun hv=>?_⟩,?_⟩
 ·rw [e3] at hv
  have:=h5 i hv
  rw [e4 hv]
  exact ⟨by exact (lin [_,_] [_,_] ai (.s af (.s bl cF)) 1 [.i 1 bl af] rfl h4),by simp only [Fm.w];exact (lin [_,_] [_,_] (.a (.s af (.s bl cF)) (.c aG)) af 1 [.i 1 (.a cF aA) bl] rfl this),hd⟩
 ·have h6:=h6 i
  refine Eq.trans ?_ h6
  unfold qd
  rw [e3]
  clear hd;split
  ·rename_i hv
   have:=h5 i hv
   rw [e4 hv]
   exact xC (by exact lin [_,_] [_] ai (.s bl (.a ao bD)) 1 [.i 1 (.a (.a ao bD) aA) bl] rfl this) (by exact lin [_,_] [_,_] (.s bl (.a ao bD)) am 1 [.i 1 bl am] rfl h4)
  ·rfl
theorem vg {F:Fm} {d:List UInt8} {p q v:Int} {L:List Int} (h:p7 d p L) (hd:d.length≤16777216) {i:Nat} (hi:L[i]? = some q) (hn:zg F d p q v) :
  pc d (d.length-p) (4+2*i)∧(qd d (d.length-p) (4+2*i)≠0→inB F d (d.length-p+qd d (d.length-p) (4+2*i)))∧(if qd d (d.length-p) (4+2*i)=0 then 0 else rdF F d (d.length-p+qd d (d.length-p) (4+2*i)))=v:=by
 refine e0b (tc h hd i) fun h1 h2=>?_
 refine ⟨h1,?_⟩
 have hs:BB p L i=if q=0 then 0 else p-q:=by unfold BB;rw [hi]
 rw [h2,hs]
 clear hi h h1 hs h2;rcases hn with ⟨rfl,rfl⟩|⟨n1,n2,n3⟩
 ·simp
 ·refine e0b (l4 n3 hd) fun g1 g2=>?_
  rw [if_neg n1,if_neg (by exact Int.ne_of_gt (lin [_,_] [] bn bi 1 [.i 1 bP aa] rfl n2)),show (d.length:Int)-p+(p-q)=d.length-q by exact (Int.le_antisymm (lin [_,_] [_] (.a bf bi) bv 1 [] rfl) (lin [_,_] [_] bf (.a bv bH) 1 [] rfl))]
  exact ⟨fun _=>g1,g2⟩
end
section
structure DK (kind:Int) (ws:List Int):Prop where
 two:kind=3∨kind=4→2≤ws.length
 few:ws.length≤10
 bd:∀v∈ws,bdI v
@[irreducible] noncomputable def oE:Ctr:=fun args kws objs Q=>∃kind ws,kws=[]∧DK kind ws∧((args=[.p (.int kind), .p (.lst (ws.map .int))]∧objs=[]∧Q (.p (.int (ij kind ws))) [])∨
 (args=[.p (.int kind), .ref 0]∧objs=[.bx (.lst (ws.map .int))]∧Q (.p (.int (ij kind ws))) [.bx (.lst (ws.map .int))]))
theorem tu {kind:Int} {ws:List Int} {Q:V→List O→Prop} (hp:DK kind ws) (h:Q (.p (.int (ij kind ws))) []):oE [.p (.int kind), .p (.lst (ws.map .int))] [] [] Q:=by
 unfold oE;exact ⟨kind,ws,rfl,hp, .inl ⟨rfl,rfl,h⟩⟩
theorem vO {kind:Int} {ws:List Int} {Q:V→List O→Prop} (hp:DK kind ws) (h:Q (.p (.int (ij kind ws))) [.bx (.lst (ws.map .int))]):oE [.p (.int kind), .ref 0] [] [.bx (.lst (ws.map .int))] Q:=by
 unfold oE;exact ⟨kind,ws,rfl,hp, .inr ⟨rfl,rfl,h⟩⟩
theorem xE (ws:List Int) (k:Nat) (hk:k+ws.length≤1000) (hb:∀v∈ws,bdI v):∀v∈qx k ws,-(2 ^ 40)≤v∧v≤2 ^ 40:=by
 induction ws generalizing k with
 |nil=>exact fun v hv=>nomatch hv
 |cons w ws ih=>
  intro v hv
  rw [List.length_cons] at hk
  rcases List.mem_cons.mp hv with e|hv
  ·refine e0b (hb w (List.mem_cons_self ..)) fun b1 b2=>?_
   have h1:(0:Int)≤(k:Int)+1:=by exact lin [] [_] ai bw 1 [] rfl
   have h2:(k:Int)+1≤1000:=by exact lin [] [_,_] bw (.n 1000) 1 [.j 1 cC aI] rfl hk
   have m1:((k:Int)+1)*w≤((k:Int)+1)*1000003:=Int.mul_le_mul_of_nonneg_left b2 h1
   have m2:((k:Int)+1)*(-1000003)≤((k:Int)+1)*w:=Int.mul_le_mul_of_nonneg_left b1 h1
   rw [e]
   exact ⟨by exact (lin [_] [_,_] (.n (-1099511627776)) aa 1 [.j 1000003 cC aI,.i 1 (.r bw (-1000003)) aa] rfl hk m2),by exact lin [_] [_,_] aa (.n 1099511627776) 1 [.j 1000003 cC aI,.i 1 aa (.r bw 1000003)] rfl hk m1⟩
  ·exact ih (k+1) (by exact cT [] [_,_] cH aI 1 [.j 1 cC aI] rfl hk) (fun v h=>hb v (List.mem_cons_of_mem _ h)) v hv
theorem u7 (ws:List Int) (k:Nat):(qx k ws).length=ws.length:=by
 induction ws generalizing k with
 |nil=>rfl
 |cons w ws ih=>exact congrArg (·+1) (ih (k+1))
theorem zk {ws:List Int} {i:Nat} (h:i<ws.length):(ws.map P.int)[i]? = some (.int (ws.getD i 0)):=by
 rw [List.getElem?_map,List.getD_eq_getElem?_getD,List.getElem?_eq_getElem h];rfl
theorem wsBd {ws:List Int} (hb:∀v∈ws,bdI v) (i:Nat):bdI (ws.getD i 0):=by
 rw [List.getD_eq_getElem?_getD]
 cases h:ws[i]? with
 |none=>exact ⟨by decide,by decide⟩
 |some v=>exact hb v (List.mem_of_getElem? h)
theorem yu {Φ:Addr→Option Ctr}:BD Φ oE (db 2) 0 kG:=fun args kws objs Q hq=>by
 unfold oE at hq
 revert hq;intro zh;refine e2c zh fun kind ws zq2 hp hq=>?_;clear zh;subst zq2
 have hfew:=hp.few
 have hlm:(ws.map P.int).length≤16777216:=by rw [List.length_map];exact Nat.le_trans hfew (by decide)
 have hbd:=wsBd hp.bd
 rcases hq with ⟨rfl,rfl,hq⟩|⟨rfl,rfl,hq⟩
 all_goals
  refine lj rfl fun K hK=>?_
  lk
  refine dk (fun q=>?_) (fun q=>?_)
  ·have q:=of_decide_eq_true q
   have hl:=hp.two (.inl q)
   rw [show ij kind ws=(ws.getD 0 0+ws.getD 1 0) % 1000003 from if_pos q] at hq
   lk
   refine f9 (Int.le_refl 0) (zk (i:=0) (by exact cT [] [_] bg ab 1 [.j 1 aG ab] rfl hl)) hlm ?_
   lk
   refine f9 (show (0:Int)≤1 by decide) (zk (i:=1) (by exact cT [] [_] (.a aj aj) ab 1 [.j 1 aG ab] rfl hl)) hlm ?_
   lk
   refine ⟨by decide,?_⟩
   lk
   first|exact hK (.ret (.p (.int _))) _ [] _ rfl rfl hq|exact hK (.ret (.p (.int _))) _ [.bx (.lst (ws.map .int))] [] rfl rfl hq
  lk
  refine dk (fun q4=>?_) (fun q4=>?_)
  ·have q3:=of_decide_eq_false q
   have q4:=of_decide_eq_true q4
   have hl:=hp.two (.inr q4)
   rw [show ij kind ws=(ws.getD 0 0*ws.getD 1 0) % 1000003 from (if_neg q3).trans (if_pos q4)] at hq
   refine e0b (hbd 1) fun bY bZ=>?_
   lk
   refine f9 (Int.le_refl 0) (zk (i:=0) (by exact cT [] [_] bg ab 1 [.j 1 aG ab] rfl hl)) hlm ?_
   lk
   refine f9 (show (0:Int)≤1 by decide) (zk (i:=1) (by exact cT [] [_] (.a aj aj) ab 1 [.j 1 aG ab] rfl hl)) hlm ?_
   lk
   refine ⟨⟨Int.lt_of_lt_of_le (by decide) bY,Int.lt_of_le_of_lt bZ (by decide)⟩,?_⟩
   lk
   refine ⟨by decide,?_⟩
   lk
   first|exact hK (.ret (.p (.int _))) _ [] _ rfl rfl hq|exact hK (.ret (.p (.int _))) _ [.bx (.lst (ws.map .int))] [] rfl rfl hq
  ·rw [show ij kind ws=(qx 0 ws).sum % 1000003 from (if_neg (of_decide_eq_false q)).trans (if_neg (of_decide_eq_false q4))] at hq
   lk
   refine ⟨hlm,?_⟩
   lk
   conv=>whnf
   rw [List.length_map]
   refine ⟨⟨by exact (lin [] [] aD ai 1 [] rfl),by exact (lin [] [] ai aH 1 [] rfl),by exact (lin [] [_] aD af 1 [] rfl),by exact (lin [] [_] af aH 1 [.j 1 ab aS] rfl hfew), .inl rfl⟩,?_⟩
   lk
   refine ⟨⟨rfl,by rw [fQ];exact cT [] [_,_] ab aq 1 [.j 1 ae aS,.i 1 af am] rfl hfew (Int.le_of_eq (Int.toNat_of_nonneg (lin [] [_] ai af 1 [] rfl)))⟩,?_⟩
   lk
   refine qU (fun _=>⟨[some _,some _,none],_⟩) (fun xs' acc j=>xs'=rg j.k (ws.length-j.k)∧j.k≤ws.length∧acc=j.l.map .int∧j.l++qx j.k (ws.drop j.k)=qx 0 ws) (fun x xs' acc j K2 hj hn=>⟨trivial,?_⟩) (fun acc j hj=>⟨trivial,?_⟩) _ _ {} ⟨kM _,Nat.zero_le _,rfl,rfl⟩
   ·refine e0d hj fun hx hk zq2 hp2=>?_;clear hj;subst zq2
    refine e1c (pt hx) fun m hm zq2 hxs=>?_;subst zq2
    have hkl:j.k<ws.length:=by exact cT [] [_,_,_,_] a8 ae 1 [.j 1 bt av,.j 1 (.a av ab) ae] rfl (Nat.le_of_eq (Eq.symm hm)) (Nat.le_of_eq (Nat.sub_add_cancel (cT [] [_,_] ab ae 1 [.j 1 ab ae] rfl hk)))
    refine e0b (hbd j.k) fun b1 b2=>?_
    lk
    refine f9 (Int.natCast_nonneg _) (zk hkl) hlm ?_
    lk
    refine ⟨⟨Int.lt_of_lt_of_le (by decide) b1,Int.lt_of_le_of_lt b2 (by decide)⟩,?_⟩
    lk
    refine hn _ {k:=j.k+1,l:=j.l++[((j.k:Int)+1)*ws.getD j.k 0]} ⟨by rw [hxs];exact congrArg (rg _) (show m=ws.length-(j.k+1) by exact Nat.le_antisymm (cT [] [_,_,_,_,_] ab ae 1 [.j 1 a8 ak,.j 1 bB az,.j 1 az (.a ae bA)] rfl (Nat.le_of_eq (Eq.symm hm)) (Nat.le_of_eq (Nat.sub_add_cancel (cT [] [_,_] ab ae 1 [.j 1 a8 ae] rfl hkl))) (Nat.le_of_eq (Eq.symm (Nat.sub_add_cancel (cT [] [_,_] a8 ae 1 [.j 1 a8 ae] rfl hkl))))) (cT [] [_,_,_,_,_] ab ae 1 [.j 1 ak bc,.j 1 av (.a ak az),.j 1 (.a ab (.a az aj)) av] rfl (Nat.le_of_eq hm) (Nat.le_of_eq (Eq.symm (Nat.sub_add_cancel (cT [] [_,_] ab ae 1 [.j 1 a8 ae] rfl hkl)))) (Nat.le_of_eq (Nat.sub_add_cancel (cT [] [_,_] a8 ae 1 [.j 1 a8 ae] rfl hkl))))),hkl,iB _ _,?_⟩
    rw [←hp2,List.append_assoc,List.drop_eq_getElem_cons hkl,List.getD_eq_getElem?_getD,List.getElem?_eq_getElem hkl];rfl
   ·refine e0d hj fun hx hk zq2 hp2=>?_;clear hj;subst zq2
    have hk0:j.k=ws.length:=by
     have q:=congrArg List.length hx
     unfold rg at q
     rw [List.length_map,List.length_range'] at q
     have q:0=ws.length-j.k:=q
     exact Nat.le_antisymm (cT [] [_,_] ab ae 1 [.j 1 ab ae] rfl hk) (cT [] [_,_,_] ab ae 1 [.j 1 ak ay,.j 1 ab bC] rfl (Nat.le_of_eq (Eq.symm q)) (Nat.le_of_eq (Eq.symm (Nat.sub_add_cancel (cT [] [_,_] ab ae 1 [.j 1 ab ae] rfl hk)))))
    rw [hk0,List.drop_length] at hp2
    have hp2:j.l=qx 0 ws:=(List.append_nil _).symm.trans hp2
    rw [←hp2] at hq
    lk
    refine ⟨trivial,j.l,⟨rfl,by rw [hp2];exact xE ws 0 (by exact cT [] [_] (.a ay ab) aI 1 [.j 1 ab aS] rfl hfew) hp.bd,by rw [hp2,u7];exact cT [] [_] ab aC 1 [.j 1 ab aS] rfl hfew⟩,?_⟩
    lk
    refine ⟨by decide,?_⟩
    lk
    first|exact hK (.ret (.p (.int _))) _ [] _ rfl rfl hq|exact hK (.ret (.p (.int _))) _ [.bx (.lst (ws.map .int))] [] rfl rfl hq
end
section
noncomputable def dO (m:Met):O:=.bx (.dict (rx m))
inductive mx (i:Nat) (n:fp):Prop
 |num (v:Int):n.kind=1→n.holds=[v]→mx i n
 |name (v:Int):n.kind=2→n.holds=[v]→0≤v→v≤2→mx i n
 |two (a b:Int):(n.kind=3∨n.kind=4)→n.holds=[a,b]→-1≤a→a<i→-1≤b→b<i→mx i n
 |three (a b c:Int):n.kind=5→n.holds=[a,b,c]→-1≤a→a<i→-1≤b→b<i→-1≤c→c<i→mx i n
 |row:n.kind=6→n.holds.length≤3→(∀h∈n.holds,0≤h∧h<i)→mx i n
theorem mx.few {i:Nat} {n:fp} (h:mx i n):n.holds.length≤3:=by
 cases h with
 |num v _ e=>rw [e];exact Nat.le_of_ble_eq_true rfl
 |name v _ e=>rw [e];exact Nat.le_of_ble_eq_true rfl
 |two a b _ e=>rw [e];exact Nat.le_of_ble_eq_true rfl
 |three a b c _ e=>rw [e];exact Nat.le_of_ble_eq_true rfl
 |row _ h=>exact h
structure wT (r:Nat) (ns:List fp) (names:List Int) (f:Nat) (which:Int) (m:Met):Prop where
 sh:∀(i:Nat) (n:fp),ns[i]? = some n→mx i n
 few:ns.length≤100
 nl:names.length=3
 nb:∀v∈names,bdI v
 lo : -1≤which
 hi:which<ns.length
 fu:which+2≤f
 fr:f≤r
 met:MOK m
 len:m.length+4 ^ f≤16777216
@[irreducible] noncomputable def lb (r:Nat):Ctr:=fun args kws objs Q=>∃ns names f which m,args=[.ref 0, .p (.int which), .p (.lst (names.map .int)), .ref 1]∧kws=[]∧objs=[dS ns,dO m]∧wT r ns names f which m∧
 Q (.p (.int (ev ns names f which m).1)) [dS ns,dO (ev ns names f which m).2]
theorem jb {r:Nat} {ns:List fp} {names:List Int} (f:Nat) {which:Int} {m:Met} {Q:V→List O→Prop} (hp:wT r ns names f which m) (h:Q (.p (.int (ev ns names f which m).1)) [dS ns,dO (ev ns names f which m).2]) :
  lb r [.ref 0, .p (.int which), .p (.lst (names.map .int)), .ref 1] [] [dS ns,dO m] Q:=by
 unfold lb;exact ⟨ns,names,f,which,m,rfl,rfl,rfl,hp,h⟩
theorem wT.ns3 {r:Nat} {ns:List fp} {names:List Int} {f:Nat} {which:Int} {m:Met} (h:wT r ns names f which m):∀n∈ns,n.holds.length≤3:=fun n hn=>by
 obtain ⟨i,hi,e⟩:=List.mem_iff_getElem.mp hn
 exact (h.sh i n (by rw [List.getElem?_eq_getElem hi,e])).few
theorem mx.join {i:Nat} {n:fp} (h:mx i n) (hk:n.kind=3∨n.kind=4∨n.kind=6):(∀x∈n.holds,-1≤x∧x<i)∧(n.kind=3∨n.kind=4→2≤n.holds.length):=by
 cases h with
 |num v k1 k2=>exact absurd hk (by rw [k1];decide)
 |name v k1 k2 k3 k4=>exact absurd hk (by rw [k1];decide)
 |three a b c k1 k2=>exact absurd hk (by rw [k1];decide)
 |two a b k1 k2 a0 a1 b0 b1=>
  rw [k2]
  refine ⟨fun x hx=>?_,fun _=>Nat.le_refl 2⟩
  rcases List.mem_cons.mp hx with e|hx
  ·rw [e];exact ⟨a0,a1⟩
  ·rw [List.mem_singleton.mp hx];exact ⟨b0,b1⟩
 |row k1 k2 k3=>exact ⟨fun x hx=>⟨Int.le_trans (by decide) (k3 x hx).1,(k3 x hx).2⟩,fun hk=>absurd hk (by rw [k1];decide)⟩
theorem y6 {ns:List fp} {names:List Int} {f:Nat} {w:Int} {m:Met} (h:w<0):ev ns names (f+1) w m=(7,m):=if_pos h
theorem wf {ns:List fp} {names:List Int} {f:Nat} {w v:Int} {m:Met} {n:fp} (h:0≤w) (hn:ns[w.toNat]? = some n) (hg:oT m n.place=some v):ev ns names (f+1) w m=(v,m):=by
 unfold ev;rw [if_neg (Int.not_lt.mpr h),hn];dsimp only;rw [hg]
theorem wg {ns:List fp} {names:List Int} {f:Nat} {w:Int} {m:Met} {n:fp} (h:0≤w) (hn:ns[w.toNat]? = some n) (hg:oT m n.place=none):ev ns names (f+1) w m=((evN names (ev ns names f) n m).1,vw (evN names (ev ns names f) n m).2 n.place (evN names (ev ns names f) n m).1):=by
 conv=>lhs;unfold ev
 rw [if_neg (Int.not_lt.mpr h),hn];dsimp only;rw [hg]
theorem AE (r:Nat) {Φ:Addr→Option Ctr} (hP:AT Φ ga (lb r)) (hJ:AT Φ eZ oE) :
  BD Φ (lb (r+1)) (db 4) 5 lN:=fun args kws objs Q hq=>by
 unfold lb at hq
 revert hq;intro zh;refine e5e zh fun ns names f which m zq5 zq6 zq7 hp hq=>?_;clear zh;subst zq5 zq6 zq7
 refine lj (env:=[.ref 0, .p (.int which), .p (.lst (names.map .int)), .ref 1]) rfl fun K hK=>?_
 have h3:=hp.ns3
 have hlo:=hp.lo;have hhi:=hp.hi;have hfu:=hp.fu;have hfr:=hp.fr;have hml:=hp.len
 cases f with
 |zero=>exact absurd (Int.le_trans (Int.add_le_add_right hlo 2) hfu) (by decide)
 |succ f=>
 have F:=x6 (ns:=ns) hp.nb h3 f
 have h4:4 ^ f*4=4 ^ (f+1):=(Nat.pow_succ ..).symm
 have h41:1≤4 ^ f:=Nat.one_le_pow _ _ (by decide)
 rw [←h4] at hml
 clear hlo;generalize hP4:4 ^ f=w4 at *
 have pre:∀{x:Int} {m':Met},-1≤x→x<which→MOK m'→m'.length+w4≤16777216→wT r ns names f x m':=fun h1 h2 h3 h4=>⟨hp.sh,hp.few,hp.nl,hp.nb,h1,by exact (lin [_,_] [_] be af 1 [.i 1 bP af,.i 1 be an] rfl hhi h2),by exact (lin [_,_] [_] (.a aa aA) af 1 [.i 1 (.a an aA) (.c a8),.i 1 be an] rfl hfu h2),by exact (cT [] [_,_] ab ae 1 [.j 1 a8 bc] rfl hfr),h3,by rw [hP4];exact h4⟩
 refine kF (fun _=>⟨[some (.ref 0),some (.p (.int which)),some (.p (.lst (names.map .int))),some (.ref 1),none,none,none,none,none],[dS ns,dO m]⟩) (fun _=>0≤which) (fun K2 hK2 hb=>?_) fun _ hw0=>?_
 ·lk
  refine dk (fun q=>?_) (fun q=>?_)
  ·rw [y6 (of_decide_eq_true q)] at hq
   lk
   exact hb _ _ (fun e=>nomatch e) (hK (.ret (.p (.int 7))) _ [dS ns,dO m] [] rfl rfl hq)
  ·lk
   exact hK2 {} (Int.not_lt.mp (of_decide_eq_false q))
 have hlt:which.toNat<ns.length:=by exact cT [_] [_,_] a8 ae 1 [.i 1 be am,.i 1 af aa] rfl hhi (Int.le_of_eq (Int.toNat_of_nonneg (lin [_] [] ai aa 1 [.i 1 ai aa] rfl hw0)))
 have hget:ns[which.toNat]? = some ns[which.toNat]:=List.getElem?_eq_getElem hlt
 generalize ns[which.toNat]=n at hget
 have hsh:=hp.sh _ _ hget
 refine kF (fun _=>⟨[some (.ref 0),some (.p (.int which)),some (.p (.lst (names.map .int))),some (.ref 1),some (.p (.int n.kind)),some (.p (.lst (n.holds.map .int))),some (.p (.int n.place)),none,none],[dS ns,dO m]⟩) (fun _=>True) (fun K2 hK2 _=>?_) fun _ _=>?_
 ·lk
  refine f9 hw0 (z:=kO n) (by rw [List.getElem?_map,hget];rfl) (by rw [List.length_map];exact Nat.le_trans hp.few (by decide)) ?_
  lk
  exact hK2 {} trivial
 refine kF (fun _=>⟨[some (.ref 0),some (.p (.int which)),some (.p (.lst (names.map .int))),some (.ref 1),some (.p (.int n.kind)),some (.p (.lst (n.holds.map .int))),some (.p (.int n.place)),none,none],[dS ns,dO m]⟩) (fun _=>oT m n.place=none) (fun K2 hK2 hb=>?_) fun _ hg=>?_
 ·lk
  refine ⟨gq _ _,?_⟩
  lk
  conv=>whnf
  clear hlt;cases hg:oT m n.place with
  |some v=>
   rw [wf hw0 hget hg] at hq
   refine A7 (by rw [gc,hg];rfl) ?_
   lk
   refine ⟨gq _ _, .int v,by rw [gc,hg];rfl,?_⟩
   lk
   exact hb _ _ (fun e=>nomatch e) (hK (.ret (.p (.int v))) _ [dS ns,dO m] [] rfl rfl hq)
  |none=>
   refine o9 (by rw [gc,hg];rfl) ?_
   lk
   exact hK2 {} hg
 rw [wg hw0 hget hg] at hq
 refine kF (fun j=>⟨[some (.ref 0),some (.p (.int which)),some (.p (.lst (names.map .int))),some (.ref 1),some (.p (.int n.kind)),some (.p (.lst (n.holds.map .int))),some (.p (.int n.place)),some (.p (.int (evN names (ev ns names f) n m).1)),j.o.map .p],[dS ns,dO (evN names (ev ns names f) n m).2]⟩) (fun _=>True) (fun K2 hK2 _=>?_) fun j _=>?_
 ·clear hlt;obtain ⟨kind,holds,place⟩:=n
  have hmw:=hp.met
  by_cases hj:kind=3∨kind=4∨kind=6
  ·refine e0b (hsh.join hj) fun hh h2=>?_
   have hl3:holds.length≤3:=hsh.few
   have n1:¬kind=1:=by lia
   have n2:¬kind=2:=by lia
   have n5:¬kind=5:=by lia
   have e:evN names (ev ns names f) ⟨kind,holds,place⟩ m=(ij kind (evs (ev ns names f) holds m).1,(evs (ev ns names f) holds m).2):=(if_neg n1).trans ((if_neg n2).trans (if_neg n5))
   rw [e] at hK2
   refine e0c (wa F holds m hmw) fun V1 V2 V3=>?_
   have V4:=wb (ev ns names f) holds m
   have hlm:holds.length*w4≤3*w4:=Nat.mul_le_mul_right _ hl3
   lk
   refine o9 (decide_eq_false n1) ?_
   lk
   refine o9 (decide_eq_false n2) ?_
   lk
   refine o9 (decide_eq_false n5) ?_
   lk
   refine ⟨⟨rfl,by rw [List.length_map];exact cT [] [_] ab aq 1 [.j 1 ab aM] rfl hl3⟩,?_⟩
   lk
   refine qU (fun j=>⟨[some (.ref 0),some (.p (.int which)),some (.p (.lst (names.map .int))),some (.ref 1),some (.p (.int kind)),some (.p (.lst (holds.map .int))),some (.p (.int place)),none,none,none],[dS ns,dO j.mt]⟩) (fun xs' acc j=>xs'=j.m.map .int∧acc=j.l.map .int∧(∀h∈j.m,-1≤h∧h<which.toNat)∧MOK j.mt∧j.mt.length+j.m.length*w4≤16777216∧
     (evs (ev ns names f) holds m).1=j.l++(evs (ev ns names f) j.m j.mt).1∧(evs (ev ns names f) holds m).2=(evs (ev ns names f) j.m j.mt).2) (fun x xs' acc j K3 hj hn=>⟨rfl,?_⟩) (fun acc j hj=>⟨rfl,?_⟩) _ _ {m:=holds,mt:=m} ⟨rfl,rfl,hh,hmw,by dsimp only;exact (cT [] [_,_,_] a9 aq 1 [.j 1 (.a ab (.r ak 4)) aq,.j 1 aj ak,.j 1 ae cv] rfl hml h41 hlm),rfl,rfl⟩
   ·refine e0g hj fun hx zq1 hh' hm' hln e1 e2=>?_;clear hj;clear hP4 hlm hh hg h4 hfr hfu hhi;subst zq1
    refine e2c (lX hx) fun y ys e0 zq3 zq4=>?_;subst zq3 zq4
    rw [e0] at hh' hln e1 e2
    rw [List.length_cons,Nat.succ_mul] at hln
    refine e0b (hh' y (List.mem_cons_self ..)) fun y0 y1=>?_
    have l2:=F.len y j.mt hm'
    lk
    refine de hP rfl rfl (jb f (pre y0 (by exact lin [_,_] [_] be an 1 [.i 1 be af,.i 1 af an] rfl y1 (Int.le_of_eq (Int.toNat_of_nonneg (lin [_] [] ai aa 1 [.i 1 ai aa] rfl hw0)))) hm' (by exact cT [] [_,_,_] a9 aq 1 [.j 1 (.a ab bC) aq] rfl hln)) ?_)
    lk
    refine hn _ {m:=ys,l:=j.l++[(ev ns names f y j.mt).1],mt:=(ev ns names f y j.mt).2} ⟨rfl,iB _ _,fun h hm=>hh' h (List.mem_cons_of_mem _ hm),F.ok y j.mt hm',by dsimp only;exact (cT [] [_,_,_,_] a9 aq 1 [.j 1 (.a ak bS) aq,.j 1 ab bB] rfl hln l2),e1.trans ?_,e2⟩
    rw [List.append_assoc];rfl
   ·refine e0g hj fun hx zq1 hh' hm' hln e1 e2=>?_;clear hj;clear hP4 hlm hh hg h4 hfr hfu hhi;subst zq1
    rw [List.map_eq_nil_iff.mp hx.symm] at e1 e2
    have e1:(evs (ev ns names f) holds m).1=j.l:=e1.trans (List.append_nil _)
    have e2:(evs (ev ns names f) holds m).2=j.mt:=e2
    rw [e1] at V2 V4 hK2
    rw [e2] at hK2
    lk
    refine de hJ rfl rfl (tu ⟨fun hk=>by rw [V4];exact h2 hk,by exact (cT [] [_,_] ab aS 1 [.j 1 ae aM,.j 1 ab ae] rfl hl3 (Nat.le_of_eq V4)),V2⟩ ?_)
    lk
    exact hK2 {} trivial
  clear h4 hfr;cases hsh with
  |num v k1 k2=>
   dsimp only at k1 k2;clear hP4 hJ hg;subst k1 k2
   lk
   refine eG 0 rfl rfl ?_
   lk
   refine ⟨by decide,?_⟩
   lk
   exact hK2 {} trivial
  |name v k1 k2 k3 k4=>
   dsimp only at k1 k2;clear hP4 hJ;subst k1 k2
   lk
   refine eG 0 rfl rfl ?_
   lk
   refine f9 k3 (zk (i:=v.toNat) (by have q:=hp.nl;exact cT [_] [_,_] a8 ae 1 [.i 1 aa aA,.j 1 aM ae,.i 1 af aa] rfl k4 (Nat.le_of_eq (Eq.symm q)) (Int.le_of_eq (Int.toNat_of_nonneg (lin [_] [] ai aa 1 [.i 1 ai aa] rfl k3))))) (by rw [List.length_map,hp.nl];decide) ?_
   lk
   exact hK2 {} trivial
  |three a b c k1 k2 a0 a1 b0 b1 c0 c1=>
   dsimp only at k1 k2;clear hP4 hJ;subst k1 k2
   have l2:=F.len a m hmw
   have m2:=F.ok a m hmw
   rw [show evN names (ev ns names f) ⟨5,[a,b,c],place⟩ m=ev ns names f (if 0<(ev ns names f a m).1 then b else c) (ev ns names f a m).2 from rfl] at hK2
   lk
   refine eG 0 rfl rfl ?_
   lk
   refine de hP rfl rfl (jb f (pre a0 (by exact lin [_,_] [_] be an 1 [.i 1 be af,.i 1 af an] rfl a1 (Int.le_of_eq (Int.toNat_of_nonneg (lin [_] [] ai aa 1 [.i 1 ai aa] rfl hw0)))) hmw (by exact cT [] [_,_] a9 aq 1 [.j 1 (.a ab cw) aq,.j 3 aj ae] rfl hml h41)) ?_)
   lk
   refine dk (fun q=>?_) (fun q=>?_)
   ·rw [if_pos (of_decide_eq_true q)] at hK2
    lk
    refine eG 1 rfl rfl ?_
    lk
    refine de hP rfl rfl (jb f (pre b0 (by exact lin [_,_] [_] be an 1 [.i 1 be af,.i 1 af an] rfl b1 (Int.le_of_eq (Int.toNat_of_nonneg (lin [_] [] ai aa 1 [.i 1 ai aa] rfl hw0)))) m2 (by exact cT [] [_,_,_] a9 aq 1 [.j 1 (.a ak cw) aq,.j 2 aj ae,.j 1 ab bC] rfl hml h41 l2)) ?_)
    lk
    exact hK2 {o:=some (.int (ev ns names f a m).1)} trivial
   ·rw [if_neg (of_decide_eq_false q)] at hK2
    lk
    refine eG 2 rfl rfl ?_
    lk
    refine de hP rfl rfl (jb f (pre c0 (by exact lin [_,_] [_] be an 1 [.i 1 be af,.i 1 af an] rfl c1 (Int.le_of_eq (Int.toNat_of_nonneg (lin [_] [] ai aa 1 [.i 1 ai aa] rfl hw0)))) m2 (by exact cT [] [_,_,_] a9 aq 1 [.j 1 (.a ak cw) aq,.j 2 aj ae,.j 1 ab bC] rfl hml h41 l2)) ?_)
    lk
    exact hK2 {o:=some (.int (ev ns names f a m).1)} trivial
  |two a b k1 k2 a0 a1 b0 b1=>exact absurd (k1.elim .inl fun q=>.inr (.inl q)) hj
  |row k1 k2 k3=>exact absurd (.inr (.inr k1)) hj
 refine e0c (wi F hp.nb (h3 n (List.mem_of_getElem? hget)) m hp.met) fun E1 E2 E3=>?_
 rw [show dO (vw (evN names (ev ns names f) n m).2 n.place (evN names (ev ns names f) n m).1)=.bx (.dict (o5 (rx (evN names (ev ns names f) n m).2) (.int n.place) (.int (evN names (ev ns names f) n m).1))) from congrArg (fun z=>O.bx (.dict z)) (qN _ _ _).symm] at hq
 lk
 refine ⟨⟨gq _ _,by rw [ti];exact cT [] [_,_,_] ab aq 1 [.j 1 (.a ae (.r ak 4)) aq,.j 1 aj ak,.j 1 ab (.a ae cv)] rfl hml h41 E3⟩,?_⟩
 lk
 exact hK (.ret (.p (.int (evN names (ev ns names f) n m).1))) _ [dS ns, .bx (.dict (o5 (rx (evN names (ev ns names f) n m).2) (.int n.place) (.int (evN names (ev ns names f) n m).1)))] [] rfl rfl hq
end
section
theorem jB.shape {T:List UInt8} {ns:List fp} {i:Nat} {n:fp} (x:jB T ns i n):mx i n:=by
 cases x with
 |num v q h1 h2 h3 h4 h5 h6=>exact .num v h1 h2
 |name v q h1 h2 h3 h4 h5 h6=>exact .name v h1 h2 h3 h4
 |ops L h1 h2 h3 h4 h5 h6=>
  obtain ⟨kind,holds,place⟩:=n
  by_cases h:kind=5
  ·cases holds with
   |nil=>exact absurd (show (0:Nat)=3 from h2.trans (if_pos h)) (by decide)
   |cons a r=>cases r with
    |nil=>exact absurd (show (1:Nat)=3 from h2.trans (if_pos h)) (by decide)
    |cons b r=>cases r with
     |nil=>exact absurd (show (2:Nat)=3 from h2.trans (if_pos h)) (by decide)
     |cons c r=>cases r with
      |nil=>
       have ha:=h3 a (List.mem_cons_self ..);have hb:=h3 b (List.mem_cons_of_mem _ (List.mem_cons_self ..));have hc:=h3 c (List.mem_cons_of_mem _ (List.mem_cons_of_mem _ (List.mem_cons_self ..)))
       exact .three a b c h rfl ha.1 ha.2 hb.1 hb.2 hc.1 hc.2
      |cons e r=>exact absurd (Nat.succ.inj (Nat.succ.inj (Nat.succ.inj (h2.trans (if_pos h))))) (Nat.succ_ne_zero _)
  ·cases holds with
   |nil=>exact absurd (show (0:Nat)=2 from h2.trans (if_neg h)) (by decide)
   |cons a r=>cases r with
    |nil=>exact absurd (show (1:Nat)=2 from h2.trans (if_neg h)) (by decide)
    |cons b r=>cases r with
     |nil=>
      have ha:=h3 a (List.mem_cons_self ..);have hb:=h3 b (List.mem_cons_of_mem _ (List.mem_cons_self ..))
      exact .two a b (h1.elim .inl fun h1=>h1.elim .inr fun h1=>absurd h1 h) rfl ha.1 ha.2 hb.1 hb.2
     |cons e r=>exact absurd (Nat.succ.inj (Nat.succ.inj (h2.trans (if_neg h)))) (Nat.succ_ne_zero _)
 |row q0 q1 vk vp h1 h2 h3 h4 h5 h6 h7=>exact .row h1 h2 h3
structure wR (d:List UInt8) (ns:List fp) (names:List Int) (f:Nat) (which:Int) (m:Met):Prop where
 laid:∀(i:Nat) (n:fp),ns[i]? = some n→jB d ns i n
 few:ns.length≤100
 dl:d.length≤16777216
 nl:names.length=3
 nb:∀v∈names,bdI v
 lo : -1≤which
 hi:which<ns.length
 fu:which+2≤f
 met:MOK m
 len:m.length+4 ^ f≤16777216
@[irreducible] noncomputable def pT (r:Nat):Ctr:=fun args kws objs Q=>∃d ns names f i n m pos ver,args=[.ref 0, .p (.int n.kind), .p (.lst (names.map .int)), .ref 1]∧kws=[]∧objs=[Tw.o ⟨d,pos,ver⟩,dO m]∧wR d ns names f (i:Nat) m∧(2*f≤r∧ns[i]? = some n∧pos=d.length-n.place)∧
 Q (.p (.int (ev ns names f i m).1)) [Tw.o ⟨d,pos,ver⟩,dO (ev ns names f i m).2]
theorem sY {r:Nat} {d:List UInt8} {ns:List fp} {names:List Int} (f i:Nat) (n:fp) {kind:Int} {m:Met} {pos:Int} {ver:Nat} {Q:V→List O→Prop} (hp:wR d ns names f i m) (h2:2*f≤r∧ns[i]? = some n∧pos=d.length-n.place) (hk:kind=n.kind)
  (h:Q (.p (.int (ev ns names f i m).1)) [Tw.o ⟨d,pos,ver⟩,dO (ev ns names f i m).2]):pT r [.ref 0, .p (.int kind), .p (.lst (names.map .int)), .ref 1] [] [Tw.o ⟨d,pos,ver⟩,dO m] Q:=by
 subst hk
 unfold pT;exact ⟨d,ns,names,f,i,n,m,pos,ver,rfl,rfl,rfl,hp,h2,h⟩
structure AU (d:List UInt8) (ns:List fp) (sl pos h:Int) (k:Nat) (p:Int) (L:List Int) (qk qo:Int):Prop where
 slot:sl=2*k
 few:k≤100
 pos:pos=d.length-p
 tab:p7 d p L
 l0:L[2*k]? = some qk
 l1:L[2*k+1]? = some qo
 op:OpE d ns p qk qo h
@[irreducible] noncomputable def pV (r:Nat):Ctr:=fun args kws objs Q=>∃d ns names f h m pos ver sl k p L qk qo,args=[.ref 0, .p (.int sl), .p (.lst (names.map .int)), .ref 1]∧kws=[]∧objs=[Tw.o ⟨d,pos,ver⟩,dO m]∧wR d ns names f h m∧2*f+1≤r∧AU d ns sl pos h k p L qk qo∧
 Q (.p (.int (ev ns names f h m).1)) [Tw.o ⟨d,pos,ver⟩,dO (ev ns names f h m).2]
theorem jF {r:Nat} {d:List UInt8} {ns:List fp} {names:List Int} (f:Nat) {h:Int} {m:Met} {pos:Int} {ver:Nat} {sl:Int} {k:Nat} {p:Int} {L:List Int} {qk qo:Int} {Q:V→List O→Prop} (hp:wR d ns names f h m) (h2:2*f+1≤r)
  (h3:AU d ns sl pos h k p L qk qo) (hq:Q (.p (.int (ev ns names f h m).1)) [Tw.o ⟨d,pos,ver⟩,dO (ev ns names f h m).2]):pV r [.ref 0, .p (.int sl), .p (.lst (names.map .int)), .ref 1] [] [Tw.o ⟨d,pos,ver⟩,dO m] Q:=by
 unfold pV;exact ⟨d,ns,names,f,h,m,pos,ver,sl,k,p,L,qk,qo,rfl,rfl,rfl,hp,h2,h3,hq⟩
theorem wy {G:Pg} {env:List (Option V)} {σ:List O} {Q:V→St→Prop} (hC:G.Φ ef=some (fH jy ef 2)) {d:List UInt8} {p:Int} (h0:0≤p∧p≤4294967295) (h:∀ver',Q (.ref σ.length) ⟨env,σ++[Tw.o ⟨d,p,ver'⟩]⟩):fj G ef [.p (.bytes d), .p (.int p)] [] ⟨env,σ⟩ Q:=by
 refine de hC (objs:=[]) rfl rfl ?_
 unfold fH jy
 exact ⟨d,p,0,rfl,rfl,rfl,h0,fun ver'=>⟨rfl,h ver'⟩⟩
theorem fW {G:Pg} {fa:Addr} {ω:Type} {o:ω→O} {A:Ar→List P} {side:Ar→ω→Prop} {ret:Ar→ω→P} {env:List (Option V)} {σ:List O} {Q:V→St→Prop} (hΦ:G.Φ fa=some (sf o A side ret)) (j:Nat) (i:Ar) (w:ω) (z:P) {args:List V}
  (ha:args=(A i).map .p) (hj:σ[j]? = some (o w)) (hs:side i w) (hz:ret i w=z) (h:Q (.p z) ⟨env,σ⟩):fj G fa (.ref j::args) [] ⟨env,σ⟩ Q:=by
 subst ha hz;exact eC hΦ j i w hj hs h
theorem uH {d d2:List UInt8} {pos pos2 off:Int} {ver ver2:Nat} {Q:V→List O→Prop} (h1:yD d pos off) (h:∀ver',Q (.p .none) [Tw.o ⟨d,pos,ver⟩,Tw.o ⟨d,off+pos+rdF .I d (off+pos),ver'⟩]) :
  l5 [.ref 0, .ref 1, .p (.int off)] [] [Tw.o ⟨d,pos,ver⟩,Tw.o ⟨d2,pos2,ver2⟩] Q:=by
 unfold l5;exact ⟨⟨d,pos,ver⟩,⟨d2,pos2,ver2⟩,off,rfl,rfl,rfl,h1,h⟩
theorem tR {d d2:List UInt8} {pos pos2 off z:Int} {ver ver2:Nat} {Q:V→List O→Prop} (h1:yD d pos off) (hz:off+pos+rdF .I d (off+pos)=z) (h:∀ver',Q (.p .none) [Tw.o ⟨d,pos,ver⟩,Tw.o ⟨d,z,ver'⟩]) :
  l5 [.ref 0, .ref 1, .p (.int off)] [] [Tw.o ⟨d,pos,ver⟩,Tw.o ⟨d2,pos2,ver2⟩] Q:=uH h1 (hz▸h)
theorem Cm (r:Nat) {Φ:Addr→Option Ctr} (hR:AT Φ gD (pT r)) (hO:AT Φ fU jM) (hS:AT Φ fV rb)
  (hU:AT Φ jp l5) (hC:AT Φ ef (fH jy ef 2)) :
  BD Φ (pV (r+1)) (db 4) 2 m5:=fun args kws objs Q hh=>by
 unfold pV at hh
 obtain ⟨d,ns,names,f,h,m,pos,ver,sl,k,p,L,qk,qo,rfl,rfl,rfl,hp,hr,hpt,hq⟩:=hh
 refine lj (env:=[.ref 0, .p (.int sl), .p (.lst (names.map .int)), .ref 1]) rfl fun K hK=>?_
 obtain ⟨rfl,g0,rfl,g1,g2,g3,g4⟩:=hpt
 have hdl:=hp.dl
 have g1l:=g1.lo
 have g1h:=g1.hi
 have hk0:(-(2 ^ 64):Int)<2*(k:Int)∧2*(k:Int)<2 ^ 64:=⟨Int.lt_of_lt_of_le (by decide) (Int.mul_nonneg (by decide) (Int.natCast_nonneg k)),by exact lin [] [_] (.a bD ap) aX 1 [.j 2 ab aR] rfl g0⟩
 have hnk:zg .B d p qk (if h<0 then 0 else (ns.getD h.toNat ⟨0,[],0⟩).kind):=by
  rcases g4 with ⟨e1,e2,e3⟩|⟨e0,c,e1,e2,e3⟩
  ·rw [if_pos e1];exact .inl ⟨e2,rfl⟩
  ·rw [if_neg (Int.not_lt.mpr e0),List.getD_eq_getElem?_getD,e1];exact .inr e2
 refine e0c (vg g1 hdl g2 hnk) fun S1 S2 S3=>?_
 refine e0b (tc g1 hdl (2*k+1)) fun O1 O2=>?_
 rw [show BB p L (2*k+1)=if qo=0 then 0 else p-qo by unfold BB;rw [g3]] at O2
 rw [show (4+2*((2*k+1:Nat):Int))=6+2*(2*(k:Int)) by exact (Int.le_antisymm (lin [] [_] (.a ao (.m 2 (.c cB))) (.a a7 (.m 2 bD)) 1 [] rfl) (lin [] [_] (.a a7 (.m 2 bD)) (.a ao (.m 2 (.c cB))) 1 [] rfl))] at O1 O2
 rw [show (4+2*((2*k:Nat):Int))=4+2*(2*(k:Int)) by exact (Int.le_antisymm (lin [] [_] (.a ao (.m 2 (.c bj))) (.a ao (.m 2 bD)) 1 [] rfl) (lin [] [_] (.a ao (.m 2 bD)) (.a ao (.m 2 (.c bj))) 1 [] rfl))] at S1 S2 S3
 have hTS:wP .B d (d.length-p) (4+2*(2*(k:Int))) 0:=⟨by exact (lin [] [_] ai (.a ao (.m 2 bD)) 1 [] rfl),by exact (lin [] [_] (.a ao (.m 2 bD)) aW 1 [.j 4 ab aR] rfl g0),Int.le_refl 0,show (0:Int)≤255 by decide,S1,S2⟩
 have S3:tV .B d (d.length-p) (4+2*(2*(k:Int))) 0=_:=S3
 rcases g4 with ⟨e1,e2,e3⟩|⟨e0,c,e1,e2,e3⟩
 ·lk
  refine ⟨hk0,?_⟩
  lk
  refine fW hO 0 {x:=6+2*(2*(k:Int))} ⟨d,d.length-p,ver⟩ (.int 0) rfl rfl O1 (congrArg P.int (O2.trans (if_pos e3))) ?_
  rw [if_pos e1] at S3
  have e:ev ns names f h m=(7,m):=by
   cases f with
   |zero=>exact absurd (Int.le_trans (Int.add_le_add_right hp.lo 2) hp.fu) (by decide)
   |succ f=>exact y6 e1
  rw [e] at hq
  refine A7 rfl ?_
  lk
  refine ⟨hk0,?_⟩
  lk
  refine fW hS 0 {g:=.u8,x:=4+2*(2*(k:Int)),y:=0} ⟨d,d.length-p,ver⟩ (.int 0) rfl rfl hTS (congrArg P.int S3) ?_
  lk
  exact hK (.ret (.p (.int 7))) _ [Tw.o ⟨d,d.length-p,ver⟩,dO m] [] rfl rfl hq
 ·refine e0c e3 fun o1 o2 o3=>?_
  refine e0b (l4 o3 hdl) fun I1 I2=>?_
  have o4:(4:Int)≤qo:=o3.lo
  have hcp:=(hp.laid _ _ e1).place
  rw [if_neg (Int.not_lt.mpr e0),List.getD_eq_getElem?_getD,e1] at S3
  lk
  refine ⟨hk0,?_⟩
  lk
  refine fW hO 0 {x:=6+2*(2*(k:Int))} ⟨d,d.length-p,ver⟩ (.int (p-qo)) rfl rfl O1 (congrArg P.int (O2.trans (if_neg o1))) ?_
  refine o9 (decide_eq_false (show ¬p-qo=0 by exact Int.ne_of_gt (lin [_,_] [] bn bi 1 [.i 1 bP aa] rfl o2))) ?_
  lk
  refine wy hC ⟨Int.le_refl 0,by decide⟩ fun ver2=>?_
  lk
  have ep:p-qo+((d.length:Int)-p)=d.length-qo:=by exact Int.le_antisymm (lin [_,_] [_] (.a bi bf) bv 1 [] rfl) (lin [_,_] [_] bf (.a bH bv) 1 [] rfl)
  refine de hU rfl rfl (tR (z:=(d.length:Int)-qo+(qo-c.place)) ⟨by exact (lin [_,_] [] ai bi 1 [.i 1 bP aa] rfl o2),by exact (lin [_,_] [_] bi aJ 1 [.j 1 ab aq,.i 1 aa af,.i 1 ao an] rfl hdl g1h o4),by rw [ep];exact I1⟩ (by rw [ep,I2]) fun ver3=>?_)
  lk
  refine ⟨hk0,?_⟩
  lk
  refine eC hS 0 {g:=.u8,x:=4+2*(2*(k:Int)),y:=0} ⟨d,d.length-p,ver⟩ rfl hTS ?_
  lk
  have hN:(h.toNat:Int)=h:=Int.toNat_of_nonneg e0
  refine de hR rfl rfl (sY f h.toNat c (by rw [hN];exact hp) ⟨by exact (cT [] [_,_] bj ae 1 [.j 1 cB bc] rfl hr),e1,show (d.length:Int)-qo+(qo-c.place)=d.length-c.place by exact Int.le_antisymm (lin [_,_] [_] (.a bf bi) bv 1 [] rfl) (lin [_,_] [_] bf (.a bv bH) 1 [] rfl)⟩ (S3.trans rfl) ?_)
  lk
  conv=>whnf
  rw [hN]
  exact hK (.ret (.p (.int _))) _ [Tw.o ⟨d,d.length-p,ver⟩,dO _] _ rfl rfl hq
end
section
structure RdI (F:Int→Met→Int × Met) (w4:Nat) (hs:List Int) (m:Met) (xs:List P) (j:Lv):Prop where
 k:j.k≤hs.length
 x:xs=rg j.k (hs.length-j.k)
 ac:j.l.length=j.k
 met:MOK j.mt
 len:j.mt.length+(hs.length-j.k)*w4≤16777216
 bd:∀v∈j.l,bdI v
 e1:(evs F hs m).1=j.l++(evs F (hs.drop j.k) j.mt).1
 e2:(evs F hs m).2=(evs F (hs.drop j.k) j.mt).2
theorem Ck (r:Nat) {Φ:Addr→Option Ctr} (hR:AT Φ gD (pT r)) (hP:AT Φ gE (pV r)) (hJ:AT Φ eZ oE)
  (hO:AT Φ fU jM) (hS:AT Φ fV rb) (hG:AT Φ iD rc) (hV:AT Φ im yi)
  (hL:AT Φ fK mH) (hI:AT Φ gb yj) (hC:AT Φ ef (fH jy ef 2)) :
  BD Φ (pT (r+1)) (db 4) 8 m4:=fun args kws objs Q hh=>by
 unfold pT at hh
 obtain ⟨d,ns,names,f,i,n,m,pos,ver,rfl,rfl,rfl,hp,zn1,hq⟩:=hh;refine e0c zn1 fun hr hget zq2=>?_;clear zn1;subst zq2
 refine lj (env:=[.ref 0, .p (.int n.kind), .p (.lst (names.map .int)), .ref 1]) rfl fun K hK=>?_
 have p3:=hp.dl
 have hN:=hp.laid i n hget
 have h3:∀n∈ns,n.holds.length≤3:=fun n hn=>by
  obtain ⟨i,hi,e⟩:=List.mem_iff_getElem.mp hn
  exact (hp.laid i n (by rw [List.getElem?_eq_getElem hi,e])).shape.few
 have hsh:=hN.shape
 have hpl:=hN.place
 have hhi:=hp.hi;have hfu:=hp.fu;have hml:=hp.len
 cases f with
 |zero=>exact absurd (Int.le_trans (Int.add_le_add_right hp.lo 2) hfu) (by decide)
 |succ f=>
 have F:=x6 (ns:=ns) hp.nb h3 f
 have h4:4 ^ f*4=4 ^ (f+1):=(Nat.pow_succ ..).symm
 have h41:1≤4 ^ f:=Nat.one_le_pow _ _ (by decide)
 rw [←h4] at hml
 generalize hP4:4 ^ f=w4 at *
 have pre:∀{x:Int} {m':Met},-1≤x→x<i→MOK m'→m'.length+w4≤16777216→wR d ns names f x m':=fun h1 h2 h3 h4=>⟨hp.laid,hp.few,hp.dl,hp.nl,hp.nb,h1,by exact (lin [_] [_,_] be af 1 [.i 1 (.a am ap) af,.i 1 be am] rfl hhi h2),by exact (lin [_] [_,_] (.a aa aA) af 1 [.i 1 b8 (.c a8),.i 1 be am] rfl hfu h2),h3,by rw [hP4];exact h4⟩
 have hget':ns[((i:Nat):Int).toNat]? = some n:=by rw [Int.toNat_natCast];exact hget
 refine kF (fun _=>⟨[some (.ref 0),some (.p (.int n.kind)),some (.p (.lst (names.map .int))),some (.ref 1),some (.p (.int n.place)),none,none,none,none,none,none,none],[Tw.o ⟨d,d.length-n.place,ver⟩,dO m]⟩) (fun _=>True) (fun K2 hK2 hb=>?_) fun _ _=>?_
 ·lk
  refine ⟨p3,?_⟩
  lk
  conv=>whnf
  rw [show (d.length:Int)-(d.length-n.place)=n.place by exact (Int.le_antisymm (lin [_] [_] (.s af bf) aa 1 [] rfl) (lin [_] [_] aa (.s af bf) 1 [] rfl))]
  exact hK2 {} trivial
 refine kF (fun _=>⟨[some (.ref 0),some (.p (.int n.kind)),some (.p (.lst (names.map .int))),some (.ref 1),some (.p (.int n.place)),none,none,none,none,none,none,none],[Tw.o ⟨d,d.length-n.place,ver⟩,dO m]⟩) (fun _=>oT m n.place=none) (fun K2 hK2 hb=>?_) fun _ hg=>?_
 ·lk
  refine ⟨gq _ _,?_⟩
  lk
  conv=>whnf
  cases hg:oT m n.place with
  |some v=>
   rw [wf (Int.natCast_nonneg i) hget' hg] at hq
   refine A7 (by rw [gc,hg];rfl) ?_
   lk
   refine ⟨gq _ _, .int v,by rw [gc,hg];rfl,?_⟩
   lk
   exact hb _ _ (fun e=>nomatch e) (hK (.ret (.p (.int v))) _ [Tw.o ⟨d,d.length-n.place,ver⟩,dO m] [] rfl rfl hq)
  |none=>
   refine o9 (by rw [gc,hg];rfl) ?_
   lk
   exact hK2 {} hg
 rw [wg (Int.natCast_nonneg i) hget' hg] at hq
 refine kF (fun j=>⟨some (.ref 0)::some (.p (.int n.kind))::some (.p (.lst (names.map .int)))::some (.ref 1)::some (.p (.int n.place))::some (.p (.int (evN names (ev ns names f) n m).1))::j.e,Tw.o ⟨d,d.length-n.place,ver⟩::dO (evN names (ev ns names f) n m).2::j.s⟩) (fun _=>True) (fun K2 hK2 _=>?_) fun j _=>?_
 ·obtain ⟨kind,holds,place⟩:=n
  have hmw:=hp.met
  cases hN with
  |num v q k1 k2 v0 v1 kt kn=>
   dsimp only at k1 k2 kt kn
   clear hP4 hg h4 hfu hhi hget';subst k1 k2
   refine e0c (vg kt p3 (i:=0) rfl kn) fun S1 S2 S3=>?_
   have S3:tV .i d (d.length-place) 4 0=v:=S3
   lk
   refine fW hS 0 {g:=.i,x:=4,y:=0} ⟨d,d.length-place,ver⟩ (.int v) rfl rfl ⟨by decide,by decide,by decide,by decide,S1,S2⟩ (congrArg P.int S3) ?_
   lk
   refine ⟨by decide,?_⟩
   lk
   exact hK2 {e:=[none,none,none,none,none,none]} trivial
  |name v q k1 k2 v0 v1 kt kn=>
   dsimp only at k1 k2 kt kn
   clear hP4 hg h4 hfu hhi hget';subst k1 k2
   refine e0c (vg kt p3 (i:=0) rfl kn) fun S1 S2 S3=>?_
   have S3:tV .B d (d.length-place) 4 0=v:=S3
   lk
   refine fW hS 0 {g:=.u8,x:=4,y:=0} ⟨d,d.length-place,ver⟩ (.int v) rfl rfl ⟨by decide,by decide,by decide,by decide,S1,S2⟩ (congrArg P.int S3) ?_
   lk
   refine f9 v0 (zk (i:=v.toNat) (by have q:=hp.nl;exact cT [_] [_,_] a8 ae 1 [.i 1 aa aA,.j 1 aM ae,.i 1 af aa] rfl v1 (Nat.le_of_eq (Eq.symm q)) (Int.le_of_eq (Int.toNat_of_nonneg (lin [_] [] ai aa 1 [.i 1 ai aa] rfl v0))))) (by rw [List.length_map,hp.nl];decide) ?_
   lk
   exact hK2 {e:=[none,none,none,none,none,none]} trivial
  |ops L k1 k2 k3 kt kl ko=>
   have hh3:holds.length≤3:=hsh.few
   have part:∀(k:Nat) (h:Int),holds[k]? = some h→∃qk qo,AU d ns (2*(k:Int)) (d.length-place) h k place L qk qo:=fun k h hk=>by
    refine e2c (ko k h hk) fun qk qo e1 e2 e3=>?_
    have hkl:k<holds.length:=(List.getElem?_eq_some_iff.mp hk).1
    exact ⟨qk,qo,rfl,by exact (cT [] [_,_] ab aR 1 [.j 1 ae aM,.j 1 a8 ae] rfl hh3 hkl),rfl,kt,e1,e2,e3⟩
   clear hfu hhi;cases hsh with
   |num v k1'=>exact absurd k1 (by rw [k1'];decide)
   |name v k1'=>exact absurd k1 (by rw [k1'];decide)
   |row k1'=>exact absurd k1 (by rw [k1'];decide)
   |three a b c k1' k2' a0 a1 b0 b1 c0 c1=>
    dsimp only at k1' k2'
    clear hP4 hS hh3 ko kl hg h4;subst k1' k2'
    refine e2a (part 0 a rfl) fun qka qoa Pa=>?_
    refine e2a (part 1 b rfl) fun qkb qob Pb=>?_
    refine e2a (part 2 c rfl) fun qkc qoc Pc=>?_
    rw [show evN names (ev ns names f) ⟨5,[a,b,c],place⟩ m=ev ns names f (if 0<(ev ns names f a m).1 then b else c) (ev ns names f a m).2 from rfl] at hK2
    have m2:=F.ok a m hmw
    have l2:=F.len a m hmw
    lk
    refine de hP rfl rfl (jF f (pre a0 a1 hmw (by exact cT [] [_,_] a9 aq 1 [.j 1 (.a ab cw) aq,.j 3 aj ae] rfl hml h41)) (by exact cT [] [_,_] cB ae 1 [.j 1 cG bc] rfl hr) Pa ?_)
    lk
    refine dk (fun q=>?_) (fun q=>?_)
    ·rw [if_pos (of_decide_eq_true q)] at hK2
     lk
     refine de hP rfl rfl (jF f (pre b0 b1 m2 (by exact cT [] [_,_,_] a9 aq 1 [.j 1 (.a ak cw) aq,.j 2 aj ae,.j 1 ab bC] rfl hml h41 l2)) (by exact cT [] [_,_] cB ae 1 [.j 1 cG bc] rfl hr) Pb ?_)
     lk
     exact hK2 {e:=[some (.p (.int (ev ns names f a m).1)),none,none,none,none,none]} trivial
    ·rw [if_neg (of_decide_eq_false q)] at hK2
     lk
     refine de hP rfl rfl (jF f (pre c0 c1 m2 (by exact cT [] [_,_,_] a9 aq 1 [.j 1 (.a ak cw) aq,.j 2 aj ae,.j 1 ab bC] rfl hml h41 l2)) (by exact cT [] [_,_] cB ae 1 [.j 1 cG bc] rfl hr) Pc ?_)
     lk
     exact hK2 {e:=[some (.p (.int (ev ns names f a m).1)),none,none,none,none,none]} trivial
   |two a b k1' k2' a0 a1 b0 b1=>
    dsimp only at k1' k2'
    clear hP4 hS hh3 ko kl;subst k2'
    refine e2a (part 0 a rfl) fun qka qoa Pa=>?_
    refine e2a (part 1 b rfl) fun qkb qob Pb=>?_
    have n1:¬kind=1:=by clear hg;rcases k1' with e|e<;>rw [e]<;>decide
    have n2:¬kind=2:=by clear hg;rcases k1' with e|e<;>rw [e]<;>decide
    have n5:¬kind=5:=by clear hg;rcases k1' with e|e<;>rw [e]<;>decide
    have n6:¬kind=6:=by clear hg;rcases k1' with e|e<;>rw [e]<;>decide
    have e:evN names (ev ns names f) ⟨kind,[a,b],place⟩ m=(ij kind [(ev ns names f a m).1,(ev ns names f b (ev ns names f a m).2).1],(ev ns names f b (ev ns names f a m).2).2):=(if_neg n1).trans ((if_neg n2).trans (if_neg n5))
    rw [e] at hK2
    have m2:=F.ok a m hmw
    have l2:=F.len a m hmw
    lk
    refine o9 (decide_eq_false n1) ?_
    lk
    refine o9 (decide_eq_false n2) ?_
    lk
    refine o9 (decide_eq_false n5) ?_
    lk
    refine o9 (decide_eq_false n6) ?_
    lk
    refine de hP rfl rfl (jF f (pre a0 a1 hmw (by exact cT [] [_,_] a9 aq 1 [.j 1 (.a ab cw) aq,.j 3 aj ae] rfl hml h41)) (by exact cT [] [_,_] cB ae 1 [.j 1 cG bc] rfl hr) Pa ?_)
    lk
    refine de hP rfl rfl (jF f (pre b0 b1 m2 (by exact cT [] [_,_,_] a9 aq 1 [.j 1 (.a ak cw) aq,.j 2 aj ae,.j 1 ab bC] rfl hml h41 l2)) (by exact cT [] [_,_] cB ae 1 [.j 1 cG bc] rfl hr) Pb ?_)
    lk
    refine ⟨Nat.le_of_ble_eq_true rfl,?_⟩
    lk
    refine de hJ rfl rfl (tu (ws:=[(ev ns names f a m).1,(ev ns names f b (ev ns names f a m).2).1]) ⟨fun _=>Nat.le_refl 2,Nat.le_of_ble_eq_true rfl,fun v hv=>?_⟩ ?_)
    ·clear k1' b1 b0 a1 a0;rcases List.mem_cons.mp hv with e|hv
     ·rw [e];exact F.bd a m hmw
     ·rw [List.mem_singleton.mp hv];exact F.bd b _ m2
    lk
    exact hK2 {e:=[none,none,none,none,none,none]} trivial
  |row q0 q1 vk vp k1 k2 k3 kt kq0 kq1 kr=>
   dsimp only at k1 k2 k3 kt kq0 kq1 kr
   clear hP4 hS hP;subst k1
   refine e0c kq0 fun kq00 kq01 kq02=>?_
   refine e0c kq1 fun kq10 kq11 kq12=>?_
   refine e0b (tc kt p3 0) fun O1 O2=>?_
   refine e0b (tc kt p3 1) fun O3 O4=>?_
   have eO2:qd d (d.length-place) 4=place-q0:=O2.trans (if_neg kq00)
   have eO4:qd d (d.length-place) 6=place-q1:=O4.trans (if_neg kq10)
   have O1:pc d (d.length-place) 4:=O1
   have O3:pc d (d.length-place) 6:=O3
   have ktl:=kt.lo
   have kth:=kt.hi
   refine e0b (l4 kq02 p3) fun A1 A2=>?_
   refine e0b (l4 kq12 p3) fun B1 B2=>?_
   refine e0b (l4 kr.nk p3) fun C1 C2=>?_
   have q0l:(4:Int)≤q0:=kq02.lo
   have q1l:(4:Int)≤q1:=kq12.lo
   have eA:place-q0+((d.length:Int)-place)=d.length-q0:=by exact Int.le_antisymm (lin [_,_] [_] (.a bi bf) bv 1 [] rfl) (lin [_,_] [_] bf (.a bH bv) 1 [] rfl)
   have eB:place-q1+((d.length:Int)-place)=d.length-q1:=by exact Int.le_antisymm (lin [_,_] [_] (.a bi bf) bv 1 [] rfl) (lin [_,_] [_] bf (.a bH bv) 1 [] rfl)
   have eA2:(d.length:Int)-q0+(q0-vk)=d.length-vk:=by exact Int.le_antisymm (lin [_,_] [_] (.a bf bi) bv 1 [] rfl) (lin [_,_] [_] bf (.a bv bH) 1 [] rfl)
   have eB2:(d.length:Int)-q1+(q1-vp)=d.length-vp:=by exact Int.le_antisymm (lin [_,_] [_] (.a bf bi) bv 1 [] rfl) (lin [_,_] [_] bf (.a bv bH) 1 [] rfl)
   have hlm:holds.length*w4≤3*w4:=Nat.mul_le_mul_right _ k2
   have hA:0≤place-q0∧place-q0≤4294967295:=⟨by exact (lin [_,_] [] ai bi 1 [.i 1 bP aa] rfl kq01),by exact lin [_,_] [_] bi aJ 1 [.j 1 ab aq,.i 1 aa af,.i 1 ao an] rfl p3 (And.left (And.right hpl)) q0l⟩
   have hB:0≤place-q1∧place-q1≤4294967295:=⟨by exact (lin [_,_] [] ai bi 1 [.i 1 bP aa] rfl kq11),by exact lin [_,_] [_] bi aJ 1 [.j 1 ab aq,.i 1 aa af,.i 1 ao an] rfl p3 (And.left (And.right hpl)) q1l⟩
   rw [show evN names (ev ns names f) ⟨6,holds,place⟩ m=(ij 6 (evs (ev ns names f) holds m).1,(evs (ev ns names f) holds m).2) from rfl] at hK2
   lk
   refine fW hO 0 {x:=4} ⟨d,d.length-place,ver⟩ (.int (place-q0)) rfl rfl O1 (congrArg P.int eO2) ?_
   lk
   refine fW hV 0 {x:=place-q0} ⟨d,d.length-place,ver⟩ (.int (d.length-vk+4)) rfl rfl ⟨hA.1,hA.2,by rw [eA];exact A1⟩ (by show P.int _=_;rw [eA,A2,eA2]) ?_
   lk
   refine fW hO 0 {x:=6} ⟨d,d.length-place,ver⟩ (.int (place-q1)) rfl rfl O3 (congrArg P.int eO4) ?_
   lk
   refine fW hV 0 {x:=place-q1} ⟨d,d.length-place,ver⟩ (.int (d.length-vp+4)) rfl rfl ⟨hB.1,hB.2,by rw [eB];exact B1⟩ (by show P.int _=_;rw [eB,B2,eB2]) ?_
   lk
   refine ⟨Nat.zero_le _,?_⟩
   lk
   refine fW hO 0 {x:=4} ⟨d,d.length-place,ver⟩ (.int (place-q0)) rfl rfl O1 (congrArg P.int eO2) ?_
   lk
   refine fW hL 0 {x:=place-q0} ⟨d,d.length-place,ver⟩ (.int holds.length) rfl rfl ⟨hA.1,hA.2,by rw [eA];exact A1,by rw [eA,A2,eA2];exact C1⟩ (by show P.int _=_;rw [eA,A2,eA2,C2]) ?_
   lk
   refine ⟨⟨by exact (lin [] [] aD ai 1 [] rfl),by exact (lin [] [] ai aH 1 [] rfl),by exact (lin [] [_] aD af 1 [] rfl),by exact (lin [] [_] af aH 1 [.j 1 ab aM] rfl k2), .inl rfl⟩,?_⟩
   lk
   refine qF (n0:=3) (fun j=>⟨[some (.ref 0),some (.p (.int 6)),some (.p (.lst (names.map .int))),some (.ref 1),some (.p (.int place)),none,none,some (.p (.int (d.length-vk+4))),some (.p (.int (d.length-vp+4))),some (.ref 2),j.o.map .p,none],[Tw.o ⟨d,d.length-place,ver⟩,dO j.mt, .bx (.lst (j.l.map .int))]⟩)
    (RdI (ev ns names f) w4 holds m) (fun x xs' j K3 hj hn _ _=>⟨trivial,?_⟩) (fun j hj=>⟨trivial,?_⟩) _ {mt:=m} ⟨Nat.zero_le _,kM _,rfl,hmw,by dsimp only;rw [Nat.sub_zero];exact (cT [] [_,_,_] a9 aq 1 [.j 1 (.a ab (.r ak 4)) aq,.j 1 aj ak,.j 1 ae cv] rfl hml h41 hlm),(fun v hv=>nomatch hv),rfl,rfl⟩
   ·refine e1c (pt hj.x) fun mm hm zq2 hxs=>?_;clear hL hV hO hlm hmw C1 eA2 A2 eA A1;subst zq2
    have hkl:j.k<holds.length:=by lia
    have hjl:=hj.len
    rw [hm,Nat.succ_mul] at hjl
    have hk:holds[j.k]? = some holds[j.k]:=List.getElem?_eq_getElem hkl
    have hdr:holds.drop j.k=holds[j.k]::holds.drop (j.k+1):=List.drop_eq_getElem_cons hkl
    generalize holds[j.k]=y at hk hdr
    refine e1d (kr.el j.k y hk) fun c y0 hc fb fi=>?_
    have hy:=k3 y (List.mem_of_getElem? hk)
    refine e0b (l4 fb p3) fun D1 D2=>?_
    refine e0b (l4 fi p3) fun G1 G2=>?_
    have cp:=(hp.laid _ _ hc).place
    have eD:(d.length:Int)-vk+4+j.k=d.length-(vk-4-j.k):=by exact Int.le_antisymm (lin [_] [_,_] (.a cE am) (.s af (.s cA am)) 1 [] rfl) (lin [_] [_,_] (.s af (.s cA am)) (.a cE am) 1 [] rfl)
    have eE:(d.length:Int)-vp+4+4*j.k=d.length-(vp-4-4*j.k):=by exact Int.le_antisymm (lin [_] [_,_] (.a cE bO) (.s af (.s cA bO)) 1 [] rfl) (lin [_] [_,_] (.s af (.s cA bO)) (.a cE bO) 1 [] rfl)
    have eE2:(d.length:Int)-(vp-4-4*j.k)+(vp-4-4*j.k-c.place)=d.length-c.place:=by exact Int.le_antisymm (lin [_,_] [_,_] (.a (.s af (.s cA bO)) (.s (.s cA bO) an)) bv 1 [] rfl) (lin [_,_] [_,_] bf (.a (.s af (.s (.s an ao) bO)) (.s (.s (.s an ao) bO) aa)) 1 [] rfl)
    have hN:(y.toNat:Int)=y:=Int.toNat_of_nonneg y0
    have m2:=F.ok y j.mt hj.met
    have l2:=F.len y j.mt hj.met
    have b2:=F.bd y j.mt hj.met
    have e1:=hj.e1;have e2:=hj.e2
    rw [hdr] at e1 e2
    lk
    refine ⟨⟨Int.lt_of_lt_of_le (by decide) (Int.natCast_nonneg _),by exact lin [] [_,_] bw aX 1 [.j 1 ae aM,.j 1 a8 ae] rfl k2 hkl⟩,?_⟩
    lk
    refine fW hI 0 {x:=d.length-(vp-4-4*j.k)} ⟨d,d.length-place,ver⟩ (.int (d.length-c.place)) (congrArg (fun x=>[V.p (.int x)]) eE) rfl G1 (by show P.int _=_;rw [G2,eE2]) ?_
    lk
    refine wy hC ⟨by exact (lin [_] [_] ai bf 1 [.i 1 aa af] rfl (And.left (And.right cp))),by exact lin [_] [_] bf aJ 1 [.j 1 ab aq,.i 1 ao aa] rfl p3 (And.left cp)⟩ fun ver2=>?_
    lk
    refine fW hG 0 {g:=.u8,x:=d.length-(vk-4-j.k)} ⟨d,d.length-place,ver⟩ _ (congrArg (fun x=>[V.p (.st eX),V.p (.int x)]) eD) rfl D1 rfl ?_
    lk
    refine de hR rfl rfl (sY f y.toNat c (by rw [hN];exact pre (by exact lin [_] [] (.n (-1)) aa 1 [.i 1 ai aa] rfl y0) hy.2 hj.met (by exact cT [] [_,_,_] a9 aq 1 [.j 1 (.a ab bC) aq] rfl hjl)) ⟨by exact (cT [] [_,_] bj ae 1 [.j 1 cG bc] rfl hr),hc,rfl⟩ D2 ?_)
    rw [hN]
    lk
    refine ⟨by rw [List.length_map,hj.ac];exact (cT [] [_,_] a8 aq 1 [.j 1 ae aM,.j 1 a8 ae] rfl k2 hkl),?_⟩
    lk
    refine (hn _ {k:=j.k+1,l:=j.l++[(ev ns names f y j.mt).1],mt:=(ev ns names f y j.mt).2,o:=some (.int j.k)} ?_ ⟨hkl,by rw [hxs];exact congrArg (rg _) (show mm=holds.length-(j.k+1) by exact Nat.le_antisymm (cT [] [_,_,_,_,_] ab ae 1 [.j 1 a8 ak,.j 1 bB az,.j 1 az (.a ae bA)] rfl (Nat.le_of_eq (Eq.symm hm)) (Nat.le_of_eq (Nat.sub_add_cancel (cT [] [_,_] ab ae 1 [.j 1 a8 ae] rfl hkl))) (Nat.le_of_eq (Eq.symm (Nat.sub_add_cancel (cT [] [_,_] a8 ae 1 [.j 1 a8 ae] rfl hkl))))) (cT [] [_,_,_,_,_] ab ae 1 [.j 1 ak bc,.j 1 av (.a ak az),.j 1 (.a ab (.a az aj)) av] rfl (Nat.le_of_eq hm) (Nat.le_of_eq (Eq.symm (Nat.sub_add_cancel (cT [] [_,_] ab ae 1 [.j 1 a8 ae] rfl hkl)))) (Nat.le_of_eq (Nat.sub_add_cancel (cT [] [_,_] a8 ae 1 [.j 1 a8 ae] rfl hkl))))),by rw [List.length_append,hj.ac];rfl,m2,?_,fun v hv=>?_,e1.trans ?_,e2⟩).1
    ·rw [←iB];rfl
    ·refine (?_:(ev ns names f y j.mt).2.length+(holds.length-(j.k+1))*w4≤16777216)
     rw [show holds.length-(j.k+1)=mm by exact (Nat.le_antisymm (cT [] [_,_,_,_,_] ab ae 1 [.j 1 ak bc,.j 1 av (.a ak az),.j 1 (.a ab (.a az aj)) av] rfl (Nat.le_of_eq hm) (Nat.le_of_eq (Eq.symm (Nat.sub_add_cancel (cT [] [_,_] ab ae 1 [.j 1 a8 ae] rfl hkl)))) (Nat.le_of_eq (Nat.sub_add_cancel (cT [] [_,_] a8 ae 1 [.j 1 a8 ae] rfl hkl)))) (cT [] [_,_,_,_,_] ab ae 1 [.j 1 a8 ak,.j 1 bB az,.j 1 az (.a ae bA)] rfl (Nat.le_of_eq (Eq.symm hm)) (Nat.le_of_eq (Nat.sub_add_cancel (cT [] [_,_] ab ae 1 [.j 1 a8 ae] rfl hkl))) (Nat.le_of_eq (Eq.symm (Nat.sub_add_cancel (cT [] [_,_] a8 ae 1 [.j 1 a8 ae] rfl hkl))))))];exact cT [] [_,_,_,_] a9 aq 1 [.j 1 (.a ak bS) aq,.j 1 ab bB] rfl hjl l2
    ·clear hC hI hG hR hxs hkl D2 hc hr ver2 cp;rcases List.mem_append.mp hv with q|q
     ·exact hj.bd v q
     ·rw [List.mem_singleton.mp q];exact b2
    ·rw [List.append_assoc];rfl
   ·have hk0:j.k=holds.length:=by
     have q:=congrArg List.length hj.x
     unfold rg at q
     rw [List.length_map,List.length_range'] at q
     have q:0=holds.length-j.k:=q
     have hk:=hj.k
     exact Nat.le_antisymm (cT [] [_,_] ab ae 1 [.j 1 ab ae] rfl hk) (cT [] [_,_,_] ab ae 1 [.j 1 ak ay,.j 1 ab bC] rfl (Nat.le_of_eq (Eq.symm q)) (Nat.le_of_eq (Eq.symm (Nat.sub_add_cancel (cT [] [_,_] ab ae 1 [.j 1 ab ae] rfl hk)))))
    have e1:=hj.e1;have e2:=hj.e2
    rw [hk0,List.drop_length] at e1 e2
    have e1:(evs (ev ns names f) holds m).1=j.l:=e1.trans (List.append_nil _)
    have e2:(evs (ev ns names f) holds m).2=j.mt:=e2
    rw [e1,e2] at hK2
    have hac:=hj.ac
    lk
    refine de hJ rfl rfl (vO ⟨fun hk=>absurd hk (by decide),by exact (cT [] [_,_,_] ab aS 1 [.j 1 ae aM,.j 1 ak ae,.j 1 ab ak] rfl k2 (Nat.le_of_eq hk0) (Nat.le_of_eq hac)),hj.bd⟩ ?_)
    lk
    exact hK2 {e:=[none,some (.p (.int (d.length-vk+4))),some (.p (.int (d.length-vp+4))),some (.ref 2),j.o.map .p,none],s:=[_]} trivial
 refine e0c (wi F hp.nb (h3 n (List.mem_of_getElem? hget)) m hp.met) fun E1 E2 E3=>?_
 rw [show dO (vw (evN names (ev ns names f) n m).2 n.place (evN names (ev ns names f) n m).1)=.bx (.dict (o5 (rx (evN names (ev ns names f) n m).2) (.int n.place) (.int (evN names (ev ns names f) n m).1))) from congrArg (fun z=>O.bx (.dict z)) (qN _ _ _).symm] at hq
 lk
 refine ⟨⟨gq _ _,by rw [ti];exact cT [] [_,_,_] ab aq 1 [.j 1 (.a ae (.r ak 4)) aq,.j 1 aj ak,.j 1 ab (.a ae cv)] rfl hml h41 E3⟩,?_⟩
 lk
 exact hK (.ret (.p (.int (evN names (ev ns names f) n m).1))) _ [Tw.o ⟨d,d.length-n.place,ver⟩, .bx (.dict (o5 (rx (evN names (ev ns names f) n m).2) (.int n.place) (.int (evN names (ev ns names f) n m).1)))] j.s rfl rfl hq
end
section
theorem Ah (a:Ab) {R:Int} (h0:0≤R) (h1:R≤a.T.length) (h2:a.T.length≤1000000) (hm:gX a.mal) :
  (∃X,(r8 a R).T=X++a.T)∧(r8 a R).T.length≤16777216∧lq .I (r8 a R).T (r8 a R).T.length ((r8 a R).T.length-R):=by
 have hp1:=dB a (s:=a.mal) (add:=4) hm
 have hp2:=dB (dy a a.mal 4) (s:=4) (add:=0) (by unfold gX;exact Or.inr (Or.inr (Or.inl (Int.le_antisymm (lin [] [] ao ao 1 [] rfl) (lin [] [] ao ao 1 [] rfl)))))
 have hu:=kL (dy a a.mal 4) R
 have hs:=dR (n:=a.T.length) (add:=4) (s:=a.mal) hm
 have hm':=hm
 unfold gX at hm'
 have hb:(dy a a.mal 4).T.length≤1048576:=by lia
 refine ⟨?_,?_,pu _ h0 (by exact lin [_] [_,_,_] aa af 1 [.i 1 aa am,.i 1 am au,.i 1 au af] rfl h1 (And.left hp1) (And.left hp2)) hb⟩
 ·refine e1a ((mR (dy a a.mal 4) R).suf) fun X hX=>?_
  refine e1a ((mS a (s:=a.mal) (add:=4) hm).suf) fun Y hY=>?_
  exact ⟨X++Y,by refine (?_:(lQ (dy a a.mal 4) R).T=_);rw [hX,hY,List.append_assoc]⟩
 ·refine (?_:(lQ (dy a a.mal 4) R).T.length≤_);exact cT [] [_,_] ab aq 1 [.i 1 af (.a am aT),.j 1 ae aC] rfl (And.right (And.right hu)) hb
structure AS (a a3:Ab) (ns:List fp) (l:List Int) (R:Int) (d:List UInt8) (qk qo:Int):Prop where
 vt:a3.vt=some l
 oe:a3.oe=.int a.T.length
 nested:a3.nested=true
 wp:wO {a3 with nested:=false} l a.T.length
 r0:0≤R
 r1:R≤(wvA {a3 with nested:=false} l a.T.length).T.length
 r2:(wvA {a3 with nested:=false} l a.T.length).T.length≤1000000
 mal:gX (wvA {a3 with nested:=false} l a.T.length).mal
 dl:d.length≤16777216
 rd:lq .I d d.length (d.length-R)
 tab:p7 d R l
 l0:l[0]? = some qk
 l1:l[1]? = some qo
 op:OpE d ns R qk qo ((ns.length:Int)-1)
 nodes:∀(i:Nat) (n:fp),ns[i]? = some n→jB d ns i n
theorem sX {a:Ab} {ns:List fp} (B:wZ a ns) (h1:1≤ns.length):wV (dA a 2) ns (0:Int) ((ns.length:Int)-1) [0,0]:=by
 have hT:=B.len;have hf:=B.few
 refine ⟨by exact (lin [] [_] (.n (-1)) bG 1 [.j 1 aj ab] rfl h1),by exact (lin [] [_] (.a bG ap) af 1 [] rfl),rfl,rfl,by decide,by decide,by decide,by refine (?_:a.T.length≤_);exact (cT [] [_,_] ab (.n 200000) 1 [.j 1 ab bL,.j 200 ae aR] rfl hT hf),hf,fun n hn=>?_⟩
 obtain ⟨j,hj,rfl⟩:=List.mem_iff_getElem.mp hn
 have:=(B.nodes j _ (List.getElem?_eq_getElem hj)).2
 exact ⟨by exact (lin [_] [] ap aa 1 [.i 1 ao aa] rfl (And.left this)),by refine (?_:_≤(a.T.length:Int));exact (lin [_] [_] aa af 1 [.i 1 aa af] rfl (And.left (And.right this))),by exact (lin [_] [] ap aa 1 [.i 1 ap aa] rfl (And.left (And.right (And.right this)))),by exact lin [_] [] aa a7 1 [.i 1 aa a7] rfl (And.right (And.right (And.right this)))⟩
theorem xx {a:Ab} {ns:List fp} (B:wZ a ns) (h1:1≤ns.length) :
  ∃l qk qo,AS a (opA (dA a 2) ns 0 ((ns.length:Int)-1)) ns l (fO {opA (dA a 2) ns 0 ((ns.length:Int)-1) with nested:=false} 0).T.length
   (r8 (wvA {opA (dA a 2) ns 0 ((ns.length:Int)-1) with nested:=false} l a.T.length) (fO {opA (dA a 2) ns 0 ((ns.length:Int)-1) with nested:=false} 0).T.length).T qk qo:=by
 have hT:=B.len;have hf:=B.few;have hvn:=B.vtn
 refine e2c (yU (sl:=0) (p5.start B.mal 2) (sX B h1) B.force rfl rfl) fun qk qo S U hfo=>?_
 generalize ha3:opA (dA a 2) ns ((0:Nat):Int) ((ns.length:Int)-1)=a3 at S U hfo
 have O:=S.inv
 have hSl:a3.T.length≤a.T.length+24:=S.len
 have WP:=O.pre (by exact cT [] [_,_] ab (.a ae (.n 2000)) 1 [.j 1 ab (.a ae (.n 24))] rfl hSl) (by exact cT [] [_,_] ab aQ 1 [.j 1 ab bL,.j 200 ae aR] rfl hT hf) (by rw [List.length_set,List.length_set];decide) B.vts (by exact cT [] [_,_] ab aQ 1 [.j 1 ae aR,.j 1 ab ae] rfl hf hvn)
 have W:=yM WP (by refine (?_:tL a3.T a3.vts);rw [O.vts];refine e1a O.suf fun X hX=>?_;rw [hX];exact B.vts.app X)
 have hwl:=W.len
 dsimp only at hwl
 have hl2:(((List.replicate (2:Int).toNat (0:Int)).set (0+1) qo).set 0 qk)=[qk,qo]:=rfl
 rw [hl2] at O WP W hwl
 have hrs:=iz {a3 with nested:=false} 0
 have hpp:=dB {a3 with nested:=false} (s:=4) (add:=0) (by unfold gX;exact Or.inr (Or.inr (Or.inl (Int.le_antisymm (lin [] [] ao ao 1 [] rfl) (lin [] [] ao ao 1 [] rfl)))))
 dsimp only at hpp hrs
 have hR:(a3.T.length:Int)<((fO {a3 with nested:=false} 0).T.length:Int):=by rw [iz];exact lin [] [_,_] bw bz 1 [.i 1 af am] rfl (And.left hpp)
 have hmal:gX (wvA {a3 with nested:=false} [qk,qo] a.T.length).mal:=by
  rw [W.mal];refine (?_:gX (if a3.mal<4 then 4 else a3.mal));split
  ·unfold gX;exact Or.inr (Or.inr (Or.inl (Int.le_antisymm (lin [] [] ao ao 1 [] rfl) (lin [] [] ao ao 1 [] rfl))))
  ·exact O.mal
 have hlen:(wvA {a3 with nested:=false} [qk,qo] a.T.length).T.length≤1000000:=by simp only [List.length_cons,List.length_nil] at hwl;exact cT [] [_,_,_,_] ab (.n 1000000) 1 [.j 1 ae (.m 200 ak),.j 200 ak aR,.j 1 av (.a ae (.n 24)),.i 1 af (.a (.a ax (.n 11)) (.m 2 (.c (.a bg aj))))] rfl hT hf hSl hwl
 refine e0c (Ah (wvA {a3 with nested:=false} [qk,qo] a.T.length) (R:=(fO {a3 with nested:=false} 0).T.length) (by exact lin [] [_,_,_] ai af 1 [.i 1 bz af,.i 1 au am] rfl (Int.le_of_eq (Eq.symm hrs)) (And.left hpp)) W.obl hlen hmal) fun F1 F2 F3=>?_
 have hsuf0:∃X,(r8 (wvA {a3 with nested:=false} [qk,qo] a.T.length) (fO {a3 with nested:=false} 0).T.length).T=X++a3.T:=by
  refine e1a W.suf fun X hX=>?_
  refine e1a F1 fun Y hY=>?_
  exact ⟨Y++X,by rw [hY,hX,List.append_assoc]⟩
 have hsuf1:∃X,(r8 (wvA {a3 with nested:=false} [qk,qo] a.T.length) (fO {a3 with nested:=false} 0).T.length).T=X++a.T:=by
  refine e1a hsuf0 fun X hX=>?_
  refine e1a O.suf fun Y hY=>?_
  exact ⟨X++Y,by rw [hX,hY,List.append_assoc]⟩
 refine ⟨[qk,qo],qk,qo,O.vt,O.oe,O.nested,WP,by exact (lin [] [_,_,_] ai af 1 [.i 1 bz af,.i 1 au am] rfl (Int.le_of_eq (Eq.symm hrs)) (And.left hpp)),W.obl,hlen,hmal,F2,F3,W.tab.suf F1,rfl,rfl,U.op hsuf0 hR,fun i n hn=>?_⟩
 have:=((B.nodes i n hn).1.suf hsuf1 [])
 simpa using this
end
section
theorem Dx:wZ ab0 []:=⟨rfl,rfl,rfl, .inl rfl,(fun x hx=>nomatch hx),Nat.le_refl 0,Nat.le_refl 0,Nat.zero_le _,fun i n hi=>ns hi⟩
structure Lw where
 a:Ab
 b:List UInt8
 h:Int
 v:Nat
 x:Int
 k:Nat
 ns:List fp
 o:Option P
structure LwI (j:Lw):Prop where
 B:wZ j.a j.ns
 r:Rb j.a.T j.a.room j.b j.h
 x:0≤j.x
 n:j.ns.length≤j.k
 n1:1≤j.k→1≤j.ns.length
 o1:1≤j.k→∃z,j.o=some z
theorem mX {ι:Type} {G:Pg} {a b:S} {st:St} {Q:Fl→St→Prop} (stf:ι→St) (I:ι→Prop) (h1:∀K:Fl→St→Prop,(∀i,I i→K .next (stf i))→wS G a st K) (h2:∀i,I i→wS G b (stf i) Q):wS G (.seq a b) st Q:=
 uV (fun st=>∃i,st=stf i∧I i) (fun K hK _=>h1 K fun i hi=>hK _ ⟨i,rfl,hi⟩) fun st' zp=>e1b zp fun i e hi=>by clear h1 st a zp;subst e;exact h2 i hi
theorem y2 {ι:Type} {n0:Nat} {chk:St→Prop} {step:P→St→(Fl→St→Prop)→Prop} {Q:Fl→St→Prop} (stf:ι→St) (I:List P→ι→Prop)
  (hstep:∀x xs i (K:Fl→St→Prop),I (x::xs) i→(∀st' j,iT n0 st'=stf j→I xs j→K .next st'∧K .cont st')→chk (stf i)∧step x (stf i) K)
  (hend:∀i,I [] i→chk (stf i)∧Q .next (stf i)) (xs:List P) (i:ι) (h:I xs i):t0 n0 chk step xs (stf i) Q:=
 qG (fun xs st=>∃i,st=stf i∧I xs i) (fun x xs st K zp hn _ _=>e1b zp fun i e1 hI=>by subst e1;exact hstep x xs i K hI (fun st' j e hj=>hn st' ⟨j,e,hj⟩)) (fun st zp=>e1b zp fun i e1 hI=>by clear zp;subst e1;exact hend i hI) xs (stf i) ⟨i,rfl,h⟩
theorem Cg {G:Pg} {env:List (Option V)} {σ:List O} {Q:V→St→Prop} (hC:G.Φ cP=some (fH li cP 11)) {n:Int} (h0:0≤n∧n≤65536) (h:∀bytes ver',Rb [] 0 bytes n→Q (.ref σ.length) ⟨env,σ++[bo cP ab0 bytes n ver']⟩):fj G cP [.p (.int n)] [] ⟨env,σ⟩ Q:=by
 refine de hC (objs:=[]) rfl rfl ?_
 unfold fH li
 exact ⟨n,0,rfl,rfl,rfl,h0,fun b v r=>⟨rfl,h b v r⟩⟩
theorem Dz (r r':Nat) (hr:19≤r) (hr':9≤r') {Φ:Addr→Option Ctr} (hT:AT Φ fT ra) (hC:AT Φ cP (fH li cP 11)) (hMk:AT Φ gF sy)
  (hSO:AT Φ ek nR) (hOp:AT Φ eL rh) (hE:AT Φ e9 wD) (hF:AT Φ iq CU)
  (hOut:AT Φ ip jz) (hG:AT Φ pJ AB) (hTab:AT Φ ef (fH jy ef 2)) (hPart:AT Φ gE (pV r)) (hPl:AT Φ ga (lb r')) :
  BD Φ AA (db 1) 10 Bz:=fun args kws objs Q hh=>by
 unfold AA at hh
 refine e1e hh fun xs0 zq1 zq2 zq3 hxl hq=>?_;clear hh;subst zq1 zq2 zq3
 refine lj (env:=[.p (.lst (xs0.map .int))]) rfl fun K hK=>?_
 have hend:=fun e r=>hK (.ret (.p (.bool true))) e [] r rfl rfl hq
 clear hK hq
 refine mX (ι:=Lv) (fun j=>⟨[some (.p (.lst (xs0.map .int))),some (.ref 0),none,none,none,none,none,none,none,none,none],[bxO j.l 0]⟩) (fun j=>j.l.length≤64) (fun K2 hK2=>?_) fun j hxs=>?_
 ·lk
  refine la rfl pP rfl (by rw [List.length_map];exact Nat.le_trans hxl (by decide)) ?_
  lk
  refine ⟨Nat.le_of_ble_eq_true rfl,?_⟩
  lk
  conv=>whnf
  generalize (max 0 (min (at_ 30 (xs0.map P.int).length) ((xs0.map P.int).length:Int))).toNat=k
  rw [show cut (xs0.map P.int) 0 k=(xs0.take k).map P.int by rw [List.map_take];rfl]
  exact hK2 {l:=xs0.take k} (Nat.le_trans (List.length_take_le' ..) hxl)
 generalize j.l=xs at hxs
 have htk:∀{i many:Int},0≤i→0<many→tM xs i many:=fun h1 h2=>⟨h1,h2,hxs⟩
 refine mX (ι:=Lv) (fun j=>⟨[some (.p (.lst (xs0.map .int))),some (.ref 0),some (.ref 1),none,none,none,none,none,none,none,none],[bxO xs j.x,bo cP ab0 j.b j.h j.v]⟩) (fun j=>0≤j.x∧Rb [] 0 j.b j.h) (fun K2 hK2=>?_) fun j hj=>?_
 ·lk
  refine ⟨Nat.le_of_ble_eq_true rfl,?_⟩
  lk
  refine de hT rfl rfl (gL (htk (Int.le_refl 0) (by decide)) fun v i1 hv0 hv1 hi1=>?_)
  lk
  obtain ⟨n,hn,hn0⟩:∃n:Int,[P.int 0,P.int 6,P.int 50][v.toNat]? = some (.int n)∧(0≤n∧n≤65536):=by
   have hv:v.toNat<3:=by exact cT [_] [_] a8 aM 1 [.i 1 be a6,.i 1 af aa] rfl hv1 (Int.le_of_eq (Int.toNat_of_nonneg (lin [_] [] ai aa 1 [.i 1 ai aa] rfl hv0)))
   generalize v.toNat=w at hv
   match w,hv with
   |0,_=>exact ⟨0,rfl,by decide⟩
   |1,_=>exact ⟨6,rfl,by decide⟩
   |2,_=>exact ⟨50,rfl,by decide⟩
  refine f9 hv0 hn (Nat.le_of_ble_eq_true rfl) ?_
  lk
  refine Cg hC hn0 fun bytes ver' hrb=>?_
  lk
  exact hK2 {x:=i1,b:=bytes,h:=n,v:=ver'} ⟨hi1,hrb⟩
 refine e0b hj fun hi hr0=>?_
 generalize j.x=i at hi
 generalize j.b=bytes at hr0
 generalize j.h=head at hr0
 generalize j.v=ver
 refine mX (ι:=Lv) (fun j=>⟨[some (.p (.lst (xs0.map .int))),some (.ref 0),some (.ref 1),some (.p (.lst [.lst (j.l.map .int), .lst [.int 3, .int 0, .int (-5)]])),none,none,none,none,none,none,none],[bxO xs j.x,bo cP ab0 bytes head ver]⟩) (fun j=>0≤j.x∧j.l.length=3∧∀v∈j.l,bdI v) (fun K2 hK2=>?_) fun j hj=>?_
 ·lk
  refine ⟨⟨by decide,by decide,by decide,by decide, .inl rfl⟩,?_⟩
  lk
  refine ⟨⟨rfl,by rw [fQ];decide⟩,?_⟩
  lk
  refine qU (fun j=>⟨[some (.p (.lst (xs0.map .int))),some (.ref 0),some (.ref 1),none,none,none,none,none,none,none,none,none],[bxO xs j.x,bo cP ab0 bytes head ver]⟩) (fun xs' acc j=>acc=j.l.map .int∧j.l.length+xs'.length=3∧(∀v∈j.l,bdI v)∧0≤j.x)
   (fun x xs' acc j K3 hj hn=>⟨trivial,?_⟩) (fun acc j hj=>⟨trivial,?_⟩) _ _ {x:=i} ⟨rfl,by rw [fQ];rfl,(fun v hv=>nomatch hv),hi⟩
  ·refine e0d hj fun zq0 hln hh hi2=>?_;clear hj;clear hC hxl Q;subst zq0
   lk
   refine de hT rfl rfl (gL (htk hi2 (by decide)) fun v i3 hv0 hv1 hi3=>?_)
   lk
   refine hn _ {l:=j.l++[v-1000],x:=i3} ⟨iB _ _,?_,fun h hm=>?_,hi3⟩
   ·rw [List.length_append];rw [List.length_cons] at hln;refine (?_:j.l.length+1+xs'.length=3);exact Nat.le_antisymm (cT [] [_,_] cH aM 1 [.j 1 cC aM] rfl (Nat.le_of_eq hln)) (cT [] [_,_] aM cH 1 [.j 1 aM cC] rfl (Nat.le_of_eq (Eq.symm hln)))
   ·clear hi3;rcases List.mem_append.mp hm with q|q
    ·exact hh h q
    ·rw [List.mem_singleton.mp q];exact ⟨by exact (lin [_] [] aV (.s aa (.n 1000)) 1 [.i 1 ai aa] rfl hv0),by exact lin [_] [] (.s aa (.n 1000)) aP 1 [.i 1 be (.n 2001)] rfl hv1⟩
  ·refine e0d hj fun zq0 hln hh hi2=>?_;clear hj;clear hC hT htk hxl Q;subst zq0
   lk
   refine ⟨Nat.le_of_ble_eq_true rfl,?_⟩
   lk
   refine ⟨Nat.le_of_ble_eq_true rfl,?_⟩
   lk
   exact hK2 {x:=j.x,l:=j.l} ⟨hi2,hln,hh⟩
 refine e0c hj fun hi1 hnl hnb=>?_
 clear htk hxl;generalize j.l=names at hnl hnb
 generalize j.x=i1 at hi1
 refine mX (ι:=Unit) (fun _=>⟨[some (.p (.lst (xs0.map .int))),some (.ref 0),some (.ref 1),some (.p (.lst [.lst (names.map .int), .lst [.int 3, .int 0, .int (-5)]])),some (.ref 2),none,none,none,none,none,none],[bxO xs i1,bo cP ab0 bytes head ver,dS []]⟩) (fun _=>True) (fun K2 hK2=>?_) fun _ _=>?_
 ·lk
  refine ⟨Nat.zero_le _,?_⟩
  lk
  exact hK2 () trivial
 refine mX (ι:=Lw) (fun j=>⟨[some (.p (.lst (xs0.map .int))),some (.ref 0),some (.ref 1),some (.p (.lst [.lst (names.map .int), .lst [.int 3, .int 0, .int (-5)]])),some (.ref 2),some (.p (j.o.getD .none)),none,none,none,none,none],[bxO xs j.x,bo cP j.a j.b j.h j.v,dS j.ns]⟩) (fun j=>LwI j∧j.k=8) (fun K2 hK2=>?_) fun j hj=>?_
 ·lk
  refine ⟨⟨by decide,by decide,by decide,by decide, .inl rfl⟩,?_⟩
  lk
  refine y2 (n0:=3) (ι:=Lw) (fun j=>⟨[some (.p (.lst (xs0.map .int))),some (.ref 0),some (.ref 1),some (.p (.lst [.lst (names.map .int), .lst [.int 3, .int 0, .int (-5)]])),some (.ref 2),j.o.map .p,none,none,none,none,none],[bxO xs j.x,bo cP j.a j.b j.h j.v,dS j.ns]⟩) (fun xs' j=>LwI j∧xs'=rg j.k (8-j.k)∧j.k≤8)
   (fun x xs' j K3 hj hn=>⟨trivial,?_⟩) (fun j hj=>⟨trivial,?_⟩) _ ⟨ab0,bytes,head,ver,i1,0,[],none⟩ ⟨⟨Dx,hr0,hi1,Nat.le_refl 0,(fun h=>absurd (show 1≤0 from h) (by decide)),fun h=>absurd (show 1≤0 from h) (by decide)⟩,kM 8,Nat.zero_le _⟩
  ·refine e0c hj fun J hx hk8=>?_
   refine e1c (pt hx) fun m hm zq2 hxs'=>?_;clear hC hT hi1 hr0 i1 ver head;subst zq2
   have hnk:=J.n
   have hx2:xs'=rg (j.k+1) (8-(j.k+1)):=by rw [hxs'];exact congrArg (rg _) (by exact Nat.le_antisymm (cT [] [_,_,_,_] ab ae 1 [.j 1 a8 ak,.j 1 bB aE,.j 1 aE (.a ae bA)] rfl (Nat.le_of_eq (Eq.symm hm)) (Nat.le_of_eq (Nat.sub_add_cancel (cT [] [_] ab aE 1 [.j 1 ab aE] rfl hk8))) (Nat.le_of_eq (Eq.symm (Nat.sub_add_cancel (cT [] [_,_,_] a8 aE 1 [.j 1 bc ak,.j 1 cy aE] rfl (Nat.le_of_eq (Eq.symm hm)) (Nat.le_of_eq (Nat.sub_add_cancel (cT [] [_] ab aE 1 [.j 1 ab aE] rfl hk8)))))))) (cT [] [_,_,_,_] ab ae 1 [.j 1 ak bc,.j 1 aE bB,.j 1 (.a ab bA) aE] rfl (Nat.le_of_eq hm) (Nat.le_of_eq (Eq.symm (Nat.sub_add_cancel (cT [] [_] ab aE 1 [.j 1 ab aE] rfl hk8)))) (Nat.le_of_eq (Nat.sub_add_cancel (cT [] [_,_,_] a8 aE 1 [.j 1 bc ak,.j 1 cy aE] rfl (Nat.le_of_eq (Eq.symm hm)) (Nat.le_of_eq (Nat.sub_add_cancel (cT [] [_] ab aE 1 [.j 1 ab aE] rfl hk8))))))))
   have hgo:∀a' n b' hd' vr' i',wZ a' (j.ns++[n])→Rb a'.T a'.room b' hd'→0≤i'→LwI ⟨a',b',hd',vr',i',j.k+1,j.ns++[n],some (.int j.k)⟩:=fun a' n b' hd' vr' i' B' r' hi'=>
    ⟨B',r',hi',by refine (?_:(j.ns++[n]).length≤j.k+1);rw [List.length_append];exact Nat.add_le_add_right hnk 1,fun _=>by refine (?_:1≤(j.ns++[n]).length);rw [List.length_append];exact Nat.le_add_left 1 _,fun _=>⟨_,rfl⟩⟩
   lk
   refine dk (fun q=>?_) (fun q=>?_)
   ·lk
    refine de hMk rfl rfl (tj J.r ⟨J.B,by exact (cT [] [_,_] ab aU 1 [.j 1 ae aE,.j 1 ab ae] rfl hk8 hnk),hxs,J.x⟩ fun a' n b' hd' vr' i' B' hrb' hi'=>?_)
    lk
    exact (hn _ ⟨a',b',hd',vr',i',j.k+1,j.ns++[n],some (.int j.k)⟩ rfl ⟨hgo _ _ _ _ vr' _ B' hrb' hi',hx2,show j.k+1≤8 by exact cT [] [_,_,_] a8 aE 1 [.j 1 bc ak,.j 1 cy aE] rfl (Nat.le_of_eq (Eq.symm hm)) (Nat.le_of_eq (Nat.sub_add_cancel (cT [] [_] ab aE 1 [.j 1 ab aE] rfl hk8)))⟩).1
   ·have hk0:¬(j.k:Int)=0:=of_decide_eq_false q
    lk
    refine eG 1 rfl rfl ?_
    lk
    refine eG 0 rfl rfl ?_
    lk
    refine ⟨by rw [List.length_map];exact Nat.le_trans hxs (by decide),?_⟩
    lk
    refine dk (fun q2=>?_) (fun q2=>?_)
    ·lk
     refine de hMk rfl rfl (tj J.r ⟨J.B,by exact (cT [] [_,_] ab aU 1 [.j 1 ae aE,.j 1 ab ae] rfl hk8 hnk),hxs,J.x⟩ fun a' n b' hd' vr' i' B' hrb' hi'=>?_)
     lk
     exact (hn _ ⟨a',b',hd',vr',i',j.k+1,j.ns++[n],some (.int j.k)⟩ rfl ⟨hgo _ _ _ _ vr' _ B' hrb' hi',hx2,show j.k+1≤8 by exact cT [] [_,_,_] a8 aE 1 [.j 1 bc ak,.j 1 cy aE] rfl (Nat.le_of_eq (Eq.symm hm)) (Nat.le_of_eq (Nat.sub_add_cancel (cT [] [_] ab aE 1 [.j 1 ab aE] rfl hk8)))⟩).1
    ·lk
     exact (hn _ ⟨j.a,j.b,j.h,j.v,j.x,j.k+1,j.ns,some (.int j.k)⟩ rfl ⟨⟨J.B,J.r,J.x,Nat.le_succ_of_le hnk,fun _=>J.n1 (by exact cT [] [_] aj ab 1 [.i 1 bn af] rfl (Int.lt_iff_le_and_ne.mpr (And.intro (lin [] [_,_] ai af 1 [.j 1 ae ab] rfl hnk) (Ne.symm hk0)))),fun _=>⟨_,rfl⟩⟩,hx2,show j.k+1≤8 by exact cT [] [_,_,_] a8 aE 1 [.j 1 bc ak,.j 1 cy aE] rfl (Nat.le_of_eq (Eq.symm hm)) (Nat.le_of_eq (Nat.sub_add_cancel (cT [] [_] ab aE 1 [.j 1 ab aE] rfl hk8)))⟩).1
  ·refine e0c hj fun J hx hk8=>?_
   have hk0:j.k=8:=by
    have q:=congrArg List.length hx
    unfold rg at q
    rw [List.length_map,List.length_range'] at q
    have q:0=8-j.k:=q
    exact Nat.le_antisymm (cT [] [_] ab aE 1 [.j 1 ab aE] rfl hk8) (cT [] [_,_] aE ab 1 [.j 1 ae ay,.j 1 aE bT] rfl (Nat.le_of_eq (Eq.symm q)) (Nat.le_of_eq (Eq.symm (Nat.sub_add_cancel (cT [] [_] ab aE 1 [.j 1 ab aE] rfl hk8)))))
   lk
   have h2:=hK2 j ⟨J,hk0⟩
   rw [show some (V.p (j.o.getD .none))=j.o.map V.p by refine e1a (J.o1 (by rw [hk0];decide)) fun z hz=>?_;rw [hz];rfl] at h2
   exact h2
 refine e0b hj fun J hj8=>?_
 clear hMk hC hT;generalize j.o.getD .none=z5
 have hn8:j.ns.length≤8:=by rw [←hj8];exact J.n
 have hn1:=J.n1 (by rw [hj8];decide)
 have hnl8:(j.ns.map kO).length≤16777216:=by rw [List.length_map];exact Nat.le_trans hn8 (by decide)
 refine e3a (xx J.B hn1) fun l qk qo RO=>?_
 refine mX (ι:=Lv) (fun i=>⟨[some (.p (.lst (xs0.map .int))),some (.ref 0),some (.ref 1),some (.p (.lst [.lst (names.map .int), .lst [.int 3, .int 0, .int (-5)]])),some (.ref 2),some (.p z5),none,none,none,none,none],[bxO xs j.x,bo cP (dA j.a 2) i.b i.h i.v,dS j.ns]⟩) (fun i=>Rb (dA j.a 2).T (dA j.a 2).room i.b i.h) (fun K2 hK2=>?_) fun i2 hr2=>?_
 ·lk
  refine dp hSO 1 {x:=2} rfl J.r ⟨J.B.nested,show (0:Int)≤2 by decide,show (2:Int)≤1000 by decide⟩ fun bytes2 head2 ver2 hr2=>?_
  lk
  exact hK2 {b:=bytes2,h:=head2,v:=ver2} hr2
 have hop:=sX J.B hn1
 refine mX (ι:=Lv) (fun i=>⟨[some (.p (.lst (xs0.map .int))),some (.ref 0),some (.ref 1),some (.p (.lst [.lst (names.map .int), .lst [.int 3, .int 0, .int (-5)]])),some (.ref 2),some (.p z5),none,none,none,none,none],[bxO xs j.x,bo cP (opA (dA j.a 2) j.ns 0 ((j.ns.length:Int)-1)) i.b i.h i.v,dS j.ns]⟩) (fun i=>Rb (opA (dA j.a 2) j.ns 0 ((j.ns.length:Int)-1)).T (opA (dA j.a 2) j.ns 0 ((j.ns.length:Int)-1)).room i.b i.h) (fun K2 hK2=>?_) fun i3 hr3=>?_
 ·lk
  refine ⟨hnl8,?_⟩
  lk
  refine de hOp rfl (by rw [List.length_map];try rfl) (ta [0,0] hr2 hop fun bytes3 head3 ver3 hr3=>?_)
  lk
  exact hK2 {b:=bytes3,h:=head3,v:=ver3} hr3
 clear hOp hSO J;generalize opA (dA j.a 2) j.ns 0 ((j.ns.length:Int)-1)=a3 at *
 have hvd:a3.vt.getD []=l:=by rw [RO.vt];rfl
 refine mX (ι:=Lv) (fun i=>⟨[some (.p (.lst (xs0.map .int))),some (.ref 0),some (.ref 1),some (.p (.lst [.lst (names.map .int), .lst [.int 3, .int 0, .int (-5)]])),some (.ref 2),some (.p z5),none,none,none,none,none],[bxO xs j.x,bo cP (r8 (wvA {a3 with nested:=false} l j.a.T.length) (fO {a3 with nested:=false} 0).T.length) i.b i.h i.v,dS j.ns]⟩)
  (fun i=>Rb (r8 (wvA {a3 with nested:=false} l j.a.T.length) (fO {a3 with nested:=false} 0).T.length).T (r8 (wvA {a3 with nested:=false} l j.a.T.length) (fO {a3 with nested:=false} 0).T.length).room i.b i.h) (fun K2 hK2=>?_) fun i4 hr4=>?_
 ·lk
  refine dp hE 1 {x:=j.a.T.length} rfl hr3 ⟨l,RO.nested,RO.vt,RO.oe,RO.wp⟩ fun bytes4 head4 ver4 hr4=>?_
  dsimp only at hr4
  rw [hvd] at hr4
  lk
  conv=>whnf
  rw [hvd]
  refine y8 hF 1 {x:=(fO {a3 with nested:=false} 0).T.length} rfl hr4 ⟨RO.r0,RO.r1,RO.r2,RO.mal⟩ fun rr bytes5 head5 ver5 hr5=>?_
  lk
  exact hK2 {b:=bytes5,h:=head5,v:=ver5} hr5
 have hfin:(r8 (wvA {a3 with nested:=false} l j.a.T.length) (fO {a3 with nested:=false} 0).T.length).fin=true:=rfl
 clear hF hE;generalize ((fO {a3 with nested:=false} 0).T.length:Int)=R at *
 have R9:=RO.dl;have R10:=RO.rd;have R11:=RO.tab;have R12:=RO.l0;have R13:=RO.l1;have R14:=RO.op;have R15:=RO.nodes
 clear RO hvd hr3 hop hr2
 generalize r8 (wvA {a3 with nested:=false} l j.a.T.length) R=a5 at *
 refine e0b (l4 R10 R9) fun F1 F2=>?_
 rw [Int.sub_self] at F1 F2
 refine mX (ι:=Unit) (fun _=>⟨[some (.p (.lst (xs0.map .int))),some (.ref 0),some (.ref 1),some (.p (.lst [.lst (names.map .int), .lst [.int 3, .int 0, .int (-5)]])),some (.ref 2),some (.p z5),some (.p (.bytes a5.T)),none,none,none,none],[bxO xs j.x,bo cP a5 i4.b i4.h i4.v,dS j.ns, .bx (.ba a5.T)]⟩) (fun _=>True) (fun K2 hK2=>?_) fun _ _=>?_
 ·lk
  refine tE hOut 1 ⟨a5,i4.b,i4.h,i4.v⟩ rfl hr4 hfin ?_
  lk
  refine ⟨R9,?_⟩
  lk
  exact hK2 () trivial
 have R11l:=R11.lo
 have R11h:=R11.hi
 refine mX (ι:=Nat) (fun v6=>⟨[some (.p (.lst (xs0.map .int))),some (.ref 0),some (.ref 1),some (.p (.lst [.lst (names.map .int), .lst [.int 3, .int 0, .int (-5)]])),some (.ref 2),some (.p z5),some (.p (.bytes a5.T)),some (.ref 4),none,none,none],[bxO xs j.x,bo cP a5 i4.b i4.h i4.v,dS j.ns, .bx (.ba a5.T),Tw.o ⟨a5.T,a5.T.length-R,v6⟩]⟩) (fun _=>True) (fun K2 hK2=>?_) fun v6 _=>?_
 ·lk
  refine fM hG {g:=.u,d:=a5.T,x:=0} F1 ?_
  lk
  conv=>whnf
  rw [show rdF (Ar.g {g:=.u,d:=a5.T,x:=0}).F (Ar.d {g:=.u,d:=a5.T,x:=0}) (Ar.x {g:=.u,d:=a5.T,x:=0})=_ from F2]
  refine wy hTab ⟨by exact (lin [_] [_] ai bf 1 [.i 1 aa af] rfl R11h),by exact lin [_] [_] bf aJ 1 [.j 1 ab aq,.i 1 ao aa] rfl R9 R11l⟩ fun ver6=>?_
  lk
  exact hK2 ver6 trivial
 have hsh:∀(i:Nat) (n:fp),j.ns[i]? = some n→mx i n:=fun i n hi=>(R15 i n hi).shape
 refine mX (ι:=Option P) (fun e8=>⟨[some (.p (.lst (xs0.map .int))),some (.ref 0),some (.ref 1),some (.p (.lst [.lst (names.map .int), .lst [.int 3, .int 0, .int (-5)]])),some (.ref 2),some (.p z5),some (.p (.bytes a5.T)),some (.ref 4),e8.map .p,none,none],[bxO xs j.x,bo cP a5 i4.b i4.h i4.v,dS j.ns, .bx (.ba a5.T),Tw.o ⟨a5.T,a5.T.length-R,v6⟩]⟩) (fun _=>True) (fun K2 hK2=>?_) fun e8 _=>?_
 ·lk
  refine y2 (n0:=5) (ι:=List (List Int) × Option P) (fun z=>⟨[some (.p (.lst (xs0.map .int))),some (.ref 0),some (.ref 1),some (.p (.lst [.lst (names.map .int), .lst [.int 3, .int 0, .int (-5)]])),some (.ref 2),some (.p z5),some (.p (.bytes a5.T)),some (.ref 4),z.2.map .p,none,none],[bxO xs j.x,bo cP a5 i4.b i4.h i4.v,dS j.ns, .bx (.ba a5.T),Tw.o ⟨a5.T,a5.T.length-R,v6⟩]⟩)
   (fun xs' z=>xs'=z.1.map (fun l=>P.lst (l.map .int))∧∀l∈z.1,l.length=3∧∀v∈l,bdI v) (fun x xs' z K3 hz hn=>⟨rfl,?_⟩) (fun z hz=>⟨rfl,?_⟩) _ ([names,[3,0,-5]],none) ⟨rfl,fun l hl=>?_⟩
  ·refine e0b hz fun hx hnm=>?_
   clear a3 hTab hG hz;obtain ⟨nm,nms,e0,rfl,rfl⟩:∃nm nms,z.1=nm::nms∧x=.lst (nm.map .int)∧xs'=nms.map (fun l=>P.lst (l.map .int)):=by
    cases hz1:z.1 with
    |nil=>rw [hz1] at hx;exact cn hx
    |cons nm nms=>rw [hz1] at hx;cases hx;exact ⟨nm,nms,rfl,rfl,rfl⟩
   rw [e0] at hnm
   refine e0b (hnm nm (List.mem_cons_self ..)) fun N1 N2=>?_
   have E:=x6 (ns:=j.ns) N2 (fun n hn=>by
    clear e0;obtain ⟨i,hi,e⟩:=List.mem_iff_getElem.mp hn
    exact (hsh i n (by rw [List.getElem?_eq_getElem hi,e])).few) 9
   have m0:MOK []:=⟨List.nodup_nil,fun x hx=>nomatch hx⟩
   have m1:=E.ok ((j.ns.length:Int)-1) [] m0
   lk
   refine de hPart rfl rfl (jF (ns:=j.ns) (names:=nm) 9 (h:=(j.ns.length:Int)-1) (m:=[]) (k:=0) (p:=R) (L:=l) (qk:=qk) (qo:=qo) ⟨R15,by exact (cT [] [_] ab aR 1 [.j 1 ab aE] rfl hn8),R9,N1,N2,by exact (lin [] [_] (.n (-1)) bG 1 [.j 1 aj ab] rfl hn1),by exact (lin [] [_] (.a bG ap) af 1 [] rfl),by exact (lin [] [_] (.a bG aA) (.c (.n 9)) 1 [.j 1 ab aE] rfl hn8),m0,by decide⟩ (by exact cT [] [_] (.a (.m 2 (.n 9)) aj) ab 1 [.j 1 (.n 19) ab] rfl hr) ⟨rfl,by decide,rfl,R11,R12,R13,R14⟩ ?_)
   lk
   refine ⟨hnl8,?_⟩
   lk
   refine de hPl rfl (by rw [List.length_map];try rfl) (jb 9 (m:=[]) ⟨hsh,by exact (cT [] [_] ab aR 1 [.j 1 ab aE] rfl hn8),N1,N2,by exact (lin [] [_] (.n (-1)) bG 1 [.j 1 aj ab] rfl hn1),by exact (lin [] [_] (.a bG ap) af 1 [] rfl),by exact (lin [] [_] (.a bG aA) (.c (.n 9)) 1 [.j 1 ab aE] rfl hn8),hr',m0,by decide⟩ ?_)
   lk
   refine o9 (decide_eq_false fun h=>h rfl) ?_
   lk
   refine ⟨⟨oW _,oW _⟩,?_⟩
   lk
   refine o9 (by rw [x7 m1.nd];rfl) ?_
   lk
   exact (hn _ (nms,some (.lst (nm.map .int))) rfl ⟨rfl,fun l hl=>hnm l (List.mem_cons_of_mem _ hl)⟩).1
  ·lk
   exact hK2 z.2 trivial
  ·clear a3 hPl hPart hTab hG;rcases List.mem_cons.mp hl with e|hl
   ·rw [e];exact ⟨hnl,hnb⟩
   ·rw [List.mem_singleton.mp hl];exact ⟨rfl,by unfold bdI;decide⟩
 lk
 refine tE hOut 1 ⟨a5,i4.b,i4.h,i4.v⟩ rfl hr4 hfin ?_
 lk
 refine ⟨R9,?_⟩
 lk
 conv=>whnf
 rw [decide_eq_true rfl]
 exact hend _ _
end
section
theorem ym {args:List V} {kws:List (Str × P)} {objs:List O} {Q:V→List O→Prop} (h:lb 0 args kws objs Q):False:=by
 unfold lb at h
 refine e5e h fun ns names f which m _ _ _ hp _=>?_
 have h1:=hp.lo;have h2:=hp.fu;have h3:=hp.fr;lia
theorem Ay {args:List V} {kws:List (Str × P)} {objs:List O} {Q:V→List O→Prop} (h:pT 0 args kws objs Q):False:=by
 unfold pT at h
 obtain ⟨d,ns,names,f,i,n,m,pos,ver,_,_,_,hp,zn1,_⟩:=h;refine e0b zn1 fun h1 _=>?_
 have h2:=hp.fu;have h3:=hp.lo;lia
theorem Az {args:List V} {kws:List (Str × P)} {objs:List O} {Q:V→List O→Prop} (h:pV 0 args kws objs Q):False:=by
 unfold pV at h
 obtain ⟨d,ns,names,f,hh,m,pos,ver,sl,k,p,L,qk,qo,_,_,_,hp,h1,_⟩:=h
 exact absurd h1 (Nat.not_succ_le_zero _)
noncomputable abbrev pkL (L:List (Addr × Ctr)):Pg:=⟨fun a=>L.lookup a,CQ,zV⟩
section
variable {K:Frag} {H0:Heap} {prog:Program} {wd:World}
noncomputable def ix (H0:Heap) (prog:Program) (wd:World) (n:Nat) (L:List (Addr × Ctr)):Prop:=∀fa c,L.lookup fa=some c→nY H0 prog wd n fa c
theorem gP {n:Nat}:ix H0 prog wd n []:=fun fa c h=>nomatch h
theorem cZ {n:Nat} {L:List (Addr × Ctr)} {fa:Addr} {c:Ctr} (h:nY H0 prog wd n fa c) (A:ix H0 prog wd n L):ix H0 prog wd n ((fa,c)::L):=fun fb d q=>by
 rw [List.lookup_cons] at q
 cases e:fb==fa with
 |true=>rw [e] at q;cases q;rw [eq_of_beq e];exact h
 |false=>rw [e] at q;exact A fb d q
theorem oq {n m:Nat} {L:List (Addr × Ctr)} (h:n≤m) (A:ix H0 prog wd n L):ix H0 prog wd m L:=fun fa c q=>(A fa c q).weaken h fun _ _ _ _ z=>z
theorem fo (g:Gd iM K H0 prog wd) {n:Nat} {L:List (Addr × Ctr)} (A:ix H0 prog wd n L) {ctr:Ctr} (i:Nat) {e:Fe} (q:iM.fe[i]? = some e) (hb:e.bk.fit e.pn.length=true)
  (hw:∀args kws objs Q,ctr args kws objs Q→eY e.bk.fn e.ln.length e.s (pkL L) args kws objs Q):nY H0 prog wd (n+1) e.fa ctr:=
 fn_of g.lim g.sm g.X g.T g.see A i q hb hw
theorem co (g:Gd iM K H0 prog wd) {n:Nat} {c fi:Addr} {ctr:Ctr} {k:Nat} (e:iM.cl.lookup c=some fi) (h:nY H0 prog wd n fi ctr):nY H0 prog wd (n+1) c (fH ctr c k):=
 nY.make g.X h (Aw g.see e).1 (Aw g.see e).2.1 (Aw g.see e).2.2
noncomputable def lv0:List (Addr × Ctr):=(cY,sA)::(pJ,AB)::(jo,jx)::(dM,uo)::(dI,lc)::(eu,gW)::(k8,yn)::(d0,yo)::(nI,CT)::(ip,jz)::(k7,li)::(fT,ra)::(eZ,oE)::[]
theorem okl0 (g:Gd iM K H0 prog wd):ix H0 prog wd 1 lv0:=cZ (fa:=cY) (c:=sA) (fo g gP 0 rfl rfl (wI)) (cZ (fa:=pJ) (c:=AB) (fo g gP 1 rfl rfl (DC)) (cZ (fa:=jo) (c:=jx) (fo g gP 2 rfl rfl (AF)) (cZ (fa:=dM) (c:=uo) (fo g gP 3 rfl rfl (Cy)) (cZ (fa:=dI) (c:=lc) (fo g gP 4 rfl rfl (wM)) (cZ (fa:=eu) (c:=gW) (fo g gP 5 rfl rfl (yB)) (cZ (fa:=k8) (c:=yn) (fo g gP 6 rfl rfl (Cz)) (cZ (fa:=d0) (c:=yo) (fo g gP 7 rfl rfl (CA)) (cZ (fa:=nI) (c:=CT) (fo g gP 8 rfl rfl (DA)) (cZ (fa:=ip) (c:=jz) (fo g gP 26 rfl rfl (yA)) (cZ (fa:=k7) (c:=li) (fo g gP 31 rfl rfl (AN)) (cZ (fa:=fT) (c:=ra) (fo g gP 40 rfl rfl (Cj)) (cZ (fa:=eZ) (c:=oE) (fo g gP 44 rfl rfl (yu)) (oq (Nat.le_succ 0) gP)))))))))))))
noncomputable def lv1:List (Addr × Ctr):=(gm,re)::(ju,tH)::(et,pU)::(dT,nS)::(jL,wC)::(ek,nR)::(kZ,jy)::(iD,rc)::(gb,yj)::(fK,mH)::(cP,fH li cP 11)::lv0
theorem okl1 (g:Gd iM K H0 prog wd) (A:ix H0 prog wd 1 lv0):ix H0 prog wd 2 lv1:=cZ (fa:=gm) (c:=re) (fo g A 9 rfl rfl (Cw rfl rfl)) (cZ (fa:=ju) (c:=tH) (fo g A 10 rfl rfl (AL rfl rfl)) (cZ (fa:=et) (c:=pU) (fo g A 11 rfl rfl (yz rfl rfl)) (cZ (fa:=dT) (c:=nS) (fo g A 12 rfl rfl (yy rfl rfl)) (cZ (fa:=jL) (c:=wC) (fo g A 18 rfl rfl (Ct rfl rfl)) (cZ (fa:=ek) (c:=nR) (fo g A 19 rfl rfl (yx rfl rfl)) (cZ (fa:=kZ) (c:=jy) (fo g A 32 rfl rfl (AK rfl)) (cZ (fa:=iD) (c:=rc) (fo g A 33 rfl rfl (Cs rfl rfl)) (cZ (fa:=gb) (c:=yj) (fo g A 35 rfl rfl (Cr rfl rfl)) (cZ (fa:=fK) (c:=mH) (fo g A 36 rfl rfl (wJ rfl rfl)) (cZ (fa:=cP) (c:=fH li cP 11) (co g rfl (A k7 _ rfl)) (oq (Nat.le_succ 1) A)))))))))))
noncomputable def lv2:List (Addr × Ctr):=(fz,jN)::(dc,yl)::(da,um)::(eV,pS)::(fL,yq)::(fU,jM)::(im,yi)::(jp,l5)::(ef,fH jy ef 2)::lv1
theorem okl2 (g:Gd iM K H0 prog wd) (A:ix H0 prog wd 2 lv1):ix H0 prog wd 3 lv2:=cZ (fa:=fz) (c:=jN) (fo g A 13 rfl rfl (wL rfl rfl)) (cZ (fa:=dc) (c:=yl) (fo g A 14 rfl rfl (Cv rfl rfl rfl)) (cZ (fa:=da) (c:=um) (fo g A 15 rfl rfl (Cu rfl rfl rfl)) (cZ (fa:=eV) (c:=pS) (fo g A 16 rfl rfl (yw rfl rfl rfl)) (cZ (fa:=fL) (c:=yq) (fo g A 17 rfl rfl (CC rfl rfl rfl)) (cZ (fa:=fU) (c:=jM) (fo g A 34 rfl rfl (wK rfl)) (cZ (fa:=im) (c:=yi) (fo g A 37 rfl rfl (Cp rfl rfl)) (cZ (fa:=jp) (c:=l5) (fo g A 39 rfl rfl (AG rfl rfl)) (cZ (fa:=ef) (c:=fH jy ef 2) (co g rfl (A kZ _ rfl)) (oq (Nat.le_succ 2) A)))))))))
noncomputable def lv3:List (Addr × Ctr):=(er,rf)::(c9,q9)::(eJ,l6 .u8)::(dX,l6 .v)::(gG,yp)::(fV,rb)::lv2
theorem okl3 (g:Gd iM K H0 prog wd) (A:ix H0 prog wd 3 lv2):ix H0 prog wd 4 lv3:=cZ (fa:=er) (c:=rf) (fo g A 20 rfl rfl (AM rfl rfl rfl)) (cZ (fa:=c9) (c:=q9) (fo g A 23 rfl rfl (AH rfl rfl)) (cZ (fa:=eJ) (c:=l6 .u8) (fo g A 24 rfl rfl (DB rfl)) (cZ (fa:=dX) (c:=l6 .v) (fo g A 25 rfl rfl (b_PV rfl)) (cZ (fa:=gG) (c:=yp) (fo g A 27 rfl rfl (CB rfl rfl rfl)) (cZ (fa:=fV) (c:=rb) (fo g A 38 rfl rfl (AJ rfl rfl rfl)) (oq (Nat.le_succ 3) A))))))
noncomputable def lv4:List (Addr × Ctr):=(dD,lg .u8)::(dP,lg .i)::(iq,CU)::(eU,cWV)::(il,Ax)::lv3
theorem okl4 (g:Gd iM K H0 prog wd) (A:ix H0 prog wd 4 lv3):ix H0 prog wd 5 lv4:=cZ (fa:=dD) (c:=lg .u8) (fo g A 21 rfl rfl (yv rfl)) (cZ (fa:=dP) (c:=lg .i) (fo g A 22 rfl rfl (wN rfl)) (cZ (fa:=iq) (c:=CU) (fo g A 28 rfl rfl (DD rfl)) (cZ (fa:=eU) (c:=cWV) (fo g A 29 rfl rfl (b_WV rfl rfl rfl rfl rfl)) (cZ (fa:=il) (c:=Ax) (fo g A 42 rfl rfl (Dy rfl rfl rfl rfl)) (oq (Nat.le_succ 4) A)))))
noncomputable def lv5:List (Addr × Ctr):=(e9,wD)::(eL,rh)::lv4
theorem okl5 (g:Gd iM K H0 prog wd) (A:ix H0 prog wd 5 lv4):ix H0 prog wd 6 lv5:=cZ (fa:=e9) (c:=wD) (fo g A 30 rfl rfl (CD rfl rfl)) (cZ (fa:=eL) (c:=rh) (fo g A 41 rfl rfl (Cn rfl rfl)) (oq (Nat.le_succ 5) A))
noncomputable def lv6:List (Addr × Ctr):=(gF,sy)::lv5
theorem okl6 (g:Gd iM K H0 prog wd) (A:ix H0 prog wd 6 lv5):ix H0 prog wd 7 lv6:=cZ (fa:=gF) (c:=sy) (fo g A 43 rfl rfl (Co rfl rfl rfl rfl rfl rfl rfl rfl)) (oq (Nat.le_succ 6) A)
theorem oS (g:Gd iM K H0 prog wd):ix H0 prog wd 7 lv6:=okl6 g (okl5 g (okl4 g (okl3 g (okl2 g (okl1 g (okl0 g))))))
theorem xF (g:Gd iM K H0 prog wd) (r:Nat):nY H0 prog wd (7+1+r) ga (lb r):=by
 induction r with
 |zero=>exact fo g (oS g) 45 rfl rfl fun _ _ _ _ h=>(ym h).elim
 |succ r ih=>exact fo g (cZ ih (oq (by lia) (oS g))) 45 rfl rfl (AE r rfl rfl)
theorem zO (g:Gd iM K H0 prog wd) (r:Nat):nY H0 prog wd (7+1+r) gD (pT r)∧nY H0 prog wd (7+1+r) gE (pV r):=by
 induction r with
 |zero=>exact ⟨fo g (oS g) 47 rfl rfl fun _ _ _ _ h=>(Ay h).elim,fo g (oS g) 46 rfl rfl fun _ _ _ _ h=>(Az h).elim⟩
 |succ r ih=>
  have A:=cZ ih.1 (cZ ih.2 (oq (m:=7+1+r) (by lia) (oS g)))
  exact ⟨fo g A 47 rfl rfl (Ck r rfl rfl rfl rfl rfl rfl rfl rfl rfl rfl),fo g A 46 rfl rfl (Cm r rfl rfl rfl rfl rfl)⟩
theorem BL (g:Gd iM K H0 prog wd):nY H0 prog wd 40 x4 AA:=by
 have A:=cZ ((xF g 9).weaken (m:=39) (by decide) fun _ _ _ _ z=>z) (cZ ((zO g 19).2.weaken (m:=39) (by decide) fun _ _ _ _ z=>z) (oq (m:=39) (by decide) (oS g)))
 exact fo g A 48 rfl rfl (Dz 19 9 (Nat.le_refl _) (Nat.le_refl _) rfl rfl rfl rfl rfl rfl rfl rfl rfl rfl rfl rfl)
end
end
section
end
end Fb
theorem PySem.Challenge.cw_ar0012_03_holds : PySem.Challenge.rw_ar0012_03.Holds :=
  Fb.vK Fb.as0 Fb.iM 20000 Fb.x4 Fb.Di (by kernel_rfl) rfl rfl rfl rfl (by kernel_rfl) ⟨rfl, rfl, rfl, rfl, rfl, by decide +kernel⟩ (by w_witness) rfl rfl fun g => Fb.BL g
