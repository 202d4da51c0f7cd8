import PyProof.Rows.All
import Wide.All
import OpenK.AllK
import Wide.FinOn
import KE.KSortTup
import KE.KDictSum
import Lean
import PySem.Challenge.RW_ar0012_01
set_option Elab.async false
set_option linter.all false
set_option genSizeOf false
set_option compiler.extract_closed false
set_option maxRecDepth 100000
set_option maxHeartbeats 8000000
set_option genInjectivity false
set_option tactic.hygienic false
set_option genCtorIdx false
set_option bootstrap.genMatcherCode false
open PySem PySem.W PySem.Calls PyProof.Rows
namespace Fb
abbrev Gl:=@Int.toNat_of_nonneg
abbrev Gn:=@wpAny_bind
abbrev Go:=@Nat.sub_add_cancel
abbrev Gp:=@Nat.le_trans
abbrev Gq:=@wpAny_pure
abbrev Gr:=@List.length_append
abbrev Gu:=@And.right
abbrev Gw:=@Nat.le_refl
abbrev Gx:=@List.size_toArray
abbrev Gy:=@Heap.get?_push_of_some
abbrev Gz:=@And.left
abbrev GA:=@List.length_map
abbrev GB:=@Nat.le_of_ble_eq_true
abbrev GC:=@Bool.and_eq_true
abbrev GD:=@List.getElem?_eq_getElem
abbrev GE:=@List.append_assoc
abbrev GF:=@Nat.le_of_eq
abbrev GG:=@Heap.get?_push_size
abbrev GH:=@builtinLookup_eq_fast
abbrev GI:=@of_decide_eq_true
abbrev GJ:=@sizeLine_eq
abbrev GK:=@And.intro
abbrev GL:=@Nat.pos_of_ne_zero
abbrev GM:=@List.mem_cons_of_mem
abbrev GN:=@of_decide_eq_false
abbrev GO:=@typeLookup_type
abbrev GP:=@Int.le_refl
abbrev GQ:=@List.length_replicate
abbrev GR:=@List.length_cons
abbrev GS:=@List.mem_cons_self
abbrev GT:=@Heap.lt_size
abbrev GU:=@List.getElem?_set_ne
abbrev GV:=@List.mem_of_getElem?
abbrev GW:=@List.length_take
abbrev GX:=@List.length_drop
abbrev GY:=@wpAny_call_entry
abbrev GZ:=@List.getElem?_map
abbrev G1:=@Nat.zero_le
abbrev G4:=@Int.natCast_nonneg
abbrev G5:=@Nat.lt_or_ge
abbrev G6:=@Int.le_of_eq
abbrev G7:=@List.getElem?_append_left
abbrev G8:=@Nat.min_eq_left
abbrev G9:=@Int.le_trans
abbrev Ha:=@List.map_append
abbrev Hb:=@List.exists_cons_of_length_eq_add_one
section
theorem e0b{A B:Prop}{Z:Prop}(h:A∧B)(k:A→B→Z):Z:=h.elim fun ah bh=>k ah bh
theorem e0c{A B C:Prop}{Z:Prop}(h:A∧B∧C)(k:A→B→C→Z):Z:=h.elim fun ah h=>h.elim fun bh ch=>k ah bh ch
theorem e0d{A B C D:Prop}{Z:Prop}(h:A∧B∧C∧D)(k:A→B→C→D→Z):Z:=h.elim fun ah h=>h.elim fun bh h=>h.elim fun ch dh=>k ah bh ch dh
theorem e0e{A B C D E:Prop}{Z:Prop}(h:A∧B∧C∧D∧E)(k:A→B→C→D→E→Z):Z:=h.elim fun ah h=>h.elim fun bh h=>h.elim fun ch h=>h.elim fun dh eh=>k ah bh ch dh eh
theorem e1a{α:Sort _}{A:α→Prop}{Z:Prop}(h:∃x,A x)(k:∀x,A x→Z):Z:=h.elim fun x h=>k x h
theorem e1b{α:Sort _}{A B:α→Prop}{Z:Prop}(h:∃x,A x∧B x)(k:∀x,A x→B x→Z):Z:=h.elim fun x h=>h.elim fun ah bh=>k x ah bh
theorem e1c{α:Sort _}{A B C:α→Prop}{Z:Prop}(h:∃x,A x∧B x∧C x)(k:∀x,A x→B x→C x→Z):Z:=h.elim fun x h=>h.elim fun ah h=>h.elim fun bh ch=>k x ah bh ch
theorem e1d{α:Sort _}{A B C D:α→Prop}{Z:Prop}(h:∃x,A x∧B x∧C x∧D x)(k:∀x,A x→B x→C x→D x→Z):Z:=h.elim fun x h=>h.elim fun ah h=>h.elim fun bh h=>h.elim fun ch dh=>k x ah bh ch dh
theorem e1e{α:Sort _}{A B C D E:α→Prop}{Z:Prop}(h:∃x,A x∧B x∧C x∧D x∧E x)(k:∀x,A x→B x→C x→D x→E x→Z):Z:=h.elim fun x h=>h.elim fun ah h=>h.elim fun bh h=>h.elim fun ch h=>h.elim fun dh eh=>k x ah bh ch dh eh
theorem e1f{α:Sort _}{A B C D E F:α→Prop}{Z:Prop}(h:∃x,A x∧B x∧C x∧D x∧E x∧F x)(k:∀x,A x→B x→C x→D x→E x→F x→Z):Z:=h.elim fun x h=>h.elim fun ah h=>h.elim fun bh h=>h.elim fun ch h=>h.elim fun dh h=>h.elim fun eh fh=>k x ah bh ch dh eh fh
theorem e1i{α:Sort _}{A B C D E F G H I:α→Prop}{Z:Prop}(h:∃x,A x∧B x∧C x∧D x∧E x∧F x∧G x∧H x∧I x)(k:∀x,A x→B x→C x→D x→E x→F x→G x→H x→I x→Z):Z:=h.elim fun x h=>h.elim fun ah h=>h.elim fun bh h=>h.elim fun ch h=>h.elim fun dh h=>h.elim fun eh h=>h.elim fun fh h=>h.elim fun gh h=>h.elim fun hh ih=>k x ah bh ch dh eh fh gh hh ih
theorem e1l{α:Sort _}{A B C D E F G H I J K L:α→Prop}{Z:Prop}(h:∃x,A x∧B x∧C x∧D x∧E x∧F x∧G x∧H x∧I x∧J x∧K x∧L x)(k:∀x,A x→B x→C x→D x→E x→F x→G x→H x→I x→J x→K x→L x→Z):Z:=h.elim fun x h=>h.elim fun ah h=>h.elim fun bh h=>h.elim fun ch h=>h.elim fun dh h=>h.elim fun eh h=>h.elim fun fh h=>h.elim fun gh h=>h.elim fun hh h=>h.elim fun ih h=>h.elim fun jh h=>h.elim fun kh lh=>k x ah bh ch dh eh fh gh hh ih jh kh lh
theorem e2a{α:Sort _}{β:Sort _}{A:α→β→Prop}{Z:Prop}(h:∃x y,A x y)(k:∀x y,A x y→Z):Z:=h.elim fun x h=>h.elim fun y h=>k x y h
theorem e2b{α:Sort _}{β:Sort _}{A B:α→β→Prop}{Z:Prop}(h:∃x y,A x y∧B x y)(k:∀x y,A x y→B x y→Z):Z:=h.elim fun x h=>h.elim fun y h=>h.elim fun ah bh=>k x y ah bh
theorem e2c{α:Sort _}{β:Sort _}{A B C:α→β→Prop}{Z:Prop}(h:∃x y,A x y∧B x y∧C x y)(k:∀x y,A x y→B x y→C x y→Z):Z:=h.elim fun x h=>h.elim fun y h=>h.elim fun ah h=>h.elim fun bh ch=>k x y ah bh ch
theorem e2d{α:Sort _}{β:Sort _}{A B C D:α→β→Prop}{Z:Prop}(h:∃x y,A x y∧B x y∧C x y∧D x y)(k:∀x y,A x y→B x y→C x y→D x y→Z):Z:=h.elim fun x h=>h.elim fun y h=>h.elim fun ah h=>h.elim fun bh h=>h.elim fun ch dh=>k x y ah bh ch dh
theorem e2e{α:Sort _}{β:Sort _}{A B C D E:α→β→Prop}{Z:Prop}(h:∃x y,A x y∧B x y∧C x y∧D x y∧E x y)(k:∀x y,A x y→B x y→C x y→D x y→E x y→Z):Z:=h.elim fun x h=>h.elim fun y h=>h.elim fun ah h=>h.elim fun bh h=>h.elim fun ch h=>h.elim fun dh eh=>k x y ah bh ch dh eh
theorem e3a{α:Sort _}{β:Sort _}{γ:Sort _}{A:α→β→γ→Prop}{Z:Prop}(h:∃x y z,A x y z)(k:∀x y z,A x y z→Z):Z:=h.elim fun x h=>h.elim fun y h=>h.elim fun z h=>k x y z h
theorem e3b{α:Sort _}{β:Sort _}{γ:Sort _}{A B:α→β→γ→Prop}{Z:Prop}(h:∃x y z,A x y z∧B x y z)(k:∀x y z,A x y z→B x y z→Z):Z:=h.elim fun x h=>h.elim fun y h=>h.elim fun z h=>h.elim fun ah bh=>k x y z ah bh
theorem e3c{α:Sort _}{β:Sort _}{γ:Sort _}{A B C:α→β→γ→Prop}{Z:Prop}(h:∃x y z,A x y z∧B x y z∧C x y z)(k:∀x y z,A x y z→B x y z→C x y z→Z):Z:=h.elim fun x h=>h.elim fun y h=>h.elim fun z h=>h.elim fun ah h=>h.elim fun bh ch=>k x y z ah bh ch
theorem e3d{α:Sort _}{β:Sort _}{γ:Sort _}{A B C D:α→β→γ→Prop}{Z:Prop}(h:∃x y z,A x y z∧B x y z∧C x y z∧D x y z)(k:∀x y z,A x y z→B x y z→C x y z→D x y z→Z):Z:=h.elim fun x h=>h.elim fun y h=>h.elim fun z h=>h.elim fun ah h=>h.elim fun bh h=>h.elim fun ch dh=>k x y z ah bh ch dh
theorem e3e{α:Sort _}{β:Sort _}{γ:Sort _}{A B C D E:α→β→γ→Prop}{Z:Prop}(h:∃x y z,A x y z∧B x y z∧C x y z∧D x y z∧E x y z)(k:∀x y z,A x y z→B x y z→C x y z→D x y z→E x y z→Z):Z:=h.elim fun x h=>h.elim fun y h=>h.elim fun z h=>h.elim fun ah h=>h.elim fun bh h=>h.elim fun ch h=>h.elim fun dh eh=>k x y z ah bh ch dh eh
theorem e3f{α:Sort _}{β:Sort _}{γ:Sort _}{A B C D E F:α→β→γ→Prop}{Z:Prop}(h:∃x y z,A x y z∧B x y z∧C x y z∧D x y z∧E x y z∧F x y z)(k:∀x y z,A x y z→B x y z→C x y z→D x y z→E x y z→F x y z→Z):Z:=h.elim fun x h=>h.elim fun y h=>h.elim fun z h=>h.elim fun ah h=>h.elim fun bh h=>h.elim fun ch h=>h.elim fun dh h=>h.elim fun eh fh=>k x y z ah bh ch dh eh fh
theorem e3g{α:Sort _}{β:Sort _}{γ:Sort _}{A B C D E F G:α→β→γ→Prop}{Z:Prop}(h:∃x y z,A x y z∧B x y z∧C x y z∧D x y z∧E x y z∧F x y z∧G x y z)(k:∀x y z,A x y z→B x y z→C x y z→D x y z→E x y z→F x y z→G x y z→Z):Z:=h.elim fun x h=>h.elim fun y h=>h.elim fun z h=>h.elim fun ah h=>h.elim fun bh h=>h.elim fun ch h=>h.elim fun dh h=>h.elim fun eh h=>h.elim fun fh gh=>k x y z ah bh ch dh eh fh gh
theorem e4b{α:Sort _}{β:Sort _}{γ:Sort _}{δ:Sort _}{A B:α→β→γ→δ→Prop}{Z:Prop}(h:∃x y z u,A x y z u∧B x y z u)(k:∀x y z u,A x y z u→B x y z u→Z):Z:=h.elim fun x h=>h.elim fun y h=>h.elim fun z h=>h.elim fun u h=>h.elim fun ah bh=>k x y z u ah bh
theorem e4c{α:Sort _}{β:Sort _}{γ:Sort _}{δ:Sort _}{A B C:α→β→γ→δ→Prop}{Z:Prop}(h:∃x y z u,A x y z u∧B x y z u∧C x y z u)(k:∀x y z u,A x y z u→B x y z u→C x y z u→Z):Z:=h.elim fun x h=>h.elim fun y h=>h.elim fun z h=>h.elim fun u h=>h.elim fun ah h=>h.elim fun bh ch=>k x y z u ah bh ch
theorem e4d{α:Sort _}{β:Sort _}{γ:Sort _}{δ:Sort _}{A B C D:α→β→γ→δ→Prop}{Z:Prop}(h:∃x y z u,A x y z u∧B x y z u∧C x y z u∧D x y z u)(k:∀x y z u,A x y z u→B x y z u→C x y z u→D x y z u→Z):Z:=h.elim fun x h=>h.elim fun y h=>h.elim fun z h=>h.elim fun u h=>h.elim fun ah h=>h.elim fun bh h=>h.elim fun ch dh=>k x y z u ah bh ch dh
theorem e4e{α:Sort _}{β:Sort _}{γ:Sort _}{δ:Sort _}{A B C D E:α→β→γ→δ→Prop}{Z:Prop}(h:∃x y z u,A x y z u∧B x y z u∧C x y z u∧D x y z u∧E x y z u)(k:∀x y z u,A x y z u→B x y z u→C x y z u→D x y z u→E x y z u→Z):Z:=h.elim fun x h=>h.elim fun y h=>h.elim fun z h=>h.elim fun u h=>h.elim fun ah h=>h.elim fun bh h=>h.elim fun ch h=>h.elim fun dh eh=>k x y z u ah bh ch dh eh
theorem e4f{α:Sort _}{β:Sort _}{γ:Sort _}{δ:Sort _}{A B C D E F:α→β→γ→δ→Prop}{Z:Prop}(h:∃x y z u,A x y z u∧B x y z u∧C x y z u∧D x y z u∧E x y z u∧F x y z u)(k:∀x y z u,A x y z u→B x y z u→C x y z u→D x y z u→E x y z u→F x y z u→Z):Z:=h.elim fun x h=>h.elim fun y h=>h.elim fun z h=>h.elim fun u h=>h.elim fun ah h=>h.elim fun bh h=>h.elim fun ch h=>h.elim fun dh h=>h.elim fun eh fh=>k x y z u ah bh ch dh eh fh
theorem e4g{α:Sort _}{β:Sort _}{γ:Sort _}{δ:Sort _}{A B C D E F G:α→β→γ→δ→Prop}{Z:Prop}(h:∃x y z u,A x y z u∧B x y z u∧C x y z u∧D x y z u∧E x y z u∧F x y z u∧G x y z u)(k:∀x y z u,A x y z u→B x y z u→C x y z u→D x y z u→E x y z u→F x y z u→G x y z u→Z):Z:=h.elim fun x h=>h.elim fun y h=>h.elim fun z h=>h.elim fun u h=>h.elim fun ah h=>h.elim fun bh h=>h.elim fun ch h=>h.elim fun dh h=>h.elim fun eh h=>h.elim fun fh gh=>k x y z u ah bh ch dh eh fh gh
theorem e5c{α:Sort _}{β:Sort _}{γ:Sort _}{δ:Sort _}{ε:Sort _}{A B C:α→β→γ→δ→ε→Prop}{Z:Prop}(h:∃x y z u v,A x y z u v∧B x y z u v∧C x y z u v)(k:∀x y z u v,A x y z u v→B x y z u v→C x y z u v→Z):Z:=h.elim fun x h=>h.elim fun y h=>h.elim fun z h=>h.elim fun u h=>h.elim fun v h=>h.elim fun ah h=>h.elim fun bh ch=>k x y z u v ah bh ch
theorem e5e{α:Sort _}{β:Sort _}{γ:Sort _}{δ:Sort _}{ε:Sort _}{A B C D E:α→β→γ→δ→ε→Prop}{Z:Prop}(h:∃x y z u v,A x y z u v∧B x y z u v∧C x y z u v∧D x y z u v∧E x y z u v)(k:∀x y z u v,A x y z u v→B x y z u v→C x y z u v→D x y z u v→E x y z u v→Z):Z:=h.elim fun x h=>h.elim fun y h=>h.elim fun z h=>h.elim fun u h=>h.elim fun v h=>h.elim fun ah h=>h.elim fun bh h=>h.elim fun ch h=>h.elim fun dh eh=>k x y z u v ah bh ch dh eh
theorem e5f{α:Sort _}{β:Sort _}{γ:Sort _}{δ:Sort _}{ε:Sort _}{A B C D E F:α→β→γ→δ→ε→Prop}{Z:Prop}(h:∃x y z u v,A x y z u v∧B x y z u v∧C x y z u v∧D x y z u v∧E x y z u v∧F x y z u v)(k:∀x y z u v,A x y z u v→B x y z u v→C x y z u v→D x y z u v→E x y z u v→F x y z u v→Z):Z:=h.elim fun x h=>h.elim fun y h=>h.elim fun z h=>h.elim fun u h=>h.elim fun v h=>h.elim fun ah h=>h.elim fun bh h=>h.elim fun ch h=>h.elim fun dh h=>h.elim fun eh fh=>k x y z u v ah bh ch dh eh fh
theorem ns{α:Type u}{x:α}{Z:Prop}(h:none=some x):Z:=by cases h
theorem sn{α:Type u}{x:α}{Z:Prop}(h:some x=none):Z:=ns h.symm
theorem tf{Z:Prop}(h:true=false):Z:=by cases h
theorem ft{Z:Prop}(h:false=true):Z:=by cases h
theorem nc{α:Type u}{x:α}{l:List α}{Z:Prop}(h:[]=x::l):Z:=by cases h
theorem cn{α:Type u}{x:α}{l:List α}{Z:Prop}(h:x::l=[]):Z:=nc h.symm
theorem sj{α:Type u}{x y:α}(h:some x=some y):x=y:=Option.some.inj h
theorem kB{α:Type}{l:List α}(h:l.length=1):∃a,l=[a]:=List.length_eq_one_iff.mp h
theorem zt{α:Type}{l:List α}(h:2≤l.length):∃a b r,l=a::b::r:=by
 cases l with
 |nil=>exact absurd h (Nat.not_succ_le_zero 1)
 |cons a l=>cases l with
  |nil=>exact absurd (Nat.le_of_succ_le_succ h) (Nat.not_succ_le_zero 0)
  |cons b r=>exact⟨a,b,r,rfl⟩
theorem Cr{α:Type}{l:List α}(h:l.length=2):∃a b,l=[a,b]:=e3a (zt (GF h.symm)) fun a b r e=>by
 subst e
 cases r with
 |nil=>exact⟨a,b,rfl⟩
 |cons c r=>exact absurd (Nat.succ.inj (Nat.succ.inj h)) (Nat.succ_ne_zero _)
end
section
set_option genSizeOf false
inductive Ln where|v (i:Nat)|n (k:Nat)|a (x y:Ln)|m (k:Nat) (x:Ln)|r (x:Ln) (k:Nat)
inductive Li where|v (i:Nat)|w (i:Nat)|c (x:Ln)|n (k:Int)|a (x y:Li)|s (x y:Li)|m (k:Int) (x:Li)|r (x:Li) (k:Int)|g (x:Li)
noncomputable abbrev aa : Li := .v 0
noncomputable abbrev ab : Ln := .v 0
noncomputable abbrev ae : Ln := .v 1
noncomputable abbrev af : Li := .w 0
noncomputable abbrev ai : Ln := .n 1
noncomputable abbrev aj : Ln := .v 2
noncomputable abbrev ak : Li := .w 1
noncomputable abbrev am : Li := .v 1
noncomputable abbrev an : Li := .n 0
noncomputable abbrev ao : Li := .n 1
noncomputable abbrev ap : Li := .n 4
noncomputable abbrev aq : Ln := .n 16777216
noncomputable abbrev au : Ln := .v 3
noncomputable abbrev av : Li := .w 2
noncomputable abbrev ax : Ln := .n 0
noncomputable abbrev ay : Li := .n (-2147483648)
noncomputable abbrev az : Li := .w 3
noncomputable abbrev aA : Li := .n 9223372036854775808
noncomputable abbrev aB : Ln := .v 4
noncomputable abbrev aC : Ln := .n 4
noncomputable abbrev aD : Li := .v 2
noncomputable abbrev aE : Li := .n 2
noncomputable abbrev aF : Ln := .n 1048576
noncomputable abbrev aG : Li := .n 2147483648
noncomputable abbrev aH : Li := .n 1048576
noncomputable abbrev aI : Li := .n (-8589934592)
noncomputable abbrev aJ : Ln := .n 1000
noncomputable abbrev aK : Li := .n 8
noncomputable abbrev aL : Li := .n (-9223372036854775808)
noncomputable abbrev aM : Ln := .v 5
noncomputable abbrev aN : Ln := .n 7
noncomputable abbrev aO : Li := .n 8589934592
noncomputable abbrev aP : Li := .n 4294967295
noncomputable abbrev aQ : Li := .n 2147483647
noncomputable abbrev aR : Li := .w 4
noncomputable abbrev aS : Ln := .n 900000
noncomputable abbrev aT : Ln := .n 9900
noncomputable abbrev aU : Li := .v 3
noncomputable abbrev aV : Ln := .n 2
noncomputable abbrev aW : Ln := .n 1000000
noncomputable abbrev aX : Li := .n 16777216
noncomputable abbrev aY : Ln := .n 100
noncomputable abbrev aZ : Ln := .n 9000
noncomputable abbrev a6 : Ln := .n 3
noncomputable abbrev a7 : Ln := .n 100000
noncomputable abbrev a8 : Ln := .n 1000008
noncomputable abbrev a9 : Ln := .n 60
noncomputable abbrev bc : Ln := .a ab ai
noncomputable abbrev be : Ln := .a ae ai
noncomputable abbrev bf : Ln := .a aj ai
noncomputable abbrev bg : Ln := .a ab ae
noncomputable abbrev bi : Li := .a aa ao
noncomputable abbrev bj : Ln := .a ax ai
noncomputable abbrev bl : Li := .s af aa
noncomputable abbrev bn : Li := .s aa am
noncomputable abbrev bp : Li := .a aa am
noncomputable abbrev bq : Li := .s aa af
noncomputable abbrev bt : Li := .a an ao
noncomputable abbrev bu : Li := .a af ap
noncomputable abbrev bv : Li := .a af ao
noncomputable abbrev bw : Li := .r af 2
noncomputable abbrev bz : Ln := .a ae aj
noncomputable abbrev bA : Li := .a am ao
noncomputable abbrev bB : Li := .a ak ap
noncomputable abbrev bC : Ln := .a au aC
noncomputable abbrev bD : Ln := .a au ai
noncomputable abbrev bE : Li := .a ak aa
noncomputable abbrev bF : Li := .a af aE
noncomputable abbrev bG : Ln := .a aj au
noncomputable abbrev bH : Ln := .a ab aj
noncomputable abbrev bI : Li := .a aa af
noncomputable abbrev bJ : Ln := .m 2 aj
noncomputable abbrev bK : Li := .a ak am
noncomputable abbrev bL : Li := .a av aE
noncomputable abbrev bM : Li := .m 2 ak
noncomputable abbrev bN : Li := .a aa ak
noncomputable abbrev bO : Li := .s aa ao
noncomputable abbrev bP : Ln := .m 2 ab
noncomputable abbrev bQ : Li := .a aD ao
noncomputable abbrev bR : Li := .s af am
noncomputable abbrev bS : Li := .a ak aE
noncomputable abbrev bT : Li := .a av ap
noncomputable abbrev bU : Ln := .a aj ae
noncomputable abbrev bV : Ln := .a ae au
noncomputable abbrev bW : Li := .s af ao
noncomputable abbrev bX : Li := .s am aa
noncomputable abbrev bY : Ln := .a ab aC
noncomputable abbrev bZ : Li := .a az ap
noncomputable abbrev b8 : Li := .a ak aK
noncomputable abbrev b9 : Ln := .a ae a9
noncomputable abbrev cb : Ln := .a bc ai
noncomputable abbrev cg : Ln := .a bc bf
noncomputable abbrev cj : Li := .s bw af
noncomputable abbrev cm : Ln := .a ae bJ
noncomputable abbrev cp : Ln := .a ab be
noncomputable abbrev cq : Li := .a bl ap
noncomputable abbrev cu : Li := .a ap bM
noncomputable abbrev cv : Li := .c be
noncomputable abbrev cw : Ln := .a bg ai
noncomputable def Ln.ev(cn:List Nat):Ln→Nat
 |.v i=>cn.getD i 0
 |.n k=>k
 |.a x y=>x.ev cn+y.ev cn
 |.m k x=>k*x.ev cn
 |.r x k=>x.ev cn*k
noncomputable def Li.ev(ci:List Int)(cn:List Nat):Li→Int
 |.v i=>ci.getD i 0
 |.w i=>((cn.getD i 0:Nat):Int)
 |.c x=>((x.ev cn:Nat):Int)
 |.n k=>k
 |.a x y=>x.ev ci cn+y.ev ci cn
 |.s x y=>x.ev ci cn-y.ev ci cn
 |.m k x=>k*x.ev ci cn
 |.r x k=>x.ev ci cn*k
 |.g x=>-x.ev ci cn
noncomputable def lW(k:Int)(q:List Int):List Int:=q.map (k*·)
noncomputable def fR(k:Int):List Int→List Int→List Int
 |[],q=>lW k q
 |p,[]=>p
 |x::p,y::q=>(x+k*y)::fR k p q
noncomputable def mR(i:Nat):List Int:=List.replicate i 0++[1]
noncomputable def Ln.row:Ln→List Int
 |.v i=>mR (2*i+2)
 |.n k=>[(k:Int)]
 |.a x y=>fR 1 x.row y.row
 |.m k x=>lW k x.row
 |.r x k=>lW k x.row
noncomputable def Li.row:Li→List Int
 |.v i=>mR (2*i+1)
 |.w i=>mR (2*i+2)
 |.c x=>x.row
 |.n k=>[k]
 |.a x y=>fR 1 x.row y.row
 |.s x y=>fR (-1) x.row y.row
 |.m k x=>lW k x.row
 |.r x k=>lW k x.row
 |.g x=>lW (-1) x.row
noncomputable def il(f:Nat→Int):List Int→Nat→Int
 |[],_=>0
 |x::p,i=>x*f i+il f p (i+1)
theorem iz(f:Nat→Int)(k:Int)(q:List Int)(i:Nat):il f (lW k q) i=k*il f q i:=by
 induction q generalizing i with
 |nil=>exact(Int.mul_zero k).symm
 |cons x q ih=>show k*x*f i+il f (lW k q) (i+1)=k*(x*f i+il f q (i+1));rw[ih,Int.mul_add,Int.mul_assoc]
theorem jL(f:Nat→Int)(k:Int)(p q:List Int)(i:Nat):il f (fR k p q) i=il f p i+k*il f q i:=by
 induction p generalizing q i with
 |nil=>exact(iz f k q i).trans (Int.zero_add _).symm
 |cons x p ih=>cases q with
  |nil=>exact((congrArg (il f (x::p) i+·) (Int.mul_zero k)).trans (Int.add_zero _)).symm
  |cons y q=>show(x+k*y)*f i+il f (fR k p q) (i+1)=x*f i+il f p (i+1)+k*(y*f i+il f q (i+1));rw[ih,Int.add_mul,Int.mul_add,Int.mul_assoc];ac_rfl
theorem qq(f:Nat→Int)(n i:Nat):il f (mR n) i=f (i+n):=by
 induction n generalizing i with
 |zero=>show 1*f i+0=f i;rw[Int.one_mul,Int.add_zero]
 |succ n ih=>show 0*f i+il f (mR n) (i+1)=_;rw[Int.zero_mul,Int.zero_add,ih,Nat.add_right_comm];rfl
noncomputable def gc(ci:List Int)(cn:List Nat)(i:Nat):Int:=match i with
 |0=>1
 |i+1=>if i % 2=0 then ci.getD (i / 2) 0 else((cn.getD (i / 2) 0:Nat):Int)
theorem vS(ci:List Int)(cn:List Nat)(k:Int):il (gc ci cn) [k] 0=k:=(Int.add_zero _).trans (Int.mul_one k)
theorem C6(ci:List Int)(cn:List Nat)(i:Nat):il (gc ci cn) (mR (2*i+1)) 0=ci.getD i 0:=by
 refine(qq ..).trans ?_;rw[Nat.zero_add];refine(if_pos (Nat.mul_mod_right 2 i)).trans ?_;rw[Nat.mul_div_cancel_left i (by decide)]
theorem zK(ci:List Int)(cn:List Nat)(i:Nat):il (gc ci cn) (mR (2*i+2)) 0=((cn.getD i 0:Nat):Int):=by
 refine(qq ..).trans ?_;rw[Nat.zero_add];refine(if_neg (by rw[Nat.mul_add_mod];decide)).trans ?_
 rw[Nat.mul_add_div (by decide)];rfl
theorem Ln.row_ev(ci:List Int)(cn:List Nat)(x:Ln):il (gc ci cn) x.row 0=(x.ev cn:Int):=by
 induction x with
 |v i=>exact zK ci cn i
 |n k=>exact vS ci cn k
 |a x y hx hy=>exact(jL ..).trans (by rw[hx,hy,Int.one_mul];exact(Int.natCast_add _ _).symm)
 |m k x hx=>exact(iz ..).trans (by rw[hx];exact(Int.natCast_mul _ _).symm)
 |r x k hx=>exact(iz ..).trans (by rw[hx,Int.mul_comm];exact(Int.natCast_mul _ _).symm)
theorem Li.row_ev(ci:List Int)(cn:List Nat)(x:Li):il (gc ci cn) x.row 0=x.ev ci cn:=by
 induction x with
 |v i=>exact C6 ci cn i
 |w i=>exact zK ci cn i
 |c x=>exact x.row_ev ci cn
 |n k=>exact vS ci cn k
 |a x y hx hy=>exact(jL ..).trans (by rw[hx,hy,Int.one_mul];rfl)
 |s x y hx hy=>exact(jL ..).trans (by rw[hx,hy,Int.neg_one_mul];rfl)
 |m k x hx=>exact(iz ..).trans (by rw[hx];rfl)
 |r x k hx=>exact(iz ..).trans (by rw[hx,Int.mul_comm];rfl)
 |g x hx=>exact(iz ..).trans (by rw[hx,Int.neg_one_mul];rfl)
inductive Lh where|i (k:Nat) (x y:Li)|j (k:Nat) (x y:Ln)|e (k:Int) (x y:Li)|f (k:Int) (x y:Ln)
noncomputable def Lh.row:Lh→List Int→List Int
 |.i k x y,acc=>fR k acc (fR (-1) y.row x.row)
 |.j k x y,acc=>fR k acc (fR (-1) y.row x.row)
 |.e k x y,acc=>fR k acc (fR (-1) y.row x.row)
 |.f k x y,acc=>fR k acc (fR (-1) y.row x.row)
def Lh.den(ci:List Int)(cn:List Nat):Lh→Prop
 |.i _ x y=>x.ev ci cn≤y.ev ci cn
 |.j _ x y=>x.ev cn≤y.ev cn
 |.e _ x y=>x.ev ci cn=y.ev ci cn
 |.f _ x y=>x.ev cn=y.ev cn
def nN(ci:List Int)(cn:List Nat):List Lh→Prop→Prop
 |[],p=>p
 |h::hs,p=>h.den ci cn→nN ci cn hs p
theorem f9{ci:List Int}{cn:List Nat}{p q:List Int}{x y:Int}(hx:il (gc ci cn) p 0=x)(hy:il (gc ci cn) q 0=y):il (gc ci cn) (fR (-1) q p) 0=y-x:=by
 rw[jL,hx,hy,Int.neg_one_mul];rfl
theorem Lh.row_eq{ci:List Int}{cn:List Nat}(k:Int)(acc:List Int){p q:List Int}{x y:Int}(hp:il (gc ci cn) p 0=x)(hq:il (gc ci cn) q 0=y)(h:x=y):il (gc ci cn) (fR k acc (fR (-1) q p)) 0=il (gc ci cn) acc 0:=by
 rw[jL,f9 hp hq,h,Int.sub_self,Int.mul_zero,Int.add_zero]
theorem Lh.row_ok{ci:List Int}{cn:List Nat}{h:Lh}(hd:h.den ci cn){acc:List Int}(ha:0≤il (gc ci cn) acc 0):0≤il (gc ci cn) (h.row acc) 0:=by
 have key:∀(k:Nat) (p:List Int) (x y:Int),il (gc ci cn) p 0=y-x→x≤y→0≤il (gc ci cn) (fR k acc p) 0:=fun k p x y e h=>by
  rw[jL,e];exact Int.add_nonneg ha (Int.mul_nonneg (G4 _) (Int.sub_nonneg_of_le h))
 cases h with
 |i k x y=>exact key k _ _ _ (f9 (x.row_ev ci cn) (y.row_ev ci cn)) hd
 |j k x y=>exact key k _ _ _ (f9 (x.row_ev ci cn) (y.row_ev ci cn)) (Int.ofNat_le.mpr hd)
 |e k x y=>exact(Lh.row_eq k acc (x.row_ev ci cn) (y.row_ev ci cn) hd).symm▸ha
 |f k x y=>exact(Lh.row_eq k acc (x.row_ev ci cn) (y.row_ev ci cn) (congrArg _ hd)).symm▸ha
noncomputable def Fj:List Int→Bool→Bool
 |[],_=>true
 |z::r,b=>(match b with|true=>z==0|false=>decide (0≤z))&&Fj r (!b)
theorem A5{ci:List Int}{cn:List Nat}:∀(r:List Int) (i:Nat),Fj r (i % 2==0)=true→0≤il (gc ci cn) r (i+1):=by
 intro r
 induction r with
 |nil=>exact fun _ _=>GP 0
 |cons z r ih=>
  intro i h;have h:=(GC _ _).mp h;have h2:=ih (i+1) (by rw[←h.2];congr 1;rcases Nat.mod_two_eq_zero_or_one i with q|q<;>rw[Nat.add_mod,q]<;>rfl)
  refine Int.add_nonneg ?_ h2;have h1:=h.1;rcases Nat.mod_two_eq_zero_or_one i with q|q
  ·rw[q]at h1;rw[eq_of_beq h1,Int.zero_mul];exact GP 0
  ·rw[q]at h1;refine Int.mul_nonneg (GI h1) ?_
   show 0≤if i % 2=0 then _ else _
   rw[if_neg (by rw[q];decide)]
   exact G4 _
noncomputable def tP(k:Nat)(g:List Int):List Lh→List Int→Bool
 |[],acc=>Nat.blt 0 k&&match fR (-1) (lW k g) acc with
  |[]=>true
  |z::r=>decide (-(k:Int)<z)&&Fj r true
 |h::hs,acc=>tP k g hs (h.row acc)
theorem vZ{ci:List Int}{cn:List Nat}{k:Nat}{g:List Int}:∀hs acc,0≤il (gc ci cn) acc 0→tP k g hs acc=true→nN ci cn hs (0≤il (gc ci cn) g 0):=by
 intro hs
 induction hs with
 |nil=>
  intro acc h0 h;rw[tP,GC]at h;refine e0b h fun hk h=>?_;have hk:0<k:=GB hk;have e:=f9 (ci:=ci) (cn:=cn) (p:=acc) (q:=lW k g) rfl rfl;rw[iz]at e;have h1 : -(k:Int)<il (gc ci cn) (fR (-1) (lW k g) acc) 0:=by
   generalize fR (-1) (lW k g) acc=d at h
   cases d with
   |nil=>show -(k:Int)<0;omega
   |cons z r=>
    rw[GC]at h;have h2:=A5 (ci:=ci) (cn:=cn) r 0 h.2;have h3:=GI h.1;refine(?_:_<z*1+il _ r (0+1))
    omega
  rw[e]at h1;refine(?_:0≤il (gc ci cn) g 0);have h2:(k:Int)*0<k*(il (gc ci cn) g 0+1):=by rw[Int.mul_add,Int.mul_zero,Int.mul_one];omega
  have:=Int.lt_of_mul_lt_mul_left h2 (by omega)
  omega
 |cons a hs ih=>exact fun acc h0 h ha=>ih _ (Lh.row_ok ha h0) h
theorem im{ci:List Int}{cn:List Nat}{p q:Prop}(hpq:p→q):∀hs,nN ci cn hs p→nN ci cn hs q:=by
 intro hs
 induction hs with
 |nil=>exact hpq
 |cons a hs ih=>exact fun h ha=>ih (h ha)
theorem lin(ci:List Int)(cn:List Nat)(x y:Li)(k:Nat)(hs:List Lh)(h:tP k (fR (-1) y.row x.row) hs []=true):nN ci cn hs (x.ev ci cn≤y.ev ci cn):=
 im (fun q=>by rw[f9 (x.row_ev ci cn) (y.row_ev ci cn)]at q;exact Int.le_of_sub_nonneg q) hs (vZ hs [] (GP 0) h)
theorem cG(ci:List Int)(cn:List Nat)(x y:Ln)(k:Nat)(hs:List Lh)(h:tP k (fR (-1) y.row x.row) hs []=true):nN ci cn hs (x.ev cn≤y.ev cn):=
 im (fun q=>by rw[f9 (x.row_ev ci cn) (y.row_ev ci cn)]at q;exact Int.ofNat_le.mp (Int.le_of_sub_nonneg q)) hs (vZ hs [] (GP 0) h)
theorem v8(ci:List Int)(cn:List Nat)(hs:List Lh)(h:tP 1 [-1] hs []=true):nN ci cn hs False:=
 im (fun q=>by rw[vS]at q;exact absurd q (by decide)) hs (vZ hs [] (GP 0) h)
noncomputable def Lh.eqs:Lh→Bool|.i _ _ _=>false|.j _ _ _=>false|.e _ _ _=>true|.f _ _ _=>true
noncomputable def yp(g:List Int):List Lh→List Int→Bool
 |[],acc=>(fR (-1) g acc).all (0==·)
 |h::hs,acc=>h.eqs&&yp g hs (h.row acc)
theorem vU{f:Nat→Int}:∀{l:List Int} (i:Nat),l.all (0==·)=true→il f l i=0:=by
 intro l
 induction l with
 |nil=>exact fun _ _=>rfl
 |cons z r ih=>
  intro i h;have h:=(GC _ _).mp h;refine(?_:z*f i+il f r (i+1)=0);rw[ih _ h.2,←eq_of_beq h.1,Int.zero_mul];rfl
theorem zL{ci:List Int}{cn:List Nat}{g:List Int}:∀hs acc,il (gc ci cn) acc 0=0→yp g hs acc=true→nN ci cn hs (il (gc ci cn) g 0=0):=by
 intro hs
 induction hs with
 |nil=>
  intro acc h0 h;have e:=f9 (ci:=ci) (cn:=cn) (p:=acc) (q:=g) rfl rfl;rw[vU 0 h,h0,Int.sub_zero]at e;exact e.symm
 |cons a hs ih=>
  intro acc h0 h ha;have h:=(GC _ _).mp h;refine ih _ ?_ h.2;have h1:=h.1
  cases a with
  |i k x y=>exact ft h1
  |j k x y=>exact ft h1
  |e k x y=>exact(Lh.row_eq k acc (x.row_ev ci cn) (y.row_ev ci cn) ha).trans h0
  |f k x y=>exact(Lh.row_eq k acc (x.row_ev ci cn) (y.row_ev ci cn) (congrArg _ ha)).trans h0
theorem gL(ci:List Int)(cn:List Nat)(x y:Li)(hs:List Lh)(h:yp (fR (-1) y.row x.row) hs []=true):nN ci cn hs (x.ev ci cn=y.ev ci cn):=
 im (fun q=>by rw[f9 (x.row_ev ci cn) (y.row_ev ci cn)]at q;exact(Int.sub_eq_zero.mp q).symm) hs (zL hs [] rfl h)
theorem jl(ci:List Int)(cn:List Nat)(x y:Ln)(hs:List Lh)(h:yp (fR (-1) y.row x.row) hs []=true):nN ci cn hs (x.ev cn=y.ev cn):=
 im (fun q=>by rw[f9 (x.row_ev ci cn) (y.row_ev ci cn)]at q;exact(Int.ofNat.inj (Int.sub_eq_zero.mp q)).symm) hs (zL hs [] rfl h)
end
section
noncomputable def eJ(b:Array UInt8):Obj:={cls:=.type "bytearray",data:=.bytearray b 0}
noncomputable def qA(c:Char)(w:Nat):Builtin.Struct.Format:=⟨false,false,[⟨c,1,0,w⟩],w,1⟩
theorem gS:Slot "bytearray" "__buffer__" "bytearray.__buffer__":=
 .of (owner:="bytearray") (n:="__buffer__") (by rw[GO,GH];kernel_rfl) (by decide +kernel) (by decide +kernel) (by decide +kernel)
  (by first|exact .inl (by decide +kernel)|exact .inr (by decide +kernel)) (by rw[isSubtype_type];kernel_rfl)
theorem iV:Slot "_struct.Struct" "pack_into" "_struct.Struct.pack_into":=
 .of (owner:="_struct.Struct") (n:="pack_into") (by rw[GO,GH];kernel_rfl) (by decide +kernel) (by decide +kernel) (by decide +kernel)
  (by first|exact .inl (by decide +kernel)|exact .inr (by decide +kernel)) (by rw[isSubtype_type];kernel_rfl)
theorem iW:Slot "_struct.Struct" "unpack_from" "_struct.Struct.unpack_from":=
 .of (owner:="_struct.Struct") (n:="unpack_from") (by rw[GO,GH];kernel_rfl) (by decide +kernel) (by decide +kernel) (by decide +kernel)
  (by first|exact .inl (by decide +kernel)|exact .inr (by decide +kernel)) (by rw[isSubtype_type];kernel_rfl)
theorem pt:entryFor table "_struct.Struct.pack_into" = some Builtin.«_struct.Struct.pack_into»:=entryFor_of_tree (by kernel_rfl)
theorem pv:entryFor table "_struct.Struct.unpack_from" = some Builtin.«_struct.Struct.unpack_from»:=entryFor_of_tree (by kernel_rfl)
theorem pu:entryFor table "_struct.pack_into.held" = some Builtin.«_struct.pack_into.held»:=entryFor_of_tree (by kernel_rfl)
theorem qZ(a b c d:Value):argsOk "_struct.Struct.pack_into" ⟨[a,b,c,d],[]⟩:=by unfold argsOk;kernel_rfl
theorem q6(a b c:Value):argsOk "_struct.Struct.unpack_from" ⟨[a,b,c],[]⟩:=by unfold argsOk;kernel_rfl
section
variable {M:Model}{A:Around}{E:Value→Shared→Prop}{s:Shared}
theorem cW{a:Addr}{b:Array UInt8}{f:Array UInt8→Array UInt8}{Q:Unit→Shared→Prop}
  (ho:s.heap.get? a=some (eJ b)) (hz:(f b).size≤sizeLine)
  (h:Q () {s with heap:=s.heap.update a (Obj.mapBytearray f)}):wpAny M A (updateBytearray a f) Q E s:=by
 unfold updateBytearray;refine Gn (wpAny_load ho ?_);refine(?_:wpAny M A (update a (Obj.mapBytearray f)>>=fun _=>lookBehind a) Q E s);refine Gn (wpAny_update ho ?_);exact wpAny_lookBehind (o:=eJ (f b)) (Heap.get?_update_self _ ho rfl) (if_neg (Nat.not_lt.mpr hz)) h
end
theorem fJ{h:Heap}{a:Addr}{b:Array UInt8}(f:Array UInt8→Array UInt8)(ho:h.get? a=some (eJ b)) :
  (h.update a (Obj.mapBytearray f)).get? a=some (eJ (f b)):=Heap.get?_update_self _ ho rfl
open Builtin Builtin.Bytes Builtin.Struct
set_option genCtorIdx true in
inductive Fm|B|H|I|h|i
noncomputable def Fm.ch:Fm→Char|.B=>'B' | .H=>'H' | .I=>'I' | .h=>'h' | .i=>'i'
noncomputable def Fm.w:Fm→Nat|.B=>1|.H=>2|.I=>4|.h=>2|.i=>4
noncomputable def Fm.lo:Fm→Int|.B=>0|.H=>0|.I=>0|.h=>-32768|.i=>-2147483648
noncomputable def Fm.hi:Fm→Int|.B=>255|.H=>65535|.I=>4294967295|.h=>32767|.i=>2147483647
noncomputable def Fm.fmt:Fm→Array UInt8|.B=>#[60,66]|.H=>#[60,72]|.I=>#[60,73]|.h=>#[60,104]|.i=>#[60,105]
theorem Fm.parse(F:Fm):Builtin.Struct.parse F.fmt=pure (qA F.ch F.w):=by cases F<;>kernel_rfl
noncomputable def le(w:Nat)(n:Int):List UInt8:=(List.range w).map fun k=>((n % 2 ^ (8*w)).toNat / 256 ^ k % 256).toUInt8
theorem cO(w:Nat)(n:Int):(le w n).length=w:=by simp[le]
noncomputable def AS(out:Array UInt8)(p:Nat)(raw:Array UInt8):Array UInt8:=raw.toList.zipIdx.foldl (fun out (c,k)=>out.setIfInBounds (p+k) c) out
noncomputable def put(b:List UInt8)(p:Nat)(r:List UInt8):List UInt8:=b.take p++r++b.drop (p+r.length)
theorem vq(p:Nat):∀(r:List UInt8) (j:Nat) (b:List UInt8),p+j+r.length≤b.length→
  ((r.zipIdx j).foldl (fun(out:Array UInt8) (x:UInt8×Nat)=>out.setIfInBounds (p+x.2) x.1) b.toArray)=(b.take (p+j)++r++b.drop (p+j+r.length)).toArray
 |[],j,b,h=>by simp
 |c::r,j,b,h=>by
  simp only[GR]at h;rw[List.zipIdx_cons,List.foldl_cons];have e:(b.toArray.setIfInBounds (p+j) c)=(b.set (p+j) c).toArray:=by simp
  refine(?_:List.foldl _ (b.toArray.setIfInBounds (p+j) c) _=_);rw[e,vq p r (j+1) (b.set (p+j) c) (by rw[List.length_set];exact cG [] [_,_,_,_] (.a cp aj) au 1 [.j 1 (.a bg bf) au] rfl h)]
  congr 1
  rw[List.take_set,List.drop_set,if_pos (by exact cG [] [_,_,_] cw (.a cp aj) 1 [] rfl)]
  have e2:(b.take (p+(j+1))).set (p+j) c=b.take (p+j)++[c]:=by
   rw[show p+(j+1)=(p+j)+1 by exact(jl [] [_,_] cp cw [] rfl),List.take_add_one,List.set_append]
   simp only[GW,show ¬(p+j<min (p+j) b.length)by exact(Nat.not_lt.mpr ((GF (G8 (cG [] [_,_,_,_] bg aj 1 [.j 1 (.a bg bD) aj] rfl h))))),if_false]
   rw[show p+j-min (p+j) b.length=0 by exact(Nat.le_antisymm (cG [] [_,_,_,_] ab ax 1 [.f (-1) au bz,.f 1 (.a ab au) bz] rfl (G8 (cG [] [_,_,_,_] bg aj 1 [.j 1 (.a bg bD) aj] rfl h)) (Go ((GF (G8 (cG [] [_,_,_,_] bg aj 1 [.j 1 (.a bg bD) aj] rfl h)))))) (cG [] [_,_,_,_] ax ab 1 [.f 1 ae bG,.f (-1) bg bG] rfl (G8 (cG [] [_,_,_,_] bg aj 1 [.j 1 (.a bg bD) aj] rfl h)) (Go ((GF (G8 (cG [] [_,_,_,_] bg aj 1 [.j 1 (.a bg bD) aj] rfl h)))))))]
   rw[GD (by exact cG [] [_,_,_,_] cw aj 1 [.j 1 (.a bg bD) aj] rfl h)]
   rfl
  rw[e2,GR,show p+(j+1)+r.length=p+j+(r.length+1)by exact(jl [] [_,_,_] (.a cp aj) (.a bg bf) [] rfl)]
  simp
theorem rD(b:List UInt8)(p:Nat)(r:List UInt8)(h:p+r.length≤b.length):AS b.toArray p r.toArray=(put b p r).toArray:=by
 have:=vq p r 0 b (by exact cG [] [_,_,_] (.a (.a ab ax) ae) aj 1 [.j 1 bg aj] rfl h)
 simpa[AS,put]using this
theorem og(b:List UInt8)(p:Nat)(r:List UInt8)(h:p+r.length≤b.length):(put b p r).length=b.length:=by
 simp only[put,Gr,GW,GX];exact jl [] [_,_,_,_,_] (.a bg aj) au [.f 1 ab aB,.f 1 (.a aj (.a aB ae)) au] rfl (G8 (cG [] [_,_,_] ab ae 1 [.j 1 bH ae] rfl h)) (Go (h))
theorem AQ(b:List UInt8)(p:Nat)(r r':List UInt8)(h:p+r.length≤b.length)(e:r.length=r'.length):put (put b p r) p r'=put b p r':=by
 have h1:(b.take p++r).length=p+r.length:=by rw[Gr,GW];exact jl [] [_,_,_] bg bU [.f 1 ab aj] rfl (G8 (cG [] [_,_,_] ab ae 1 [.j 1 bH ae] rfl h))
 unfold put;rw[←e];have a1:List.take p (List.take p b++r++List.drop (p+r.length) b)=List.take p b:=by
  rw[GE,List.take_append_of_le_length (by rw[GW];exact(GF (Eq.symm (G8 (cG [] [_,_,_] ab ae 1 [.j 1 bH ae] rfl h))))),List.take_take,Nat.min_self]
 have a2:List.drop (p+r.length) (List.take p b++r++List.drop (p+r.length) b)=List.drop (p+r.length) b:=by
  conv=>lhs;arg 1;rw[←h1]
  exact List.drop_left
 rw[a1,a2]
theorem rH{τ:Type}(F:Fm)(id:String)(n:Int)(nt:Tok)(init:τ)(put:τ→Nat→Array UInt8→Sem τ)(source:Value→Nat→Nat→Sem Unit) :
  packEach id (qA F.ch F.w) [.int n nt] init put source =
   (((((if(decide (n<F.lo)||decide (n>F.hi))=true then(do rule "struct.pack.out-of-range"; structError s!"'{F.ch}' format requires {F.lo} <= number <= {F.hi}"; pure (intBytes false F.w n))else pure (intBytes false F.w n))>>=fun raw=>put init (0+0*F.w) raw>>=fun st=>pure (ForInStep.yield (st,([]:List Value))))
    >>= fun r=>match r with|.done b=>pure b|.yield b=>pure b)>>=fun s=>pure (ForInStep.yield (s.1,s.2)))>>=fun r=>match r with|.done b=>pure b|.yield b=>pure b)>>=fun s=>pure s.1:=by
 cases F<;>kernel_rfl
theorem nD{τ:Type}{M:Model}{A:Around}{E:Value→Shared→Prop}{s:Shared}{Q:τ→Shared→Prop}(F:Fm)(id:String)(n:Int)(nt:Tok)(init:τ)(put:τ→Nat→Array UInt8→Sem τ)(source:Value→Nat→Nat→Sem Unit)
  (a0:F.lo≤n) (e9:n≤F.hi) (h:wpAny M A (put init 0 (intBytes false F.w n)) Q E s) :
  wpAny M A (packEach id (qA F.ch F.w) [.int n nt] init put source) Q E s:=by
 rw[rH,if_neg (by rw[Bool.or_eq_true,decide_eq_true_eq,decide_eq_true_eq];lia),Nat.zero_mul]
 refine Gn (Gn (Gn (Gn (Gn (Gq (Gn ?_))))));exact wpAny_mono h (fun x s' hx=>Gq (Gq (Gq (Gq (Gq hx))))) fun _ _ e=>e
theorem oh{nm vb nr:String}{f:Format}{len:Nat}{off:Int}(h0:0≤off)(h1:off+f.size≤len):placeIn nm vb nr f len off=pure off.toNat:=by
 unfold placeIn;have c1:¬off<0:=by exact Int.not_lt.mpr (h0)
 have c2:¬((len:Int)-off<f.size):=by exact Int.not_lt.mpr (lin [_] [_,_] af (.s ak aa) 1 [.i 1 bI ak] rfl h1)
 simp only[if_neg c1,if_neg c2]
theorem rS{off:Int}(h0:0≤off)(h1:off≤16777216):(!Bytes.fitsIndex off)=false:=by
 simp only[Bytes.fitsIndex,Bool.not_eq_false',GC,decide_eq_true_eq];exact GK (lin [_] [] aL aa 1 [.i 1 an aa] rfl h0) (lin [_] [] bi aA 1 [.i 1 aa aX] rfl h1)
theorem rO(w:Nat)(n:Int):intBytes false w n=(le w n).toArray:=rfl
theorem wq{prog:Program}{w:World}{A:Around}{E:Value→Shared→Prop}{a:Addr}{b:List UInt8}{off n:Int}{ot nt:Tok}{Q:Fin→Shared→Prop}
  {s:Shared} (F:Fm) (ha:s.heap.get? a=some (eJ b.toArray)) (h0:0≤off) (h1:off+F.w≤b.length) (b7:b.length≤sizeLine)
  (a0:F.lo≤n) (e9:n≤F.hi)
  (hQ:∀h',h'.get? a=some (eJ (put b off.toNat (le F.w n)).toArray)→Heap.SameBut a s.heap h'→Q (.done (.ret .none)) {s with heap:=h'}) :
  wpAny (model prog w) A (packHeld "_struct.Struct.pack_into" (qA F.ch F.w) (.ref a) 0 b.length (.int off ot) [.int n nt]) Q E s:=by
 have hs:=GJ;have c2:placeIn "pack_into" "packing" "no space to pack" (qA F.ch F.w) b.length off=pure off.toNat:=oh h0 h1;have e1:AS b.toArray off.toNat (Array.replicate F.w 0)=(put b off.toNat (List.replicate F.w 0)).toArray:=by
  rw[←rD _ _ _ (by rw[GQ];exact cG [_] [_,_,_] bg aj 1 [.i 1 bN av,.e 1 af aa] rfl h1 (Gl (h0))),List.toArray_replicate]
 have l1:(put b off.toNat (List.replicate F.w 0)).length=b.length:=og _ _ _ (by rw[GQ];exact cG [_] [_,_,_] bg aj 1 [.i 1 bN av,.e 1 af aa] rfl h1 (Gl (h0)))
 obtain⟨hh,g,d,tk,os⟩:=s;unfold packHeld
 repeat lk
 rw[if_neg (by rw[rS h0 (by exact lin [_] [_,_] aa aX 1 [.i 1 bI ak,.j 1 ae aq] rfl h1 b7)];exact Bool.false_ne_true)]
 lk;rw[c2];lk;lk;refine Gn (cW (b:=b.toArray) (f:=fun x=>AS x (0+off.toNat) (Array.replicate F.w 0)) ha ?_ ?_)
 ·rw[Nat.zero_add,e1,Gx,l1];exact b7
 ·have eb:=fJ (fun x=>AS x (0+off.toNat) (Array.replicate F.w 0)) ha;rw[Nat.zero_add,e1]at eb;refine Gn (nD F _ n nt _ _ _ a0 e9 ?_);rw[rO];refine cW (b:=(put b off.toNat (List.replicate F.w 0)).toArray) (f:=fun x=>AS x (0+off.toNat+0) (le F.w n).toArray) (by rw[Nat.zero_add];exact eb) ?_ ?_
  ·rw[Nat.add_zero,Nat.zero_add,rD _ _ _ (by rw[cO,l1];exact cG [_] [_,_,_] bg aj 1 [.i 1 bN av,.e 1 af aa] rfl h1 (Gl (h0))),Gx,og _ _ _ (by rw[cO,l1];exact cG [_] [_,_,_] bg aj 1 [.i 1 bN av,.e 1 af aa] rfl h1 (Gl (h0))),l1];exact b7
  ·have a3:=fJ (fun x=>AS x (0+off.toNat+0) (le F.w n).toArray) eb;rw[Nat.add_zero,Nat.zero_add,rD _ _ _ (by rw[cO,l1];exact cG [_] [_,_,_] bg aj 1 [.i 1 bN av,.e 1 af aa] rfl h1 (Gl (h0))),AQ _ _ _ _ (by rw[GQ];exact cG [_] [_,_,_] bg aj 1 [.i 1 bN av,.e 1 af aa] rfl h1 (Gl (h0))) (by rw[GQ,cO])]at a3
   refine Gq (hQ _ ?_ ?_)
   ·rw[Nat.add_zero,Nat.zero_add];exact a3
   ·exact(Heap.SameBut.update _ _ _).trans (Heap.SameBut.update _ _ _)
noncomputable def ia(F:Fm)(t:Tok):Obj:={cls:=.type "_struct.Struct",data:=.fields #[.bytes F.fmt t]}
theorem iS{M:Model}{A:Around}{E:Value→Shared→Prop}{s:Shared}{S:Addr}{F:Fm}{t:Tok}{Q:Array UInt8×Format→Shared→Prop}
  (hS:s.heap.get? S=some (ia F t)) (h:Q (F.fmt,qA F.ch F.w) s):wpAny M A (structFormat (.ref S)) Q E s:=by
 unfold structFormat;refine Gn (wpAny_field hS rfl (x:=.bytes F.fmt t) rfl ?_);refine(?_:wpAny M A (payload (.bytes F.fmt t)>>=fun b=>_) Q E s);refine Gn (Gq ?_);rw[Fm.parse];exact Gn (Gq (Gq h))
theorem nK{prog:Program}{w:World}{A:Around}{E:Value→Shared→Prop}{a S:Addr}{b:List UInt8}{off n:Int}{ot nt t:Tok}{Q:Value→Shared→Prop}
  {s:Shared} {F:Fm} (hS:s.heap.get? S=some (ia F t)) (ha:s.heap.get? a=some (eJ b.toArray)) (h0:0≤off) (h1:off+F.w≤b.length) (b7:b.length≤sizeLine)
  (a0:F.lo≤n) (e9:n≤F.hi)
  (hQ:∀h',h'.get? a=some (eJ (put b off.toNat (le F.w n)).toArray)→Heap.SameBut a s.heap h'→Q .none {s with heap:=h'}) :
  wpAny (model prog w) A (call (.builtin "_struct.Struct.pack_into") [.ref S, .ref a, .int off ot, .int n nt]) Q E s:=by
 refine wpAny_call (codeAny_call_builtin iV.plain pt (iV.check _ _ _ _ _ _ _ _ ⟨_,hS,rfl⟩ (qZ _ _ _ _) ?_));refine(?_:wpAny _ _ (structFormat (.ref S)>>=fun f=>field (.ref S) 0>>=fun v=>packInto (.ref S) v f.2 [.ref a, .int off ot, .int n nt]) _ _ _);refine Gn (iS hS (Gn (wpAny_field hS rfl (x:=.bytes F.fmt t) rfl ?_)));unfold packInto;rw[if_neg (by refine(?_:¬((3 != 1+2)=true));decide)]
 dsimp only;refine Gn (wpAny_specialOf (show s.TypeIs (.ref a) "bytearray" from⟨_,ha,rfl⟩) gS.lookup ?_)
 refine(?_:wpAny _ _ (payload (.ref a)>>=fun x=>pure (Value.ref a,0,x.size)>>=fun y=>again (Code.builtin "_struct.pack_into.held" {pos:=[y.fst,Value.ref a,rawInt ↑y.2.fst,rawInt ↑y.2.snd,Value.ref S,Value.bytes F.fmt t,Value.int off ot,Value.int n nt]})) _ _ _);have hp:∀{A':Around} {E':Value→Shared→Prop} {Q':Array UInt8→Shared→Prop},Q' b.toArray s→wpAny (model prog w) A' (payload (.ref a)) Q' E' s:=fun hq=>by
  unfold payload payload?;refine Gn (Gn (wpAny_load ha (Gq ?_)));exact Gq hq
 refine Gn (hp (Gn (Gq ?_)));refine Gq ⟨Code.quiet_builtin _ (by decide +kernel),codeAny_builtin pu ?_⟩
 refine(?_:wpAny _ _ (payload (.bytes F.fmt t)>>=fun x=>Builtin.Struct.parse x>>=fun f=>packHeld _ f (.ref a) ((0:Nat):Int).toNat ((b.toArray.size:Nat):Int).toNat (.int off ot) [.int n nt]) _ _ _);refine Gn (Gq ?_);rw[Fm.parse];refine Gn (Gq ?_);rw[Int.toNat_natCast,Int.toNat_natCast,Gx];exact wq F ha h0 h1 b7 a0 e9 hQ
end
section
open Builtin Builtin.Bytes Builtin.Struct
theorem iQ:typeLookup (.type "bytes") "__buffer__" = pure (some (.builtin "bytes.__buffer__")):=by rw[GO,GH];kernel_rfl
theorem iG:typeLookup (.type "bytes") "__release_buffer__" = pure none:=by rw[GO,GH];kernel_rfl
theorem f8:typeLookup (.type "bytearray") "__release_buffer__" = pure (some (.builtin "bytearray.__release_buffer__")):=by rw[GO,GH];kernel_rfl
theorem xu(b:Array UInt8)(t:Tok):typeOf (.bytes b t)=pure (.type "bytes"):=rfl
def iF(h:Heap)(v:Value)(b:Array UInt8):Prop:=(∃t,v=.bytes b t)∨∃a,v=.ref a∧h.get? a=some (eJ b)
theorem dL{M:Model}{h:Heap}{v:Value}{name id T:String}(L:Looks M h (specialOf v (name:Str)) (some (.builtin id)))
  (e1:id.endsWith ("." ++ name)=true) (e2:id.dropRight (name.length+1)=T) (I:Looks M h (isInstance v (.type T)) true):Looks M h (slotIsOwn v name) true:=by
 unfold slotIsOwn;refine L.andThen ?_;dsimp only;rw[e1,e2,if_neg (by decide)]
 exact I
theorem jY{M:Model}{h:Heap}{v:Value}{name:String}(L:Looks M h (specialOf v (name:Str)) none):Looks M h (slotIsOwn v name) true:=by
 unfold slotIsOwn;exact L.andThen .now
theorem c6{M:Model}{h:Heap}{v:Value}{T:String}{name:Str}{r:Option Value}(hT:Looks M h (typeOf v) (.type T))(e:typeLookup (.type T) name=pure r):Looks M h (specialOf v name) r:=
 hT.andThen (Looks.of_pure e)
theorem dZ{M:Model}{h:Heap}{v:Value}{T U:String}{b:Bool}(hT:Looks M h (typeOf v) (.type T))(e:isSubtype (.type T) (.type U)=pure b):Looks M h (isInstance v (.type U)) b:=
 hT.andThen (Looks.of_pure e)
theorem pS:isSubtype (.type "bytes") (.type "bytes")=pure true:=by rw[isSubtype_type];kernel_rfl
theorem lC:isSubtype (.type "bytearray") (.type "bytearray")=pure true:=by rw[isSubtype_type];kernel_rfl
theorem er{M:Model}{h:Heap}{a:Addr}{o:Obj}{T:String}(e:h.get? a=some o)(hc:o.cls=.type T):Looks M h (typeOf (.ref a)) (.type T):=hc▸(Looks.ld e).andThen .now
theorem jA{M:Model}{A:Around}{E:Value→Shared→Prop}{s:Shared}{id:String}{v:Value}{b:Array UInt8}{Q:Array UInt8→Shared→Prop}
  (hv:iF s.heap v b) (h:Q b s):wpAny M A (bytesLike id v) Q E s:=by
 obtain⟨hh,g,d,tk,os⟩:=s;rcases hv with⟨t,rfl⟩|⟨a,rfl,ha⟩
 ·have T:Looks M hh (typeOf (.bytes b t)) (.type "bytes"):=Looks.of_pure rfl;have L1:=c6 T iQ;have L2:=c6 T iG;have L3:Looks M hh (slotIsOwn (.bytes b t) "__buffer__") true:=dL L1 (by decide +kernel) (by decide +kernel) (dZ T pS)
  have L4:Looks M hh (slotIsOwn (.bytes b t) "__release_buffer__") true:=jY L2;unfold bytesLike buffer? ownRelease
  repeat lk
  exact h
 ·have T:Looks M hh (typeOf (.ref a)) (.type "bytearray"):=er ha rfl;have L1:=c6 T gS.lookup;have L2:=c6 T f8;have L3:Looks M hh (slotIsOwn (.ref a) "__buffer__") true:=dL L1 (by decide +kernel) (by decide +kernel) (dZ T lC)
  have L4:Looks M hh (slotIsOwn (.ref a) "__release_buffer__") true:=dL L2 (by decide +kernel) (by decide +kernel) (dZ T lC)
  have ag:hh.get? a=some (eJ b):=ha;unfold bytesLike buffer? ownRelease
  repeat lk
  exact h
noncomputable def gl:List UInt8→Nat:=fun l=>l.foldr (fun c n=>n*256+c.toNat) 0
noncomputable def Fm.sg:Fm→Bool|.h=>true|.i=>true|_=>false
noncomputable def Fm.rd(F:Fm)(l:List UInt8):Int:=if F.sg&&decide (gl l≥2 ^ (8*F.w-1))then(gl l:Int)-2 ^ (8*F.w)else gl l
theorem yj(l:List UInt8):natOf false l.toArray=gl l:=by simp[natOf,Memoryview.littleEndian,gl]
theorem rk(F:Fm)(id:String)(b:Array UInt8)(off:Nat):Struct.unpacked id (qA F.ch F.w) b off =
  (do
   let n:=natOf false (b.extract (off+0+0*F.w) (off+0+(0+1)*F.w))
   let v ←mkInt (if F.sg&&decide (n≥2 ^ (8*F.w-1))then(n:Int)-2 ^ (8*F.w)else n)
   newTuple [v]):=by
 cases F<;>kernel_rfl
theorem lU{prog:Program}{w:World}{A:Around}{E:Value→Shared→Prop}{S:Addr}{b:List UInt8}{off:Int}{v:Value}{ot t:Tok}{Q:Value→Shared→Prop}
  {s:Shared} {F:Fm} (hS:s.heap.get? S=some (ia F t)) (hv:iF s.heap v b.toArray) (h0:0≤off) (h1:off+F.w≤b.length) (b7:b.length≤sizeLine)
  (hQ:Q (.ref s.heap.objs.size) {s with heap:=s.heap.push {cls:=.type "tuple",data:=.seq #[.int (F.rd ((b.drop off.toNat).take F.w)) s.toks]},toks:=s.toks+1}) :
  wpAny (model prog w) A (call (.builtin "_struct.Struct.unpack_from") [.ref S,v, .int off ot]) Q E s:=by
 have hs:=GJ;have c2:placeIn "unpack_from" "unpacking" "not enough data to unpack" (qA F.ch F.w) b.length off=pure off.toNat:=oh h0 h1;refine wpAny_call (codeAny_call_builtin iW.plain pv (iW.check _ _ _ _ _ _ _ _ ⟨_,hS,rfl⟩ (q6 _ _ _) ?_));refine(?_:wpAny _ _ (unpackFrom "_struct.Struct.unpack_from" (do return (←structFormat (.ref S)).2) v (some (.int off ot))) _ _ _)
 unfold unpackFrom;refine Gn (jA hv ?_);have hi:indexHeld [v] (.int off ot)=pure off:=by unfold indexHeld;refine(?_:(if(_||true)=true then(pure off:Sem Int)else _)=_);rw[Bool.or_true,if_pos rfl]
 dsimp only;rw[hi]
 repeat lk
 rw[if_neg (by rw[rS h0 (by exact lin [_] [_,_] aa aX 1 [.i 1 bI ak,.j 1 ae aq] rfl h1 b7)];exact Bool.false_ne_true)]
 lk;lk;lk;lk;lk;refine iS hS ?_;lk;lk;refine Gn (jA hv ?_);rw[Gx,c2];refine Gn (Gq (Gn ?_));have ex:natOf false (b.toArray.extract (off.toNat+0+0*F.w) (off.toNat+0+(0+1)*F.w))=gl ((b.drop off.toNat).take F.w):=by
  rw[←yj];congr 1;simp
 rw[rk,ex];unfold Fm.rd at hQ
 repeat lk
 exact hQ
end
section
noncomputable def yt:PySem.Code→Bool
 |.builtin id _=>Builtin.Bytes.decodersThatHold.contains id
 |_=>false
def ClB(l:List (PySem.Code×Pos)):Prop:=∀x∈l,yt x.1=false
def Cl(Γ:Ctx):Prop:=yt Γ.code=false∧ClB Γ.below
def okR(R:Flow→Shared→Prop)(r:Result)(s:Shared):Prop:=match r with|.ok f=>R f s|.error _=>False
def noE:Value→Shared→Prop:=fun _ _=>False
def wpN{α:Type}(M:Model)(A:Around)(t:Sem α)(Q:α→Shared→Prop)(s:Shared):Prop:=
 ∀Γ p,Γ.In A→Cl Γ→Sem.wp M Γ t (fun a _ s'=>Q a s') (fun _ _ _=>False) p s
def eP(M:Model)(A:Around)(c:PySem.Code)(R:Flow→Shared→Prop)(s:Shared):Prop:=
 ∀Γ p,Γ.code=c→Γ.Below A→ClB Γ.below→wpCode M Γ (okR R) p s
section
variable {α β:Type}{M:Model}{A:Around}{s:Shared}
theorem cA{t:Sem α}{Q:α→Shared→Prop}(h:wpAny M A t Q noE s):wpN M A t Q s:=fun Γ p hΓ _=>h Γ p hΓ
theorem qM{c:PySem.Code}{R:Flow→Shared→Prop}(h:codeAny M A c (okR R) s):eP M A c R s:=fun Γ p hc hΓ _=>h Γ p hc hΓ
theorem cE{t:Sem α}{Q Q':α→Shared→Prop}(h:wpN M A t Q s)(hQ:∀a s,Q a s→Q' a s):wpN M A t Q' s:=
 fun Γ p hΓ hc=>Sem.wp_mono M Γ t (fun a _ s=>hQ a s) (fun _ _ _ x=>x) p s (h Γ p hΓ hc)
theorem wpN_pure{a:α}{Q:α→Shared→Prop}(h:Q a s):wpN M A (pure a) Q s:=fun _ _ _ _=>h
theorem cy{m:Sem α}{f:α→Sem β}{Q:β→Shared→Prop}(h:wpN M A m (fun a s'=>wpN M A (f a) Q s') s):wpN M A (m>>=f) Q s:=fun Γ p hΓ hc=>by
 rw[Sem.wp_bind'];exact Sem.wp_mono M Γ m (fun a p' s' h'=>h' Γ p' hΓ hc) (fun _ _ _ h'=>h') p s (h Γ p hΓ hc)
theorem cH{m:Sem α}{f:α→Sem β}{Q:β→Shared→Prop}(h:wpAny M A m (fun a s'=>wpN M A (f a) Q s') noE s):wpN M A (m>>=f) Q s:=cy (cA h)
theorem cB{vs:List Value}{m:Sem α}{Q:α→Shared→Prop}(h:wpN M A m Q s):wpN M A (holding vs m) Q s:=fun Γ p hΓ hc=>by rw[Sem.wp_holding];exact h Γ p hΓ hc
theorem oM{vs:List Value}{m:Sem α}{Q:α→Shared→Prop}(h:wpN M A m Q s):wpN M A (m.keep vs) Q s:=fun Γ p hΓ hc=>by rw[Sem.wp_keep];exact h Γ p hΓ hc
theorem dD{m:Sem α}{k:Value→Sem Unit}{Q:α→Shared→Prop}(h:wpN M A m Q s):wpN M A (m.onRaise k) Q s:=fun Γ p hΓ hc=>by
 rw[Sem.wp_onRaise];exact Sem.wp_mono M Γ m (fun _ _ _ x=>x) (fun _ _ _ x=>x.elim) p s (h Γ p hΓ hc)
theorem ri{m:Sem α}{Q:Except Value α→Shared→Prop}(h:wpN M A m (fun a=>Q (.ok a)) s):wpN M A m.attempt Q s:=fun Γ p hΓ hc=>by
 rw[Sem.wp_attempt];exact Sem.wp_mono M Γ m (fun _ _ _ x=>x) (fun _ _ _ x=>x.elim) p s (h Γ p hΓ hc)
theorem uF{c:Prop}[Decidable c]{a b:Sem α}{Q:α→Shared→Prop}(ht:c→wpN M A a Q s)(hf:¬c→wpN M A b Q s):wpN M A (if c then a else b) Q s:=by
 split<;>simp_all
theorem dJ{c:PySem.Code}{R R':Flow→Shared→Prop}(h:eP M A c R s)(hR:∀f s,R f s→R' f s):eP M A c R' s:=
 fun Γ p hc hΓ hb=>wpCode_mono (fun r s x=>by cases r<;>first|exact hR _ _ x|exact x) (h Γ p hc hΓ hb)
theorem uD{c:PySem.Code}{hd:Option Value}{Q:Flow→Shared→Prop}(h:eP M (A.mark hd) c Q s)(b3:hd≠some byPass):wpN M A (run c hd) Q s:=fun Γ p hΓ hc=>by
 rw[Sem.wp_run];refine wpCode_mono (fun r s x=>?_) (h _ p rfl (hΓ.enter c hd p b3) (fun x hx=>by
  clear b3 h Q hΓ;rcases List.mem_cons.mp hx with rfl|hx
  ·exact hc.1
  ·exact hc.2 x hx))
 clear b3 h hd c hc hΓ p Γ;cases r<;>exact x
theorem pI{c:PySem.Code}{Q:Value→Shared→Prop}(h:eP M A c (fun f s'=>match f with|.ret v=>Q v s'|_=>False) s):wpN M A (runValue c) Q s:=fun Γ p hΓ hc=>by
 rw[Sem.wp_runValue];refine wpCode_mono (fun r s x=>?_) (h _ p rfl (hΓ.enter c none p (by intro x;exact ns x)) (fun x hx=>by
  clear h Q hΓ;rcases List.mem_cons.mp hx with rfl|hx
  ·exact hc.1
  ·exact hc.2 x hx))
 clear h c hc hΓ p Γ;rcases r with e|(v|_|_|_)<;>exact x
theorem wpN_call{f:Value}{pos:List Value}{kw:List (Str×Value)}{Q:Value→Shared→Prop}(h:eP M A (.call f ⟨pos,kw⟩) (fun f s'=>match f with|.ret v=>Q v s'|_=>False) s) :
  wpN M A (call f pos kw) Q s:=pI h
def Bz(M:Model)(A:Around)(R:Flow→Shared→Prop):Fin→Shared→Prop
 |.done f,s'=>R f s'
 |.again c',s'=>c'.quiet=true∧eP M A c' R s'
theorem cT{c:PySem.Code}{R:Flow→Shared→Prop}(hd:yt c=false)(h:wpN M (A.under c) (M.den c) (Bz M A R) s):eP M A c R s:=fun Γ p hc hΓ hb=>by
 rw[wpCode_iff_wp,hc];refine Sem.wp_mono M Γ _ (fun fin p' s' h'=>?_) (fun _ _ _ h'=>h'.elim) p s (h Γ p (hc▸hΓ.in) ⟨hc▸hd,hb⟩);clear h hd hc p;cases fin with
 |done f=>exact h'
 |again c'=>exact⟨h'.1,h'.2 (Γ.goto c') p' rfl (hΓ.goto c') hb⟩
end
section
variable {prog:Program}{w:World}{A:Around}{s:Shared}
theorem iB{id:String}{args:Args}{b:Builtin}{R:Flow→Shared→Prop}(hb:entryFor table id=some b)(hd:Builtin.Bytes.decodersThatHold.contains id=false)
  (h:wpN (model prog w) (A.under (.builtin id args)) (b args) (Bz (model prog w) A R) s):eP (model prog w) A (.builtin id args) R s:=by
 refine cT hd ?_;refine(?_:wpN _ _ (match entryFor table id with|some b=>b args|none=>unsupported ((withoutEnding? id "#data").getD id)) _ s)
 rw[hb];exact h
theorem gM{id:String}{args:Args}{b:Builtin}{R:Flow→Shared→Prop}(hq:plainId id=true)(hb:entryFor table id=some b)(hd:Builtin.Bytes.decodersThatHold.contains id=false)
  (h:wpN (model prog w) A.in1 (checkBuiltinCall id args) (fun _ s₁=>wpN (model prog w) A.in1 (b args) (Bz (model prog w) A R) s₁) s):eP (model prog w) A (.call (.builtin id) args) R s:=by
 refine cT rfl ?_;refine(?_:wpN _ A.in1 (do checkBuiltinCall id args;again (.builtin id args)) _ s)
 refine cy (cE h fun _ s₁ ag=>wpN_pure ⟨plainId_quiet hq args,iB hb hd ?_⟩);rw[Around.under_plainId hq args];exact ag
theorem wN:Cl (⟨.builtin "claim.caller" {},none,none,[],none⟩:Ctx):=⟨by decide +kernel,fun _ h=>nomatch h⟩
theorem uC{M:Model}{t:Sem Fin}{R:Result→Shared→Prop}{s:Shared}(h:wpN M callerA t (fun fin s'=>∃f,fin=.done f∧R (.ok f) s') s)(p:Pos) :
  Sem.wp M ⟨.builtin "claim.caller" {},none,none,[],none⟩ t (Sem.finPost M ⟨.builtin "claim.caller" {},none,none,[],none⟩ R) (fun e _ s'=>R (.error e) s') p s:=by
 refine Sem.wp_mono M _ t (fun fin p' s' h'=>?_) (fun _ _ _ h'=>h'.elim) p s (h _ p caller_in wN);refine e1b h' fun f a3 hf=>?_;clear h';subst a3;exact hf
end
end
section
open Builtin Builtin.Bytes
theorem qe{Γ:Ctx}{A:Around}(h:Γ.In A)(hg:A.guards=some []):Γ.code.isGuard=false∧∀x∈Γ.below,x.1.isGuard=false:=by
 have e:=h.2.2.2.1 [] hg;refine e0b (List.append_eq_nil_iff.mp e) fun e1 e2=>?_;constructor
 ·unfold Code.guards at e1
  split at e1
  ·exact cn e1
  ·rename_i q;simpa using q
 ·intro x hx;clear hg h A e e1;cases hq:x.1.isGuard with
  |false=>rfl
  |true=>
   exfalso
   have:x.1∈guardsOf Γ.below:=List.mem_filter.mpr ⟨List.mem_map_of_mem hx,hq⟩;rw[e2]at this;clear hx hq e2;cases this
theorem Ft(v:Value)(c:PySem.Code)(p:Pos)(hg:c.isGuard=false)(hd:yt c=false):(match(c,p)with
  |(.builtin "bytearray.__contains__" ⟨v'::_,_⟩,_)|(.builtin "bytearray.__mod__" ⟨v'::_,_⟩,_)
  |(.builtin "bytearray.__rmod__" ⟨_::v'::_,_⟩,_)|(.builtin "_struct.pack_into.held" ⟨v'::_,_⟩,_)=>Bytes.sameRef v' v
  |(.builtin "bytearray.find.held" ⟨_::_::held,_⟩,_)=>held.any (Bytes.sameRef v)
  |(.builtin i ⟨v'::_,_⟩,_)=>Bytes.sameRef v' v&&decodersThatHold.contains i
  |_=>false:Bool)=false:=by
 cases c with
 |builtin i args=>
  obtain⟨pos,kw⟩:=args;have ne:∀j:String,guardIds.contains j=true→¬i=j:=fun j h e=>by subst e;clear p;cases h.symm.trans hg
  conv=>lhs;delta Ft.match_1
  refine(dif_neg (ne "bytearray.__contains__" (by decide +kernel))).trans ?_
  refine(dif_neg (ne "bytearray.__mod__" (by decide +kernel))).trans ?_
  refine(dif_neg (ne "bytearray.__rmod__" (by decide +kernel))).trans ?_
  refine(dif_neg (ne "_struct.pack_into.held" (by decide +kernel))).trans ?_
  refine(dif_neg (ne "bytearray.find.held" (by decide +kernel))).trans ?_
  clear hg ne;cases pos with
  |nil=>rfl
  |cons x r=>show(Bytes.sameRef x v&&decodersThatHold.contains i)=false;rw[show decodersThatHold.contains i=false from hd,Bool.and_false]
 |_=>rfl
theorem lB{M:Model}{A:Around}{s:Shared}{v:Value}{Q:Bool→Shared→Prop}(hg:A.guards=some [])(h:Q false s):wpN M A (exported v) Q s:=fun Γ p hΓ hc=>by
 refine e0b (qe hΓ hg) fun g1 g2=>?_;have all:(((Γ.code,p)::Γ.below).any fun
  |(.builtin "bytearray.__contains__" ⟨v'::_,_⟩,_)|(.builtin "bytearray.__mod__" ⟨v'::_,_⟩,_)
  |(.builtin "bytearray.__rmod__" ⟨_::v'::_,_⟩,_)|(.builtin "_struct.pack_into.held" ⟨v'::_,_⟩,_)=>Bytes.sameRef v' v
  |(.builtin "bytearray.find.held" ⟨_::_::held,_⟩,_)=>held.any (Bytes.sameRef v)
  |(.builtin i ⟨v'::_,_⟩,_)=>Bytes.sameRef v' v&&decodersThatHold.contains i
  |_=>false)=false:=by
  rw[List.any_eq_false];intro x hx;rw[Bool.not_eq_true];clear hg M hΓ;rcases List.mem_cons.mp hx with rfl|hx
  ·exact Ft v _ _ g1 hc.1
  ·exact Ft v x.1 x.2 (g2 x hx) (hc.2 x hx)
 refine Eq.mpr (congrArg (fun b=>Q b s) (?_:_=false)) h;exact all
end
section
open Builtin Builtin.Bytes
section
variable {prog:Program}{w:World}{A:Around}{s:Shared}
theorem cF{α:Type}{M:Model}{c:Bool}{a b:Sem α}{Q:α→Shared→Prop}(hc:c=false)(h:wpN M A b Q s):wpN M A (if c=true then a else b) Q s:=by subst hc;exact h
theorem dE{α:Type}{M:Model}{c:Bool}{a b:Sem α}{Q:α→Shared→Prop}(hc:c=true)(h:wpN M A a Q s):wpN M A (if c=true then a else b) Q s:=by subst hc;exact h
theorem qS{T newId a0:String}{Bi:Builtin}{args:List Value}{Q Q₁:Value→Shared→Prop}(ft:TypeCalled T newId a0)
  (hct:checkTypeCall T ⟨args,[]⟩=pure ()) (a3:entryFor table a0=some Bi) (hdI:decodersThatHold.contains a0=false)
  (ag:eP (model prog w) A.in1 (.call (.builtin newId) ⟨.type T::args,[]⟩) (fun f s'=>match f with|.ret obj=>Q₁ obj s'|_=>False) s)
  (a5:∀obj s₁,Q₁ obj s₁→s₁.TypeIs obj T∧argsOk a0 ⟨obj::args,[]⟩∧
   wpN (model prog w) A.in1.in1 (Bi ⟨obj::args,[]⟩) (Bz (model prog w) A.in1 fun f ar=>f=.ret .none∧Q obj ar) s₁) :
  wpN (model prog w) A (_root_.PySem.call (.type T) args) Q s:=by
 refine e2a ft.mro fun c tl ac=>?_;refine wpN_call (cT rfl ?_);refine(?_:wpN _ _ (callAny (.type T) _) _ _);refine wpN_pure ⟨Code.quiet_builtin _ (by decide +kernel),iB F.entry_type_call (by decide +kernel) ?_⟩
 rw[Around.under_plain (weight_type_call_type T args []) (units_type_call_type T args [])];unfold Builtin.«type.__call__»;dsimp only;refine cF ft.notType ?_;refine cF ft.canCreate ?_;refine cH (wpAny_of_eq hct ?_);refine cH (wpAny_of_eq ac ?_);refine cF rfl ?_;refine cH (wpAny_of_eq ft.made ?_);refine cy (wpN_pure ?_);refine cy (cB (wpN_call (dJ ag fun f s₁ hf=>?_)))
 cases f with
 |ret obj=>
  refine e0c (a5 _ _ hf) fun hT a4 hsi=>?_;refine(?_:wpN _ _ (isInstance obj (.type T)>>=_) _ _);refine cH (wpAny_isInstance hT ft.sub ?_);refine cF rfl ?_;refine cy (cB ?_);unfold callSpecial?;refine cH (wpAny_specialOf hT ft.init.lookup ?_);dsimp only;refine cB ?_;rw[ft.init.bind obj];refine cy (wpN_pure ?_);dsimp only;refine cy (wpN_call (dJ (R:=fun f ar=>f=.ret .none∧Q obj ar) (gM ft.init.plain a3 hdI (cA (ft.init.check _ _ _ _ _ _ _ _ hT a4 hsi))) fun f ar hf=>?_));refine e0b hf fun b6 hq=>?_;clear hf;subst b6;exact wpN_pure (cF rfl (wpN_pure hq))
 |_=>exact hf.elim
theorem zE:mroOf (.type "bytearray")=pure [.type "bytearray", .type "object"]:=by rw[mroOf_type];kernel_rfl
theorem o9:typeLookup (.type "bytearray") "__new__" = pure (some (.builtin "bytearray.__new__")):=by rw[GO,GH];kernel_rfl
theorem pU:Slot "bytearray" "__init__" "bytearray.__init__":=
 .of (owner:="bytearray") (n:="__init__") (by rw[GO,GH];kernel_rfl) (by decide +kernel) (by decide +kernel) (by decide +kernel)
  (by first|exact .inl (by decide +kernel)|exact .inr (by decide +kernel)) (by rw[isSubtype_type];kernel_rfl)
theorem qO:TypeCalled "bytearray" "bytearray.__new__" "bytearray.__init__":=
 ⟨by decide +kernel,by decide +kernel,⟨_,_,zE⟩,madeBy_type zE o9 (by decide +kernel),by decide +kernel,by rw[isSubtype_type];kernel_rfl,pU⟩
theorem my(a:Value):checkTypeCall "bytearray" ⟨[a],[]⟩=pure ():=by kernel_rfl
theorem tO(a:Value):checkBuiltinCall "bytearray.__new__" ⟨[.type "bytearray",a],[]⟩=pure ():=by kernel_rfl
theorem qD:entryFor table "bytearray.__new__" = some Builtin.«list.__new__»:=entryFor_alias (id':="list.__new__") (by kernel_rfl) rfl (by decide +kernel) (by kernel_rfl)
theorem kX:entryFor table "bytearray.__init__" = some Builtin.«bytearray.__init__»:=entryFor_of_tree (by kernel_rfl)
theorem lJ:plainId "bytearray.__new__" = true:=by decide +kernel
theorem lS(a b:Value):argsOk "bytearray.__init__" ⟨[a,b],[]⟩:=by unfold argsOk;kernel_rfl
set_option maxRecDepth 1000000 in
set_option maxHeartbeats 4000000 in
theorem qc:("bytearray.__new__".splitOn ".__new__").headD "" = "bytearray":=by simp +decide [String.splitOn,String.splitOnAux]
theorem m8(a:Value){Q₁:Value→Shared→Prop}(h:Q₁ (.ref s.heap.objs.size) {s with heap:=s.heap.push (eJ #[])}) :
  eP (model prog w) A (.call (.builtin "bytearray.__new__") ⟨[.type "bytearray",a],[]⟩) (fun f s'=>match f with|.ret obj=>Q₁ obj s'|_=>False) s:=by
 refine qM (codeAny_of_tree ?_);refine(?_:wpAny _ A.in1 (do checkBuiltinCall "bytearray.__new__" ⟨[.type "bytearray",a],[]⟩;again (.builtin "bytearray.__new__" ⟨[.type "bytearray",a],[]⟩)) _ _ s)
 refine Gn (wpAny_of_eq (tO a) (Gq ⟨plainId_quiet lJ _,codeAny_builtin_stack qD rfl fun p st=>?_⟩));rw[Around.under_plainId lJ _];have a0:=lC;have a4:=qc;obtain⟨hp,g,d,tk,os⟩:=s;simp only[a4]
 wp_walk
 exact h
end
end
section
open Builtin Builtin.Bytes
section
variable {prog:Program}{w:World}{A:Around}{s:Shared}
theorem oB(v:Value):Bytes.bindOptional "bytearray.__init__" "bytearray" ["source","encoding","errors"] [v] []=pure [some v,none,none]:=by kernel_rfl
theorem sy{a:Addr}{n:Int}{t:Tok}{Q:Flow→Shared→Prop}(hg:A.guards=some [])(ha:s.heap.get? a=some (eJ #[]))(h0:0≤n)(h1:n≤16777216)
  (hQ:∀h',h'.get? a=some (eJ (List.replicate n.toNat 0).toArray)→Heap.SameBut a s.heap h'→Q (.ret .none) {s with heap:=h'}) :
  wpN (model prog w) A (Builtin.«bytearray.__init__» ⟨[.ref a, .int n t],[]⟩) (Bz (model prog w) A Q) s:=by
 have T:Looks (model prog w) s.heap (typeOf (.ref a)) (.type "bytearray"):=er ha rfl;have L4:Looks (model prog w) s.heap (slotIsOwn (.ref a) "__release_buffer__") true:=dL (c6 T f8) (by decide +kernel) (by decide +kernel) (dZ T lC)
 have R:Looks (model prog w) s.heap (ownRelease (.ref a)) false:=L4.andThen .now;unfold Builtin.«bytearray.__init__»;dsimp only;refine cH (R.here ?_);refine cF rfl ?_;rw[oB];refine cy (wpN_pure ?_);dsimp only;refine cy (wpN_pure (cy (wpN_pure ?_)));have EX:∀{Q':Bool→Shared→Prop},Q' false s→wpN (model prog w) A (exported (.ref a) <||> do return (←exportsOf (.ref a))>0) Q' s:=fun hq=>by
  refine(?_:wpN _ _ (exported (.ref a)>>=_) _ _);refine cy (lB hg ?_);refine(?_:wpN _ _ (exportsOf (.ref a)>>=fun x=>pure (decide (x>0))) _ _);refine cy ?_;refine cH (wpAny_load ha ?_);exact wpN_pure (wpN_pure hq)
 refine cy (EX ?_);refine cF rfl ?_;refine cy (cA (cW (f:=fun _=>#[]) ha (G1 _) ?_));have eb:=fJ (fun _=>#[]) ha;refine cy (wpN_pure ?_);refine cF rfl ?_;have hs:=GJ;refine cF (rS h0 h1) ?_;refine uF (fun c=>absurd c (by exact Int.not_lt.mpr (False.elim (v8 [_] [] [.i 1 an aa,.i 1 bi an] rfl h0 c)))) fun _=>?_
 refine cF (by rw[beq_eq_false_iff_ne];exact Int.ne_of_lt (lin [_] [] bi (.s aA ao) 1 [.i 1 aa aX] rfl h1)) ?_
 refine cF (decide_eq_false (by exact Nat.not_lt.mpr (cG [_] [_] ab aq 1 [.i 1 aa aX,.e 1 af aa] rfl h1 (Gl (h0))))) ?_
 refine cy (cA (wpAny_rule ?_));refine uF (fun c=>?_) fun c=>?_
 ·refine cy (cA (cW (f:=fun _=>Array.replicate n.toNat 0) eb (by rw[Array.size_replicate];exact cG [_] [_] ab aq 1 [.i 1 aa aX,.e 1 af aa] rfl h1 (Gl (lin [_] [] an aa 1 [.i 1 bt aa] rfl c))) ?_))
  have a3:=fJ (fun _=>Array.replicate n.toNat 0) eb;refine wpN_pure (hQ _ ?_ ?_)
  ·rw[List.toArray_replicate];exact a3
  ·exact(Heap.SameBut.update _ _ _).trans (Heap.SameBut.update _ _ _)
 ·obtain rfl:n=0:=by exact Int.le_antisymm ((Int.not_lt.mp c)) (h0)
  exact wpN_pure (hQ _ eb (Heap.SameBut.update _ _ _))
theorem jU:typeLookup (.type "bytes") "__index__" = pure none:=by rw[GO,GH];kernel_rfl
theorem mz:typeLookup (.type "bytearray") "__index__" = pure none:=by rw[GO,GH];kernel_rfl
theorem qV{M:Model}{A:Around}{s:Shared}{id:String}{v:Value}{b:Array UInt8}{full:Bool}{Q:Option (Array UInt8)→Shared→Prop}
  (hv:iF s.heap v b) (h:Q (some b) s):wpAny M A (buffer? id v full) Q noE s:=by
 obtain⟨hh,g,d,tk,os⟩:=s;rcases hv with⟨t,rfl⟩|⟨a,rfl,ha⟩
 ·have T:Looks M hh (typeOf (.bytes b t)) (.type "bytes"):=Looks.of_pure rfl;have L1:=c6 T iQ;have L2:=c6 T iG;have L3:Looks M hh (slotIsOwn (.bytes b t) "__buffer__") true:=dL L1 (by decide +kernel) (by decide +kernel) (dZ T pS)
  have L4:Looks M hh (slotIsOwn (.bytes b t) "__release_buffer__") true:=jY L2;unfold buffer? ownRelease
  repeat lk
  exact h
 ·have T:Looks M hh (typeOf (.ref a)) (.type "bytearray"):=er ha rfl;have L1:=c6 T gS.lookup;have L2:=c6 T f8;have L3:Looks M hh (slotIsOwn (.ref a) "__buffer__") true:=dL L1 (by decide +kernel) (by decide +kernel) (dZ T lC)
  have L4:Looks M hh (slotIsOwn (.ref a) "__release_buffer__") true:=dL L2 (by decide +kernel) (by decide +kernel) (dZ T lC)
  have ag:hh.get? a=some (eJ b):=ha;unfold buffer? ownRelease
  repeat lk
  exact h
theorem iF.keeps{h h':Heap}{v:Value}{b:Array UInt8}(x:iF h v b)(k:∀a o,v=.ref a→h.get? a=some o→h'.get? a=some o):iF h' v b:=by
 rcases x with x|⟨a,rfl,ha⟩
 ·exact .inl x
 ·exact .inr ⟨a,rfl,k a _ rfl ha⟩
theorem iF.index{M:Model}{h:Heap}{v:Value}{b:Array UInt8}(x:iF h v b):Looks M h (specialOf v "__index__") none:=by
 rcases x with⟨t,rfl⟩|⟨a,rfl,ha⟩
 ·exact c6 (Looks.of_pure rfl) jU
 ·exact c6 (er ha rfl) mz
theorem iF.noStr{M:Model}{h:Heap}{v:Value}{b:Array UInt8}(x:iF h v b):Looks M h (asStr? v) none:=by
 rcases x with⟨t,rfl⟩|⟨a,rfl,ha⟩
 ·exact Looks.of_pure rfl
 ·exact(Looks.ld (part:=none) ha).andThen .now
theorem sA{a:Addr}{v:Value}{b:Array UInt8}{Q:Flow→Shared→Prop}(hg:A.guards=some [])(ha:s.heap.get? a=some (eJ #[]))(hv:iF s.heap v b)(bb:v≠.ref a)(hz:b.size≤sizeLine)
  (hQ:∀h',h'.get? a=some (eJ b)→Heap.SameBut a s.heap h'→Q (.ret .none) {s with heap:=h'}) :
  wpN (model prog w) A (Builtin.«bytearray.__init__» ⟨[.ref a,v],[]⟩) (Bz (model prog w) A Q) s:=by
 have T:Looks (model prog w) s.heap (typeOf (.ref a)) (.type "bytearray"):=er ha rfl;have L4:Looks (model prog w) s.heap (slotIsOwn (.ref a) "__release_buffer__") true:=dL (c6 T f8) (by decide +kernel) (by decide +kernel) (dZ T lC)
 have R:Looks (model prog w) s.heap (ownRelease (.ref a)) false:=L4.andThen .now;unfold Builtin.«bytearray.__init__»;dsimp only;refine cH (R.here ?_);refine cF rfl ?_;rw[oB];refine cy (wpN_pure ?_);dsimp only;refine cy (wpN_pure (cy (wpN_pure ?_)));have EX:∀{Q':Bool→Shared→Prop},Q' false s→wpN (model prog w) A (exported (.ref a) <||> do return (←exportsOf (.ref a))>0) Q' s:=fun hq=>by
  refine(?_:wpN _ _ (exported (.ref a)>>=_) _ _);refine cy (lB hg ?_);refine(?_:wpN _ _ (exportsOf (.ref a)>>=fun x=>pure (decide (x>0))) _ _);refine cy ?_;refine cH (wpAny_load ha ?_);exact wpN_pure (wpN_pure hq)
 refine cy (EX ?_);refine cF rfl ?_;refine cy (cA (cW (f:=fun _=>#[]) ha (G1 _) ?_));have eb:=fJ (fun _=>#[]) ha;have ac:iF (s.heap.update a (Obj.mapBytearray fun _=>#[])) v b:=hv.keeps fun x o e hx=>(Heap.get?_update_other _ _ (fun q=>bb (e.trans (congrArg Value.ref q.symm)))).trans hx;refine cH (Looks.here (s:={s with heap:=s.heap.update a (Obj.mapBytearray fun _=>#[])}) ac.noStr ?_);refine cF rfl ?_;refine cy (cF rfl (cF rfl (wpN_pure ?_)));refine cH (Looks.here (s:={s with heap:=s.heap.update a (Obj.mapBytearray fun _=>#[])}) ac.index ?_);refine cF rfl ?_;refine cH (qV (s:={s with heap:=s.heap.update a (Obj.mapBytearray fun _=>#[])}) ac ?_);dsimp only;refine cy (cA (wpAny_rule ?_));refine cy (cA (cW (f:=fun _=>b) eb hz ?_));exact wpN_pure (hQ _ (fJ (fun _=>b) eb) ((Heap.SameBut.update _ _ _).trans (Heap.SameBut.update _ _ _)))
theorem qg{h h':Heap}{o:Obj}(hs:Heap.SameBut h.objs.size (h.push o) h'):∀b x,h.get? b=some x→h'.get? b=some x:=
 fun b x e=>(hs.2 b (Nat.ne_of_lt (GT e))).trans (Gy _ e)
theorem se{n:Int}{t:Tok}{Q:Value→Shared→Prop}(hg:A.guards=some [])(h0:0≤n)(h1:n≤16777216)
  (hQ:∀h',h'.get? s.heap.objs.size=some (eJ (List.replicate n.toNat 0).toArray)→Heap.SameBut s.heap.objs.size (s.heap.push (eJ #[])) h'→Q (.ref s.heap.objs.size) {s with heap:=h'}) :
  wpN (model prog w) A (_root_.PySem.call (.type "bytearray") [.int n t]) Q s:=by
 refine qS (Q₁:=fun obj s₁=>obj=.ref s.heap.objs.size∧s₁={s with heap:=s.heap.push (eJ #[])}) qO (my _) kX (by decide +kernel) (m8 _ ⟨rfl,rfl⟩) fun obj s₁ ag=>?_
 refine e0b ag fun b6 a3=>?_;clear ag;subst b6 a3;have hS:(s.heap.push (eJ #[])).get? s.heap.objs.size=some (eJ #[]):=GG _ rfl;refine⟨⟨_,hS,rfl⟩,lS _ _,?_⟩;refine cE (sy (A:=A.in1.in1) (s:={s with heap:=s.heap.push (eJ #[])}) hg hS h0 h1 (Q:=fun f ar=>f=.ret .none∧Q (.ref s.heap.objs.size) ar) fun h' e1 e2=>⟨rfl,hQ h' e1 e2⟩) fun fin s' hf=>?_
 cases fin with
 |done f=>exact hf
 |again c=>exact⟨hf.1,fun Γ p hc hB a5=>hf.2 Γ p hc (by exact⟨hB.1,hB.2.1,hB.2.2.1,hB.2.2.2.1,Nat.le_succ_of_le hB.2.2.2.2⟩) a5⟩
theorem sf{v:Value}{b:Array UInt8}{Q:Value→Shared→Prop}(hg:A.guards=some [])(hv:iF s.heap v b)(hz:b.size≤sizeLine)
  (hQ:∀h',h'.get? s.heap.objs.size=some (eJ b)→Heap.SameBut s.heap.objs.size (s.heap.push (eJ #[])) h'→Q (.ref s.heap.objs.size) {s with heap:=h'}) :
  wpN (model prog w) A (_root_.PySem.call (.type "bytearray") [v]) Q s:=by
 refine qS (Q₁:=fun obj s₁=>obj=.ref s.heap.objs.size∧s₁={s with heap:=s.heap.push (eJ #[])}) qO (my _) kX (by decide +kernel) (m8 _ ⟨rfl,rfl⟩) fun obj s₁ ag=>?_
 refine e0b ag fun b6 a3=>?_;clear ag;subst b6 a3;have hS:(s.heap.push (eJ #[])).get? s.heap.objs.size=some (eJ #[]):=GG _ rfl;have bb:v≠.ref s.heap.objs.size:=by
  rintro rfl
  rcases hv with⟨t,e⟩|⟨a,e,ha⟩
  ·cases e
  ·cases e;exact Nat.lt_irrefl _ (GT ha)
 refine⟨⟨_,hS,rfl⟩,lS _ _,?_⟩;refine cE (sA (A:=A.in1.in1) (s:={s with heap:=s.heap.push (eJ #[])}) hg hS (hv.keeps fun _ _ _ hx=>Gy _ hx) bb hz (Q:=fun f ar=>f=.ret .none∧Q (.ref s.heap.objs.size) ar) fun h' e1 e2=>⟨rfl,hQ h' e1 e2⟩) fun fin s' hf=>?_
 cases fin with
 |done f=>exact hf
 |again c=>exact⟨hf.1,fun Γ p hc hB a5=>hf.2 Γ p hc (by exact⟨hB.1,hB.2.1,hB.2.2.1,hB.2.2.2.1,Nat.le_succ_of_le hB.2.2.2.2⟩) a5⟩
end
end
section
open PySem PySem.W PySem.Calls PyProof.Rows Builtin
section
variable {prog:Program}{w:World}{A:Around}{E:Value→Shared→Prop}{s:Shared}{b:Array UInt8}{t:Tok}
theorem tX(b:Array UInt8)(t:Tok):Builtin.List.listLengthHint (.bytes b t)=pure false:=by
 unfold Builtin.List.listLengthHint;rw[show specialOf (.bytes b t) "__len__" = pure (some (.builtin "bytes.__len__"))from by
  refine(?_:(typeOf (.bytes b t)>>=fun ty=>typeLookup ty "__len__")=_);refine(?_:typeLookup (.type "bytes") "__len__" = _);rw[GO,GH];kernel_rfl]
 kernel_rfl
theorem qB(hh:A.handled=none)(S:Addr)(res:Value)(c₀:Nat)(hS:s.heap.get? S=some {cls:=.type "list",data:=.seq #[] c₀})(b7:b.size≤sizeLine){R:Result→Shared→Prop}
  (hR:∀s' acc c,(∀x o,x≠S→s.heap.get? x=some o→s'.heap.get? x=some o)→s'.gens=s.gens→s'.drawn=s.drawn→s'.os=s.os→s'.heap.get? S=some {cls:=.type "list",data:=.seq acc c}→
   ItemsOf (fun i v=>∃c u,b[i]?=some c∧v=.int (c.toNat:Int) u) acc b.size→R (.ok (.ret res)) s') :
  wpAny (model prog w) A.in1 (Builtin.List.listExtendWith (.ref S) (.bytes b t) res)
   (fun fin s'=>match fin with|.done f=>R (.ok f) s'|.again c'=>c'.quiet=true∧codeAny (model prog w) A c' R s') (fun e s'=>R (.error e) s') s:=by
 have a5:=GT hS;unfold Builtin.List.listExtendWith;rw[xu];refine Gn (Gq ?_);have h1:(Builtin.List.listSameRef (.ref S) (.bytes b t)||Value.type "bytes" == Value.type "list" || Value.type "bytes" == Value.type "tuple")=false:=by kernel_rfl
 rw[if_neg (by rw[h1];exact Bool.false_ne_true)]
 refine Gn (KBw.pyIter_bytes ?_);rw[tX];refine Gn (wpAny_holding (Gq ?_))
 show wpAny _ _ (ite _ _ _) _ _ _
 refine wpAny_ite_split (fun h=>absurd h (by decide +kernel)) fun _=>?_
 have a0:(s.heap.push {cls:=.type "bytes_iterator",data:=.fields #[.bytes b t, .int 0 0]}).get? S=_:=Gy _ hS;refine Gq ⟨plainId_quiet F.plain_extend_loop _,codeAny_extend_loopS (KBw.walks (A:=A.in1) hh s.heap.objs.size b t).toS b7 S ?_ _ b.size 0 _ _ _ rfl (G1 _) ⟨_,GG _ rfl,rfl,rfl⟩ a0 (ItemsOf.nil _) fun s' a3 c' hm ac aw=>?_⟩
 ·simp only[List.mem_singleton];exact Nat.ne_of_lt a5
 ·refine hR s' a3 c' (fun x o hx e=>hm.heap x o ?_ (Gy _ e)) hm.gens hm.drawn hm.os ac aw;simp only[List.mem_cons,List.not_mem_nil,or_false,not_or];exact⟨hx,Nat.ne_of_lt (GT e)⟩
open Builtin.Bytes Builtin.Struct
noncomputable def Dt:Format:=⟨true,false,[⟨'B',1,0,1⟩,⟨'B',1,1,1⟩,⟨'B',1,2,1⟩,⟨'B',1,3,1⟩],4,4⟩
theorem AW:parse #[62,66,66,66,66]=pure Dt:=by kernel_rfl
theorem Fa(ft:Tok):moduleFormat (.str ">BBBB" ft)=pure Dt:=by
 unfold moduleFormat;rw[show formatBytes (.str ">BBBB" ft)=pure #[62,66,66,66,66]by kernel_rfl]
 refine(?_:parse #[62,66,66,66,66]=_);exact AW
theorem qC:entryFor table "_struct.unpack" = some Builtin.«_struct.unpack»:=entryFor_of_tree (by kernel_rfl)
theorem qb:plainId "_struct.unpack" = true:=by decide +kernel
theorem EA(c:UInt8):natOf true #[c]=c.toNat:=by simp[natOf,Memoryview.littleEndian]
theorem pK(id:String)(b0 b1 b2 b3:UInt8):Struct.unpacked id Dt #[b0,b1,b2,b3] 0=(do
  let v0 ←mkInt (natOf true #[b0]:Int)
  let v1 ←mkInt (natOf true #[b1]:Int)
  let v2 ←mkInt (natOf true #[b2]:Int)
  let v3 ←mkInt (natOf true #[b3]:Int)
  newTuple [v0,v1,v2,v3]):=by kernel_rfl
theorem pL{ft:Tok}{b0 b1 b2 b3:UInt8}{Q:Value→Shared→Prop}
  (hQ:Q (.ref s.heap.objs.size) {s with heap:=s.heap.push {cls:=.type "tuple",data:=.seq #[.int (b0.toNat:Int) s.toks, .int (b1.toNat:Int) (s.toks+1), .int (b2.toNat:Int) (s.toks+1+1), .int (b3.toNat:Int) (s.toks+1+1+1)]},toks:=s.toks+1+1+1+1}) :
  wpAny (model prog w) A (call (.builtin "_struct.unpack") [.str ">BBBB" ft, .bytes #[b0,b1,b2,b3] t]) Q E s:=by
 refine call_function_entry (by kernel_rfl) qb qC (by unfold argsOk;kernel_rfl) ?_
 unfold Builtin.«_struct.unpack»;refine Gn (wpAny_of_eq (a:=()) rfl ?_);refine Gn (wpAny_of_eq (a:=()) rfl ?_);refine(?_:wpAny _ _ (moduleFormat (.str ">BBBB" ft)>>=_) _ _ _);rw[Fa];refine Gn (Gq ?_);refine(?_:wpAny _ _ (unpackExact "_struct.unpack" (pure Dt) (.bytes #[b0,b1,b2,b3] t)) _ _ _);unfold unpackExact;refine Gn (jA (.inl ⟨t,rfl⟩) ?_);refine Gn (Gq ?_);refine(?_:wpAny _ _ (Struct.unpacked "_struct.unpack" Dt #[b0,b1,b2,b3] 0>>=_) _ _ _);refine Gn ?_;rw[pK,EA,EA,EA,EA]
 repeat lk
 exact⟨_,rfl,hQ⟩
end
end
section
open PySem PySem.W PySem.Calls PyProof.Rows Builtin
noncomputable def iA(s:Str):List UInt8:=(s.cps.toList.map Str.utf8Of).flatten
open Builtin._codecs in
theorem yI(x:Str)(t u:Tok) : «str.encode» ⟨[.str x t, .str "utf-8" u],[]⟩=(do ret (←encodeRoad "str.encode" (.str x t) x (Str.ofString "utf-8") none)):=by kernel_rfl
section
variable {prog:Program}{w:World}{A:Around}{E:Value→Shared→Prop}{s:Shared}
theorem tQ{β:Type}{n:Nat}{b b1:β}{f:Nat→β→Sem (ForInStep β)}{Q:β→Shared→Prop}(h1:n≠0→∀k R,R (.yield b1) s→wpAny (model prog w) A (f k b) R E s)(h2:∀k R,R (.done b1) s→wpAny (model prog w) A (f k b1) R E s)(h0:n=0→b=b1)(hQ:Q b1 s) :
  wpAny (model prog w) A (forIn [0:n] b f) Q E s:=by
 rw[Std.Legacy.Range.forIn_eq_forIn_range',show([0:n]:Std.Legacy.Range).size=n by simp[Std.Legacy.Range.size]]
 cases n with
 |zero=>rw[h0 rfl];exact Gq hQ
 |succ n=>cases n with
 |zero=>
  rw[List.range'_succ,List.forIn_cons];exact Gn (h1 (fun q=>nomatch q) _ _ (Gq hQ))
 |succ n=>
  rw[List.range'_succ,List.forIn_cons,List.range'_succ];refine Gn (h1 (fun q=>nomatch q) _ _ ?_)
  dsimp only;rw[List.forIn_cons];exact Gn (h2 _ _ (Gq hQ))
open Builtin._codecs in
theorem vK{x:Str}{v:Value}{Q:Array UInt8→Shared→Prop}(hs:∀c∈x.cps.toList,Str.isSurrogate c=false)(hl:(iA x).length≤65536)(hQ:Q (iA x).toArray s) :
  wpAny (model prog w) A (encodeNarrow "str.encode" utf8Codec none v x) Q E s:=by
 have e1:(Array.findIdx? utf8Codec.bad x.cps)=none:=Array.findIdx?_eq_none_iff.mpr fun c hc=>hs c (by simpa using hc)
 have e2:Array.foldl (fun acc y=>acc++(utf8Codec.bytesOf y).toArray) #[] x.cps=(iA x).toArray:=by
  rw[←Array.foldl_toList];unfold iA;have:∀(l:List Nat) (a:Array UInt8),l.foldl (fun acc y=>acc++(Str.utf8Of y).toArray) a=a++(l.map Str.utf8Of).flatten.toArray:=fun l=>by
   induction l with
   |nil=>intro a;simp
   |cons c l ih=>intro a;rw[List.foldl_cons,ih];simp
  rw[show utf8Codec.bytesOf=Str.utf8Of from rfl,this]
  simp
 have e3:(iA x).length≤sizeLine:=by rw[GJ];exact Gp hl (by decide)
 have hz:x.cps.size=x.length:=rfl;unfold encodeNarrow;refine Gn (tQ (b1:=(x.length,(iA x).toArray,{})) (fun hn k R hR=>?_) (fun k R hR=>?_) (fun q=>?_) (Gq hQ))
 ·dsimp only;rw[if_neg (by simp)]
  cases q:x.cps[0]? with
  |none=>exact absurd (Nat.le_zero.mp (Array.getElem?_eq_none_iff.mp q)) hn
  |some c=>
   dsimp only;rw[show utf8Codec.bad c=false from hs c (by have:=Array.mem_of_getElem? q;simpa using this)]
   rw[show x.cps.extract 0=x.cps by simp,e1]
   dsimp only[Option.getD_none];rw[Array.extract_size,e2,Nat.zero_add];exact Gq hR
 ·dsimp only;rw[if_neg (by rw[Gx];exact Nat.not_lt.mpr e3)]
  rw[show x.cps[x.length]?=none from Array.getElem?_eq_none (Gw _)]
  exact Gq hR
 ·have:iA x=[]:=by unfold iA;rw[show x.cps=#[]from Array.size_eq_zero_iff.mp q];rfl
  rw[this,q]
theorem sd{x:Str}{t u:Tok}{Q:Value→Shared→Prop}(hs:∀c∈x.cps.toList,Str.isSurrogate c=false)(hl:(iA x).length≤65536)(hQ:∀t' k,Q (.bytes (iA x).toArray t') {s with toks:=k}) :
  wpAny (model prog w) A (call (.builtin "str.encode") [.str x t, .str "utf-8" u]) Q E s:=by
 refine GY PySem.F.slot_str_encode (typeIs_str s x t) PySem.F.entry_str_encode ?_ (PySem.F.args_str_encode_2 _ _);rw[yI,encodeRoad_utf8];refine Gn (Gn (vK hs hl ?_));exact wpAny_mkBytes (Gq ⟨_,rfl,hQ _ _⟩) (by rw[Gx,GJ];exact Gp hl (by decide))
theorem Bh{x:Str}{t:Tok}{a:Addr}{Q:Value→Shared→Prop}(ha:s.heap.get? a=some {cls:=.type "tuple",data:=.seq #[.type "str"]})(hQ:∀k,Q (.bool true) {s with toks:=k}) :
  wpAny (model prog w) A (call (.builtin "isinstance") [.str x t, .ref a]) Q E s:=
 call_isinstance (isinstance_tuple (cs:=[.type "str"]) (vs:=[true]) ⟨Answers.of_true PySem.F.isi_meta_str PySem.F.sub_str_str,trivial⟩) ⟨typeIs_str s x t,ha,fun k=>hQ k⟩
theorem pz{b:Array UInt8}{t:Tok}{Q:List Value→Shared→Prop}(hh:A.handled=none)(b7:b.size≤sizeLine)
  (hQ:∀(s':Shared) (acc:Array Value),(∀x o,s.heap.get? x=some o→s'.heap.get? x=some o)→s'.gens=s.gens→s'.drawn=s.drawn→s'.os=s.os→ItemsOf (fun i v=>∃c u,b[i]?=some c∧v=.int (c.toNat:Int) u) acc b.size→Q acc.toList s') :
  wpAny (model prog w) A (collect (.bytes b t)) Q E s:=by
 unfold collect;refine Gn (wpAny_runValue (codeAny_builtin PySem.F.entry_proto_collect ?_));rw[Around.under_plainId PySem.F.plain_proto_collect _];refine Gn (wpAny_newObj_type ?_);refine Gq ⟨plainId_quiet PySem.F.plain_list_iadd _,codeAny_builtin PySem.F.entry_list_iadd ?_⟩;rw[Around.under_plainId PySem.F.plain_list_iadd _];refine(?_:wpAny _ A.in1 (Builtin.List.listExtendWith (.ref s.heap.objs.size) (.bytes b t) (.ref s.heap.objs.size)) _ _ _);have key:=qB (prog:=prog) (w:=w) (A:=A) (t:=t) (s:={s with heap:=s.heap.push {cls:=.type "list",data:=.seq ([]:List Value).toArray}})
  (R:=fun(q:Result) (s':Shared)=>∃acc c,q=.ok (.ret (.ref s.heap.objs.size))∧s'.heap.get? s.heap.objs.size=some {cls:=.type "list",data:=.seq acc c}∧Q acc.toList s')
  hh s.heap.objs.size (.ref s.heap.objs.size) 0 (GG _ rfl) b7 (fun s' acc c hk e1 e2 e3 hS hi=>⟨acc,c,rfl,hS,hQ s' acc (fun x o e=>hk x o (Nat.ne_of_lt (GT e)) (Gy _ e)) e1 e2 e3 hi⟩)
 refine wpAny_mono key (fun fin s' x=>?_) fun e s' x=>e2c x fun _ _ q _ _=>nomatch q
 cases fin with
 |done f=>
  refine e2c x fun acc c e hS hq=>?_
  cases e
  exact Gn (wpAny_load hS (Gq hq))
 |again c₁=>
  refine⟨x.1,codeAny_mono x.2 fun q ar y=>e2c y fun acc c e hS hq=>?_⟩;subst e;exact Gn (wpAny_load hS (Gq hq))
theorem oQ(b:Array UInt8)(t:Tok)(b7:b.size≤sizeLine) :
  Meets (Builtin.«tuple.__new__» ⟨[.type "tuple", .bytes b t],[]⟩)
   (fun A R s=>A.handled=none∧∀(s':Shared) (acc:Array Value),(∀b o,s.heap.get? b=some o→s'.heap.get? b=some o)→s'.gens=s.gens→s'.drawn=s.drawn→s'.os=s.os→ItemsOf (fun i v=>∃c u,b[i]?=some c∧v=.int (c.toNat:Int) u) acc b.size→
    R (.ok (.ret (.ref s'.heap.objs.size))) {s' with heap:=s'.heap.push {cls:=.type "tuple",data:=.seq acc}}):=
 .of_wp fun prog w A R s h=>by
  obtain⟨hh,h⟩:=h;have a0:=sub_tuple_self;have a3:=init_tuple_lookup;have hmh:=madeHere_tuple;have hT:s.TypeIs (.bytes b t) "bytes":=rfl
  wp_walk using wpAny_typeOf hT,pz (A:=A.in1) (t:=t) hh b7
  intro s' acc hk hg hd b5 aw
  show wpAny _ _ (Builtin.Tuple.tupleExact acc.toList.toArray>>=fun v=>ret v) _ _ _
  refine Gn (wpAny_newObj_type ?_ (show acc.toList.toArray.size≤sizeLine by simp only[Array.toArray_toList];rw[aw.1];exact b7))
  refine Gq ⟨_,rfl,?_⟩;rw[Array.toArray_toList];exact h s' acc hk hg hd b5 aw
theorem l6{b:Array UInt8}{t:Tok}{Q:Value→Shared→Prop}(hh:A.handled=none)(b7:b.size≤sizeLine)
  (h:∀(s':Shared) (acc:Array Value),(∀x o,s.heap.get? x=some o→s'.heap.get? x=some o)→s'.gens=s.gens→s'.drawn=s.drawn→s'.os=s.os→ItemsOf (fun i v=>∃c u,b[i]?=some c∧v=.int (c.toNat:Int) u) acc b.size→
   Q (.ref s'.heap.objs.size) {s' with heap:=s'.heap.push {cls:=.type "tuple",data:=.seq acc}}):wpAny (model prog w) A (call (.type "tuple") [.bytes b t]) Q E s:=
 callType_new PySem.F.called_tuple (by decide) (PySem.F.typeCall_tuple_1 _) (PySem.F.newCall_tuple_1 _) (fun obj=>PySem.F.args_object_init_2 obj _) PySem.F.entry_tuple_new
  (oQ b t b7) ⟨hh,fun s' acc hk hg hd b5 aw=>⟨⟨_,GG _ rfl,rfl⟩,h s' acc hk hg hd b5 aw⟩⟩
end
end
section
noncomputable def ltL:List Int→List Int→Bool
 |_,[]=>false
 |[],_::_=>true
 |a::i,b::j=>decide (a<b)||decide (a=b)&&ltL i j
noncomputable def zR(q:Bool)(i j:List Int):Bool:=if q then !ltL j i else ltL i j
noncomputable def opQ(q:Bool):CmpOp:=if q then .LtE else .Lt
noncomputable def Er(op:CmpOp)(a b:Addr):Sem PySem.Fin:=do
 if !(←isInstance (.ref b) (.type "tuple"))then return ←ret .notImplemented
 let xs ←Builtin.Tuple.tupleItemsOf (.ref a)
 let ys ←Builtin.Tuple.tupleItemsOf (.ref b)
 for (x,y) in xs.toList.zip ys.toList do
  if !(←eqBool x y)then
   rule "tuple.compare.by-the-first-pair-that-differs"; return ←ret (←richCompare op x y)
 ret (Builtin.Tuple.tupleCompareSizes op xs.size ys.size)
theorem zu(a b:Addr):Builtin.«tuple.__lt__» ⟨[.ref a, .ref b],[]⟩=Er .Lt a b:=rfl
theorem Ct(a b:Addr):Builtin.«tuple.__le__» ⟨[.ref a, .ref b],[]⟩=Er .LtE a b:=rfl
noncomputable def goL:List Int→List Int→Option Bool
 |a::i,b::j=>if a=b then goL i j else some (decide (a<b))
 |_,_=>none
theorem r5(q:Bool):∀i j:List Int,(goL i j).getD (if q then decide (i.length≤j.length)else decide (i.length<j.length))=zR q i j
 |[],[]=>by cases q<;>rfl
 |[],b::j=>by cases q<;>rfl
 |a::i,[]=>by cases q<;>rfl
 |a::i,b::j=>by
  have ih:=r5 q i j;unfold goL zR ltL;by_cases h:a=b
  ·subst h;rw[if_pos rfl];unfold zR at ih
   cases q<;>simpa using ih
  ·rw[if_neg h];have h2:¬b=a:=fun e=>h e.symm;by_cases h3:a<b
   ·have h4:¬b<a:=by omega
    cases q<;>simp[h,h2,h3,h4]
   ·have h4:b<a:=by omega
    cases q<;>simp[h,h2,h3,h4]
section
variable {prog:Program}{w:World}{A:Around}{E:Value→Shared→Prop}{s:Shared}
theorem wk(q:Bool){a b:Int}{t u:Tok}{Q:Value→Shared→Prop}(bb:¬a=b)(h:Q (.bool (decide (a<b))) s):wpAny (model prog w) A (richCompare (opQ q) (.int a t) (.int b u)) Q E s:=by
 cases q with
 |false=>exact PySem.P.lt_int h
 |true=>exact PySem.P.le_int (by rw[show decide (a≤b)=decide (a<b)from decide_eq_decide.mpr ⟨fun z=>Int.lt_iff_le_and_ne.mpr ⟨z,bb⟩,Int.le_of_lt⟩];exact h)
theorem xv{op:CmpOp}{q:Bool}(ho:op=opQ q){R:Option PySem.Fin×Unit→Shared→Prop}:∀{i j:List Int} {vs us:List Value},IntsAre vs i→IntsAre us j→(∀o,goL i j=o→R (o.map fun c=>.done (.ret (.bool c)),()) s)→
  wpAny (model prog w) A (forIn (vs.zip us) (none,()) fun x __s=>match x with
   |(x,y)=>do
    let __do_lift ←eqBool x y
    if(!__do_lift)=true then do
     rule "tuple.compare.by-the-first-pair-that-differs"
     let __do_lift ←richCompare op x y
     let __do_lift ←ret __do_lift
     pure (ForInStep.done (some __do_lift,()))
    else pure (ForInStep.yield (none,()))) R E s:=by
 intro i
 induction i with
 |nil=>
  intro j vs us hi hj h
  cases hi
  rw[List.zip_nil_left,List.forIn_nil];exact Gq (h none (by cases j<;>rfl))
 |cons a i ih=>
  intro j vs us hi hj h
  cases hi with
  |cons _ t hi=>cases hj with
   |nil=>
    rw[List.zip_nil_right,List.forIn_nil];exact Gq (h _ rfl)
   |cons b u hj=>
    rw[List.zip_cons_cons,List.forIn_cons];refine Gn (Gn (SeqAt.EqAt.int_int a t b u prog w _ _ ?_));by_cases e:a=b
    ·subst e;rw[show(a==a)=true from beq_self_eq_true a]
     refine Gq ?_;exact ih hi hj fun o q=>h o (by unfold goL;rw[if_pos rfl];exact q)
    ·rw[show(a==b)=false from beq_eq_false_iff_ne.mpr e]
     refine Gn (wpAny_rule ?_);subst ho;refine Gn (wk q e ?_);refine Gn (Gq (Gq (Gq ?_)));exact h (some (decide (a<b))) (by unfold goL;rw[if_neg e])
theorem rn{op:CmpOp}{q:Bool}(ho:op=opQ q){x y:Addr}{vs us:List Value}{n m:Nat}{i j:List Int}{P:PySem.Fin→Shared→Prop}(hx:s.heap.get? x=some {cls:=.type "tuple",data:=.seq vs.toArray n})(hy:s.heap.get? y=some {cls:=.type "tuple",data:=.seq us.toArray m})
  (hi:IntsAre vs i) (hj:IntsAre us j) (h:P (.done (.ret (.bool (zR q i j)))) s):wpAny (model prog w) A (Er op x y) P E s:=by
 unfold Er;refine Gn (wpAny_isInstance (show s.TypeIs (.ref y) "tuple" from⟨_,hy,rfl⟩) isSubtype_tuple_tuple ?_)
 refine Gn (wpAny_tupleItemsOf hx rfl ?_);refine Gn (wpAny_tupleItemsOf hy rfl ?_);refine Gn (xv ho hi hj fun o e=>?_);have k:=r5 q i j;rw[e]at k
 cases o with
 |some c=>exact Gq (by rw[show c=zR q i j from k];exact h)
 |none=>
  refine Gq ?_;rw[show Builtin.Tuple.tupleCompareSizes op vs.toArray.size us.toArray.size=.bool (zR q i j)from ?_]
  ·exact h
  ·rw[Gx,Gx,hi.length,hj.length,←k,ho]
   cases q<;>rfl
theorem uH(q:Bool){x y:Addr}{vs us:List Value}{n m:Nat}{i j:List Int}{Q:Value→Shared→Prop}(hu:A.units<cLine)(hx:s.heap.get? x=some {cls:=.type "tuple",data:=.seq vs.toArray n})(hy:s.heap.get? y=some {cls:=.type "tuple",data:=.seq us.toArray m})
  (hi:IntsAre vs i) (hj:IntsAre us j) (h:Q (.bool (zR q i j)) s):wpAny (model prog w) A (compareOp (opQ q) (.ref x) (.ref y)) Q E s:=by
 have hT:s.TypeIs (.ref x) "tuple":=⟨_,hx,rfl⟩;have a0:s.TypeIs (.ref y) "tuple":=⟨_,hy,rfl⟩
 cases q with
 |false=>
  refine wpAny_richCompare_same_room (op:=.Lt) hT a0 F.slot_tuple_lt (GY F.slot_tuple_lt hT F.entry_tuple_lt ?_ (F.args_tuple_lt_2 _ _)) hu;rw[zu];exact rn (q:=false) rfl hx hy hi hj ⟨_,rfl,nofun,h⟩
 |true=>
  refine wpAny_richCompare_same_room (op:=.LtE) hT a0 F.slot_tuple_le (GY F.slot_tuple_le hT F.entry_tuple_le ?_ (F.args_tuple_le_2 _ _)) hu;rw[Ct];exact rn (q:=true) rfl hx hy hi hj ⟨_,rfl,nofun,h⟩
theorem zJ{x y:Addr}{vs us:List Value}{n m:Nat}{i j:List Int}{Q:Bool→Shared→Prop}(o:Bool)(hu:A.units<cLine)(hx:s.heap.get? x=some {cls:=.type "tuple",data:=.seq vs.toArray n})(hy:s.heap.get? y=some {cls:=.type "tuple",data:=.seq us.toArray m})
  (hi:IntsAre vs i) (hj:IntsAre us j) (h:Q (ltL i j) s):wpAny (model prog w) A (oneLt' o (.ref x) (.ref y)) Q E s:=by
 have hT:s.TypeIs (.ref x) "tuple":=⟨_,hx,rfl⟩;rw[oneLt'_eq]
 cases o with
 |false=>
  exact Gn (uH false hu hx hy hi hj (wpAny_truthy_bool h))
 |true=>
  refine Gn (wpAny_cRoomFor hu ?_);refine Gn (wpAny_callSpecialIfBound?_slot hT F.slot_tuple_lt (GY F.slot_tuple_lt hT F.entry_tuple_lt ?_ (F.args_tuple_lt_2 _ _)));rw[zu];exact rn (q:=false) rfl hx hy hi hj ⟨_,rfl,wpAny_truthy_bool h⟩
end
end
section
structure Od(n:Nat)(lt:Nat→Nat→Bool):Prop where
 tot:∀i j,i<n→j<n→¬i=j→lt i j=false→lt j i=true
 tr:∀i j k,lt i j=true→lt j k=true→lt i k=true
structure PP(n:Nat)(p:Array Nat):Prop where
 sz:p.size=n
 pm:p.toList.Perm (List.range n)
noncomputable abbrev ix(p:Array Nat)(i:Nat):Nat:=p.getD i 0
def Up(lt:Nat→Nat→Bool)(p:Array Nat)(k:Nat):Prop:=∀i j,i<j→j<k→lt (ix p i) (ix p j)=true
def Dn(lt:Nat→Nat→Bool)(p:Array Nat)(k:Nat):Prop:=∀i j,i<j→j<k→lt (ix p j) (ix p i)=true
theorem ko{p:Array Nat}{i x:Nat}(h:p[i]?=some x):ix p i=x:=by
 have hi:i<p.size:=(Array.getElem?_eq_some_iff.mp h).1;have e:p.getD i 0=p[i]:=by simp[Array.getD,hi]
 exact e.trans (Array.getElem?_eq_some_iff.mp h).2
theorem yr{p q:Array Nat}{i j:Nat}(hi:i<p.size)(h:p[i]?=q[j]?):ix p i=ix q j:=by
 have e:p[i]?=some p[i]:=Array.getElem?_eq_getElem hi;exact(ko e).trans (ko (h▸e)).symm
section
variable {n:Nat}{lt:Nat→Nat→Bool}{cmp:Nat→Nat→(Bool→Shared→Prop)→Shared→Prop}{s:Shared}{p:Array Nat}
theorem PP.lo(h:PP n p){i:Nat}(hi:i<n):ix p i<n:=by
 have eh:i<p.size:=h.sz.symm▸hi;have e:p[i]?=some p[i]:=Array.getElem?_eq_getElem eh;rw[ko e];exact List.mem_range.mp (h.pm.mem_iff.mp (Array.getElem_mem_toList _))
theorem PP.ne(h:PP n p){i j:Nat}(hi:i<n)(hj:j<n)(bb:¬i=j):¬ix p i=ix p j:=fun e=>by
 have eh:i<p.size:=h.sz.symm▸hi;have a0:j<p.size:=h.sz.symm▸hj;have e1:p[i]?=some p[i]:=Array.getElem?_eq_getElem eh;have e2:p[j]?=some p[j]:=Array.getElem?_eq_getElem a0;rw[ko e1,ko e2]at e;have nd:p.toList.Nodup:=h.pm.nodup_iff.mpr List.nodup_range;rw[List.nodup_iff_pairwise_ne,List.pairwise_iff_getElem]at nd;rcases Nat.lt_or_gt_of_ne bb with q|q
 ·exact nd i j (by simpa using eh) (by simpa using a0) q (by simpa using e)
 ·exact nd j i (by simpa using a0) (by simpa using eh) q (by simpa using e.symm)
theorem PP.of(h:PP n p){q:Array Nat}(hq:q.Perm p):PP n q:=⟨hq.size_eq.trans h.sz,hq.toList.trans h.pm⟩
theorem Up.one:Up lt p 1:=fun i j h1 h2=>absurd (Nat.lt_of_lt_of_le h1 (Nat.le_of_lt_succ h2)) (Nat.not_lt_zero i)
theorem Dn.one:Dn lt p 1:=fun i j h1 h2=>absurd (Nat.lt_of_lt_of_le h1 (Nat.le_of_lt_succ h2)) (Nat.not_lt_zero i)
theorem Up.snoc(o:Od n lt){m:Nat}(h:Up lt p (m+1))(h1:lt (ix p m) (ix p (m+1))=true):Up lt p (m+2):=fun i j a0 hj=>by
 by_cases e:j=m+1
 ·subst e;by_cases e2:i=m
  ·subst e2;exact h1
  ·exact o.tr _ _ _ (h i m (by exact(Nat.lt_of_le_of_ne (cG [] [_,_] ab ae 1 [.j 1 bc be] rfl a0) e2)) (by exact cG [] [_] bc bc 1 [] rfl)) h1
 ·exact h i j a0 (by lia)
theorem Dn.snoc(o:Od n lt){m:Nat}(h:Dn lt p (m+1))(h1:lt (ix p (m+1)) (ix p m)=true):Dn lt p (m+2):=fun i j a0 hj=>by
 by_cases e:j=m+1
 ·subst e;by_cases e2:i=m
  ·subst e2;exact h1
  ·exact o.tr _ _ _ h1 (h i m (by exact(Nat.lt_of_le_of_ne (cG [] [_,_] ab ae 1 [.j 1 bc be] rfl a0) e2)) (by exact cG [] [_] bc bc 1 [] rfl))
 ·exact h i j a0 (by lia)
theorem w9(o:Od n lt)(hc:∀i j C,i<n→j<n→C (lt i j) s→cmp i j C s)(hp:PP n p){Q:Nat→Shared→Prop}:∀(f m:Nat),m+1+f=n→Up lt p (m+1)→
  (∀m',m≤m'→m'+1≤n→Up lt p (m'+1)→(m'+1<n→lt (ix p (m'+1)) (ix p m')=true)→Q (m'+1) s)→(kas_asc p f (m+1)).kasWp cmp Q s
 |0,m,hm,hu,h=>h m (Gw _) (by exact cG [] [_,_] bc ae 1 [.f 1 (.a bc ax) ae] rfl hm) hu fun q=>by lia
 |f+1,m,hm,hu,h=>by
  refine hc _ _ _ (hp.lo (by exact cG [] [_,_,_] cb ae 1 [.f 1 cg ae] rfl hm)) (hp.lo (by exact cG [] [_,_,_,_] bc ae 1 [.f 1 (.a bf bD) ae,.f 1 bc bf] rfl hm (Go (cG [] [_] ai bc 1 [] rfl)))) ?_
  show KasT.kasWp cmp (if lt (ix p (m+1)) (ix p (m+1-1))=true then _ else _) Q s
  rw[Nat.add_sub_cancel]
  cases e:lt (ix p (m+1)) (ix p m)with
  |true=>exact h m (Gw _) (by exact cG [] [_,_,_] bc ae 1 [.f 1 cg ae] rfl hm) hu fun _=>e
  |false=>exact w9 o hc hp f (m+1) (by lia) (hu.snoc o (o.tot _ _ (hp.lo (by exact cG [] [_,_,_] cb ae 1 [.f 1 cg ae] rfl hm)) (hp.lo (by exact cG [] [_,_,_] bc ae 1 [.f 1 cg ae] rfl hm)) (hp.ne (by exact cG [] [_,_,_] cb ae 1 [.f 1 cg ae] rfl hm) (by exact cG [] [_,_,_] bc ae 1 [.f 1 cg ae] rfl hm) (by lia)) e)) fun m' h1=>h m' (by exact cG [] [_,_] ab ae 1 [.j 1 bc ae] rfl h1)
theorem wI(o:Od n lt)(hc:∀i j C,i<n→j<n→C (lt i j) s→cmp i j C s)(hp:PP n p){Q:Array Nat×Nat×Nat→Shared→Prop}:∀(f m:Nat),m+1+f=n→Dn lt p (m+1)→
  (∀m',m≤m'→m'+1≤n→Dn lt p (m'+1)→Q (p,m'+1,0) s)→(kas_desc f p (m+1) 0).kasWp cmp Q s
 |0,m,hm,hu,h=>h m (Gw _) (by exact cG [] [_,_] bc ae 1 [.f 1 (.a bc ax) ae] rfl hm) hu
 |f+1,m,hm,hu,h=>by
  refine hc _ _ _ (hp.lo (by exact cG [] [_,_,_] cb ae 1 [.f 1 cg ae] rfl hm)) (hp.lo (by exact cG [] [_,_,_,_] bc ae 1 [.f 1 (.a bf bD) ae,.f 1 bc bf] rfl hm (Go (cG [] [_] ai bc 1 [] rfl)))) ?_
  show KasT.kasWp cmp (if lt (ix p (m+1)) (ix p (m+1-1))=true then _ else _) Q s
  rw[Nat.add_sub_cancel]
  cases e:lt (ix p (m+1)) (ix p m)with
  |true=>exact wI o hc hp f (m+1) (by lia) (hu.snoc o e) fun m' h1=>h m' (by exact cG [] [_,_] ab ae 1 [.j 1 bc ae] rfl h1)
  |false=>
   refine hc _ _ _ (hp.lo (by exact cG [] [_,_,_] bc ae 1 [.f 1 cg ae] rfl hm)) (hp.lo (by exact cG [] [_,_,_] cb ae 1 [.f 1 cg ae] rfl hm)) ?_
   show KasT.kasWp cmp (if lt (ix p (m+1-1)) (ix p (m+1))=true then _ else _) Q s
   rw[Nat.add_sub_cancel,o.tot _ _ (hp.lo (by exact cG [] [_,_,_] cb ae 1 [.f 1 cg ae] rfl hm)) (hp.lo (by exact cG [] [_,_,_] bc ae 1 [.f 1 cg ae] rfl hm)) (hp.ne (by exact cG [] [_,_,_] cb ae 1 [.f 1 cg ae] rfl hm) (by exact cG [] [_,_,_] bc ae 1 [.f 1 cg ae] rfl hm) (by lia)) e]
   exact h m (Gw _) (by exact cG [] [_,_,_] bc ae 1 [.f 1 cg ae] rfl hm) hu
theorem CX(hp:PP n p){m:Nat}(hm:m≤n)(h:Dn lt p m):Up lt (kas_rev p 0 m) m:=fun i j a0 hj=>by
 have g:∀i,i<m→ix (kas_rev p 0 m) i=ix p (m-1-i):=fun i hi=>by
  refine yr (by rw[kas_rev,mirror_size,hp.sz];exact Nat.lt_of_lt_of_le hi hm) ?_
  have:=getElem?_mirror_all (xs:=p) (i:=0) (j:=m) (by rw[hp.sz];exact hm) i
  rw[if_pos ⟨G1 _,hi⟩,Nat.zero_add]at this;exact this
 rw[g i (by exact cG [] [_,_,_] bc ae 1 [.j 1 bc aj,.j 1 bf ae] rfl a0 hj),g j hj]
 exact h _ _ (by exact cG [] [_,_,_,_,_] bc ae 1 [.j 1 bf au,.f 1 (.a ab au) aB,.f (-1) bz aB] rfl a0 (Go (cG [] [_,_,_] ab ae 1 [.j 1 bc aj,.f (-1) be aj] rfl hj (Go (cG [] [_,_,_] ai ab 1 [.j 1 be aj,.j 1 bf ab] rfl a0 hj)))) (Go (cG [] [_,_,_,_] ab ae 1 [.j 1 bc aj,.j 1 bf au,.f (-1) be au] rfl a0 hj (Go (cG [] [_,_,_] ai ab 1 [.j 1 be aj,.j 1 bf ab] rfl a0 hj))))) (by exact cG [] [_,_,_] bc ae 1 [.j 1 ab aj,.f 1 bf ae] rfl (Nat.sub_le _ _) (Go (cG [] [_,_,_] ai ab 1 [.j 1 be aj,.j 1 bf ab] rfl a0 hj)))
theorem yU(o:Od n lt)(hc:∀i j C,i<n→j<n→C (lt i j) s→cmp i j C s)(hp:PP n p)(h1:1≤n){Q:Nat×Array Nat→Shared→Prop}
  (h:∀m p',m+1≤n→PP n p'→Up lt p' (m+1)→Q (m+1,p') s):(kas_count n p).kasWp cmp Q s:=by
 unfold kas_count;rw[KasT.kasWp_bind];refine w9 o hc hp (n-1) 0 (by exact jl [] [_,_] (.a bj ab) ae [.f 1 bc ae] rfl (Go (h1))) Up.one fun m _ hm hu hd=>?_
 by_cases e:m+1=n
 ·rw[if_pos (beq_iff_eq.mpr e)];exact h m p hm hp hu
 ·rw[if_neg fun q=>e (beq_iff_eq.mp q)]
  cases m with
  |succ m=>
   rw[if_pos (by exact cG [] [_] (.a ai ai) cb 1 [] rfl)]
   refine hc _ _ _ (hp.lo (by exact cG [] [_,_] bj ab 1 [.j 1 (.a be ai) ab] rfl hm)) (hp.lo (by exact Gp (GF (Go (cG [] [_] ai cb 1 [] rfl))) hm)) ?_
   show KasT.kasWp cmp (if lt (ix p 0) (ix p (m+1))=true then _ else _) Q s
   rw[hu 0 (m+1) (by lia) (by exact cG [] [_] cb cb 1 [] rfl)]
   exact h (m+1) p hm hp hu
  |zero=>
   rw[if_neg (by lia)]
   unfold kas_descPart;rw[KasT.kasWp_bind];refine wI o hc hp (n-(1+1)) 1 (by lia) (Dn.one.snoc o (hd (by lia))) fun m' _ b5 hu'=>?_
   show KasT.kasWp cmp (kas_tail3 (m'+1) n p) Q s
   unfold kas_tail3;rw[KasT.kasWp_bind];have a5:PP n (kas_rev p 0 (m'+1)):=hp.of (mirror_perm _ _ _ _);exact w9 o hc a5 (n-(m'+1)) m' (by exact jl [] [_,_,_] (.a bc ae) aj [.f 1 (.a ae bc) aj] rfl (Go (b5))) (CX hp b5 hu') fun m'' _ a3 a0 _=>h m'' _ a3 a5 a0
theorem o6(o:Od n lt)(hc:∀i j C,i<n→j<n→C (lt i j) s→cmp i j C s)(hp:PP n p){k:Nat}(hk:k<n)(hu:Up lt p k){Q:Nat→Shared→Prop}
  (h:∀l,l≤k→(∀i,i<l→lt (ix p i) (ix p k)=true)→(∀i,l≤i→i<k→lt (ix p k) (ix p i)=true)→Q l s):∀(f l r:Nat),r-l≤f→l≤r→r≤k→
  (∀i,i<l→lt (ix p i) (ix p k)=true)→(∀i,r≤i→i<k→lt (ix p k) (ix p i)=true)→(kas_place p k f l r).kasWp cmp Q s
 |0,l,r,hf,h1,h2,hl,hr=>h l (by exact Gp h1 h2) hl fun i q=>hr i (by exact cG [] [_,_,_,_] ab ae 1 [.j 1 aj ax,.j 1 au ae,.f (-1) bG ab] rfl hf q (Go (h1)))
 |f+1,l,r,hf,h1,h2,hl,hr=>by
  unfold kas_place;by_cases e:l≥r
  ·rw[if_pos e];exact h l (by exact Gp h1 h2) hl fun i q=>hr i (by exact Gp e q)
  ·rw[if_neg e];have hm:(l+r) / 2<r∧l≤(l+r) / 2:=by omega
   generalize (l+r) / 2=m at hm;refine hc _ _ _ (hp.lo hk) (hp.lo (by exact cG [] [_,_,_,_] bc ae 1 [.j 1 bf ae,.j 1 au aj,.j 1 bc au] rfl hk h2 (Gz hm))) ?_
   show KasT.kasWp cmp (if lt (ix p k) (ix p m)=true then _ else _) Q s
   cases e2:lt (ix p k) (ix p m)with
   |true=>
    refine o6 o hc hp hk hu h f l m (by exact cG [] [_,_,_,_,_,_] ab ae 1 [.j 1 aj be,.j 1 bD aB,.f (-1) (.a aj aM) aB,.f 1 (.a ab aM) au] rfl hf (Gz hm) (Go (cG [] [_,_] ab ae 1 [.j 1 bc ae] rfl (Nat.not_le.mp e))) (Go ((Gu hm)))) hm.2 (by exact cG [] [_,_,_] ab ae 1 [.j 1 aj ae,.j 1 bc aj] rfl h2 (Gz hm)) hl fun i q1 q2=>?_
    by_cases e3:i=m
    ·subst e3;exact e2
    ·exact o.tr _ _ _ e2 (hu m i (by lia) q2)
   |false=>
    have e4:=o.tot _ _ (hp.lo hk) (hp.lo (by exact cG [] [_,_,_,_] bc ae 1 [.j 1 bf ae,.j 1 au aj,.j 1 bc au] rfl hk h2 (Gz hm))) (hp.ne hk (by exact cG [] [_,_,_,_] bc ae 1 [.j 1 bf ae,.j 1 au aj,.j 1 bc au] rfl hk h2 (Gz hm)) (by exact Nat.ne_of_gt (Gp (Gz hm) h2))) e2
    refine o6 o hc hp hk hu h f (m+1) r (by exact cG [] [_,_,_,_,_,_] ab ae 1 [.j 1 aj be,.j 1 au aB,.f (-1) bG aM,.f 1 (.a ab (.a aB ai)) aM] rfl hf (Gu hm) (Go (cG [] [_,_] ab ae 1 [.j 1 bc ae] rfl (Nat.not_le.mp e))) (Go ((Gz hm)))) (by exact(Gz hm)) h2 (fun i q1=>?_) hr
    by_cases e3:i=m
    ·subst e3;exact e4
    ·exact o.tr _ _ _ (hu i m (by exact(Nat.lt_of_le_of_ne (cG [] [_,_] ab ae 1 [.j 1 bc be] rfl q1) e3)) (by exact Gp (Gz hm) h2)) e4
theorem zX(o:Od n lt)(hc:∀i j C,i<n→j<n→C (lt i j) s→cmp i j C s){Q:Array Nat→Shared→Prop}(h:∀p',PP n p'→Up lt p' n→Q p' s):∀(f:Nat) (p:Array Nat) (k:Nat),k+f=n→PP n p→Up lt p k→
  (kas_bin f p k).kasWp cmp Q s
 |0,p,k,hk,hp,hu=>h p hp (by rw[←hk];exact hu)
 |f+1,p,k,hk,hp,hu=>by
  unfold kas_bin;rw[KasT.kasWp_bind];refine o6 o hc hp (by exact cG [] [_,_,_] bc ae 1 [.f 1 (.a ab bf) ae] rfl hk) hu (fun l hl h1 h2=>?_) k 0 k (by lia) (G1 _) (Gw _) (fun i q=>absurd q (Nat.not_lt_zero i)) fun i q1 q2=>by lia
  have a5:PP n (bubble p k (k-l)):=hp.of (bubble_perm _ _ _);have g:∀i,i≤k→ix (bubble p k (k-l)) i=if i=l then ix p k else if l<i then ix p (i-1)else ix p i:=fun i hi=>by
   have e:=getElem?_bubble (xs:=p) (src:=k) (by rw[hp.sz];exact cG [] [_,_,_] bc ae 1 [.f 1 (.a ab bf) ae] rfl hk) (k-l) (Nat.sub_le _ _) i
   have hz:i<(bubble p k (k-l)).size:=by rw[a5.sz];exact cG [] [_,_,_,_] bc ae 1 [.f 1 (.a aj bD) ae,.j 1 ab aj] rfl hk hi
   rw[Nat.sub_sub_self hl]at e;by_cases q:i=l
   ·rw[if_pos q]at e ⊢;exact yr hz e
   ·rw[if_neg q]at e ⊢;by_cases q2:l<i
    ·rw[if_pos ⟨q2,hi⟩]at e;rw[if_pos q2];exact yr hz e
    ·rw[if_neg fun z=>q2 z.1]at e;rw[if_neg q2];exact yr hz e
  refine zX o hc h f _ (k+1) (by lia) a5 fun i j a0 hj=>?_
  rw[g i (by exact cG [] [_,_,_] ab ae 1 [.j 1 bc aj,.j 1 bf be] rfl a0 hj),g j (by exact cG [] [_,_] ab ae 1 [.j 1 bc be] rfl hj)]
  by_cases a1:i=l
  ·rw[if_pos a1,if_neg (by exact Nat.ne_of_gt (cG [] [_,_,_] bc ae 1 [.j 1 bf ae,.f (-1) aj ab] rfl a0 a1)),if_pos (by exact cG [] [_,_,_] bc ae 1 [.j 1 bf ae,.f (-1) aj ab] rfl a0 a1)];exact h2 _ (by exact cG [] [_,_,_,_] ab ae 1 [.j 1 bf au,.f (-1) aj ab,.f (-1) be au] rfl a0 a1 (Go (cG [] [_,_,_] ai ab 1 [.j 1 be ab,.f (-1) ae aj] rfl a0 a1))) (by exact cG [] [_,_,_] bc ae 1 [.j 1 bf be,.f 1 bc aj] rfl hj (Go (cG [] [_,_,_] ai ab 1 [.j 1 be ab,.f (-1) ae aj] rfl a0 a1)))
  ·rw[if_neg a1];by_cases a2:l<i
   ·rw[if_pos a2,if_neg (by exact Nat.ne_of_gt (cG [] [_,_,_] bc ae 1 [.j 1 bf ae,.j 1 bc aj] rfl a0 a2)),if_pos (by exact cG [] [_,_,_] bc ae 1 [.j 1 bf ae,.j 1 bc aj] rfl a0 a2)];exact hu _ _ (by exact cG [] [_,_,_,_] bc ae 1 [.j 1 bf au,.f 1 bc aj,.f (-1) be au] rfl a0 (Go (cG [] [_,_] ai ab 1 [.j 1 be ab] rfl a2)) (Go (cG [] [_,_,_] ai ab 1 [.j 1 be ab,.j 1 bf ae] rfl a0 a2))) (by exact cG [] [_,_,_] bc ae 1 [.j 1 bf be,.f 1 bc aj] rfl hj (Go (cG [] [_,_,_] ai ab 1 [.j 1 be ab,.j 1 bf ae] rfl a0 a2)))
   ·rw[if_neg a2];by_cases a3:j=l
    ·rw[if_pos a3];exact h1 _ (by exact Gp a0 (GF a3))
    ·rw[if_neg a3];by_cases a4:l<j
     ·rw[if_pos a4];exact hu _ _ (by exact cG [] [_,_,_,_] bc ae 1 [.j 1 bf au,.f (-1) be au,.j 1 bc aj] rfl a4 (Go (cG [] [_,_] ai ab 1 [.j 1 be ab] rfl a4)) (Nat.lt_of_le_of_ne ((Nat.not_lt.mp a2)) a1)) (by exact cG [] [_,_,_] bc ae 1 [.j 1 bf be,.f 1 bc aj] rfl hj (Go (cG [] [_,_] ai ab 1 [.j 1 be ab] rfl a4)))
     ·rw[if_neg a4];exact hu _ _ a0 (by exact Gp (Nat.lt_of_le_of_ne ((Nat.not_lt.mp a4)) a3) hl)
theorem Av(o:Od n lt)(hc:∀i j C,i<n→j<n→C (lt i j) s→cmp i j C s)(h1:1≤n){Q:Array Nat→Shared→Prop}(h:∀p',PP n p'→Up lt p' n→Q p' s):(kas_sort n).kasWp cmp Q s:=by
 unfold kas_sort;rw[KasT.kasWp_bind];refine yU o hc ⟨by simp,by simp⟩ h1 fun m p' hm hp hu=>?_
 show KasT.kasWp cmp (if m+1<n then kas_bin (n-max (m+1) 1) p' (max (m+1) 1)else .ret p') Q s
 by_cases e:m+1<n
 ·rw[if_pos e,Nat.max_eq_left (Nat.le_add_left 1 m)];exact zX o hc h _ _ _ (by exact jl [] [_,_,_] (.a bc ae) aj [.f 1 (.a ae bc) aj] rfl (Go (cG [] [_,_] bc ae 1 [.j 1 cb ae] rfl e))) hp hu
 ·rw[if_neg e];exact h p' hp (by rw[show n=m+1 by exact(Nat.le_antisymm ((Nat.not_lt.mp e)) (hm))];exact hu)
end
end
section
def uv(h:Heap)(d:Addr)(es:Array DictEntry)(ep:Nat):Prop:=∃o,h.get? d=some o∧o.ExactDict∧o.data=.dict es ep
section
variable {prog:Program}{w:World}{A:Around}{E:Value→Shared→Prop}{s:Shared}{d it:Addr}{es:Array DictEntry}{ep i:Nat}
theorem uv.typ(h:uv s.heap d es ep):s.TypeIs (.ref d) "dict":=h.elim fun o x=>⟨o,x.1,x.2.1.1⟩
theorem uv.at_{h h':Heap}(x:uv h d es ep)(e:∀o,h.get? d=some o→h'.get? d=some o):uv h' d es ep:=x.elim fun o y=>⟨o,e _ y.1,y.2⟩
theorem uv.lt{h:Heap}(x:uv h d es ep):d<h.objs.size:=x.elim fun o y=>GT y.1
theorem yb{Q:Value→Shared→Prop}(hd:(d==sysModules)=false)(hm:uv s.heap d es ep)
  (hQ:Q (.ref s.heap.objs.size) {s with heap:=s.heap.push {cls:=.type "dict_keyiterator",data:=.fields #[.ref d, .int 0 0, .int es.size 0, .int ep 0]}}):wpAny (model prog w) A (pyIter (.ref d)) Q E s:=by
 refine e1c hm fun o ho hc a0=>?_;refine wpAny_pyIter_slot hm.typ F.slot_dict_iter (GY F.slot_dict_iter hm.typ F.entry_dict_iter ?_ (F.args_dict_iter_1 _));refine Gn (Gn (wpAny_notOrdered_dict hm.typ (Gq ?_)))
 show wpAny _ _ (Builtin.Dict.showsAll d>>=_) _ _ s
 unfold Builtin.Dict.showsAll;rw[hd];refine Gn (Gq ?_);refine Gn (wpAny_dictEntries ho a0 ?_);refine Gn (wpAny_dictEpoch ho a0 ?_);exact Gn (wpAny_newObj_type (Gq ⟨_,rfl,"dict_keyiterator",_,⟨_,GG _ rfl,rfl⟩,F.slot_dict_keyiterator_next.lookup,hQ⟩))
theorem AY(i:Nat):¬((i:Int)<0):=Int.not_lt.mpr (G4 i)
theorem sP{Q:Option Value→Shared→Prop}(hh:A.handled=none)(hit:s.heap.IsKeyIter it d i es.size ep)(hm:uv s.heap d es ep)
  (h1:∀e,es[i]?=some e→∀h',h'.IsKeyIter it d (i+1) es.size ep→Heap.SameBut it s.heap h'→Q (some e.key) {s with heap:=h'})
  (h2:es[i]?=none→∀h',Heap.ExtBut it s.heap h'→Q none {s with heap:=h'}):wpAny (model prog w) A (pyNext (.ref it)) Q E s:=by
 refine e1b hit fun o ho ah=>?_;refine e0b ah fun hc hd=>?_;refine e1c hm fun od b3 ah a3=>?_;refine Gn (wpAny_attempt (wpAny_callSpecial?_slot (name:=Str.ofString "__next__") hit.typeIs F.slot_dict_keyiterator_next
  (GY F.slot_dict_keyiterator_next hit.typeIs F.entry_dict_keyiterator_next ?_ (F.args_dict_keyiterator_next_1 _))))
 refine Gn (Gq ?_);refine Gn ?_;refine Gn ?_;refine Gn (wpAny_typeNameOfWhole_keyiter hit.typeIs (Gq ?_));refine Gn (wpAny_fieldsOf ho hd ?_);have a4:Builtin.Dict_items.ownsTuple "dict_keyiterator" = false:=by decide
 rw[a4];refine Gn (Gq ?_);refine Gn (wpAny_dictEntries b3 a3 ?_);rw[if_neg (by simp)]
 refine Gn (Gq ?_);refine Gn (wpAny_dictEpoch b3 a3 ?_);rw[if_neg (by simp)]
 refine Gq ?_;simp only[AY i,if_false,Int.toNat_natCast]
 cases q:es[i]? with
 |some e=>
  refine Gn (Gn (wpAny_typeNameOfWhole_keyiter hit.typeIs (Gq ?_)));refine Gn (wpAny_isOneOf_keyiter hit.typeIs ?_)
  show wpAny _ _ (setField (.ref it) 1 (rawInt ((i:Int)+1))>>=_) _ _ s
  refine Gn (wpAny_setField ho hd (by simp) ?_)
  have a0:(s.heap.update it (Obj.mapFields (·.setIfInBounds 1 (rawInt ((i:Int)+1))))).IsKeyIter it d (i+1) es.size ep:=
   ⟨_,Heap.get?_update_self _ ho (Obj.isFreed_of_fields (Obj.data_mapFields hd _)),(Obj.cls_mapFields ..).trans hc,by rw[Obj.data_mapFields hd];rfl⟩
  refine Gn (wpAny_holding ?_);refine Gn (wpAny_isOneOf_keyiter (s:={s with heap:=s.heap.update it (Obj.mapFields (·.setIfInBounds 1 (rawInt ((i:Int)+1))))}) a0.typeIs ?_);exact Gq (Gq ⟨_,rfl,Gq (h1 e q _ a0 (Heap.SameBut.update ..))⟩)
 |none=>
  refine Gn (Gn (wpAny_typeNameOfWhole_keyiter hit.typeIs (Gq ?_)))
  show wpAny _ _ (setField (.ref it) 0 .none>>=_) _ _ s
  refine Gn (wpAny_setField ho hd (by simp) ?_)
  show wpAny _ _ (newExc (.type "StopIteration") []>>=_) _ _ _
  refine Gn (Gn (wpAny_newObj_type ?_ (by size_fits)))
  refine Gn (m:=firstArgMember _ _) (wpAny_of_eq (a:=Value.none) rfl ?_);refine wpAny_newObj_type (Gn (wpAny_handled ?_)) (by size_fits)
  rw[show A.in1.handled=none from hh]
  refine Gn (Gq (wpAny_throw ?_));refine Gn (wpAny_isInstance (T:="StopIteration") (b:=true) ⟨_,GG _ rfl,rfl⟩ isSubtype_stop ?_);exact Gq (h2 q _ (((Heap.SameBut.update ..).extBut.push _).push _))
theorem vm(hh:A.handled=none)(bb:d≠it):Walks prog w A it [it,d] [it] es.size (fun i v=>∃e,es[i]?=some e∧v=e.key) (fun i h=>h.IsKeyIter it d i es.size ep∧uv h d es ep) where
 sub:=fun b hb=>by simp at hb;simp[hb]
 frame:=fun _ _ _ st hk=>⟨st.1.at fun o e=>hk it (by simp) o e,st.2.at_ fun o e=>hk d (by simp) o e⟩
 item:=fun i s Q E hi st hQ=>sP hh st.1 st.2 (fun e he h' a0 ah=>hQ e.key h' s.toks ⟨e,he,rfl⟩ ⟨a0,st.2.at_ fun o eo=>ah.extBut d o bb eo⟩ fun b o hb e=>ah.extBut b o (fun h=>hb (by simp[h])) e)
  fun he=>absurd he (by simp[hi])
 done:=fun s Q E st hQ=>sP hh st.1 st.2 (fun e he=>by simp at he) fun _ h' he'=>hQ h' s.toks fun b o hb e=>he' b o (fun h=>hb (by simp[h])) e
 self:=fun _ _ _ _ st hQ=>wpAny_pyIter_keyiter st.1 hQ
theorem AP(lo:(d==sysModules)=false):KdlSrc prog w "dict" d d es.size (fun i v=>∃e,es[i]?=some e∧v=e.key) (fun h=>uv h d es ep) where
 type:=fun _ hm=>hm.typ
 there:=fun _ hm=>⟨hm.lt,hm.lt⟩
 keep:=fun _ _ hm hk=>hm.at_ fun o e=>hk d (.inl rfl) o e
 notList:=by decide
 notTuple:=by decide
 hint:=fun _ _ _ _ hm hq=>kdl_hint_dict hm.typ hq
 iter:=fun _ _ hh hm=>⟨_,_,(fun _ _ hq=>yb lo hm hq),vm hh (Nat.ne_of_lt hm.lt),⟨⟨_,GG _ rfl,rfl,rfl⟩,hm.at_ fun o e=>Gy _ e⟩⟩
end
end
section
def B9(h:Heap)(t:Bool)(k:List Int)(v:Value):Prop:=match t with
 |true=>∃a vs n,v=.ref a∧h.get? a=some {cls:=.type "tuple",data:=.seq vs.toArray n}∧IntsAre vs k
 |false=>∃i u,v=.int i u∧k=[i]
def fZ(h:Heap)(t:Bool):List (List Int)→List Value→Prop
 |[],vs=>vs=[]
 |k::ks,vs=>∃v r,vs=v::r∧B9 h t k v∧fZ h t ks r
theorem B9.to{h h':Heap}{D:Addr}{vs:Array Value}{n:Nat}(hD:h.get? D=some (seqObj "list" vs n))(hk:∀b o,b≠D→h.get? b=some o→h'.get? b=some o){t:Bool}{k:List Int}{v:Value}(x:B9 h t k v):B9 h' t k v:=by
 cases t with
 |true=>
  refine e3c x fun a us m e ha hi=>⟨a,us,m,e,hk _ _ (fun q=>?_) ha,hi⟩;rw[q,hD]at ha;exact absurd (congrArg Obj.cls (Option.some.inj ha)) (show ¬Value.type "list" = Value.type "tuple" by decide)
 |false=>exact x
theorem fZ.to{h h':Heap}{D:Addr}{us:Array Value}{n:Nat}(hD:h.get? D=some (seqObj "list" us n))(hk:∀b o,b≠D→h.get? b=some o→h'.get? b=some o){t:Bool}:∀{ks:List (List Int)} {vs:List Value},fZ h t ks vs→fZ h' t ks vs
 |[],_,x=>x
 |k::ks,_,x=>e2c x fun v r e a b=>⟨v,r,e,a.to hD hk,fZ.to hD hk b⟩
theorem fZ.keep{h h':Heap}(hk:∀b o,h.get? b=some o→h'.get? b=some o){t:Bool}:∀{ks:List (List Int)} {vs:List Value},fZ h t ks vs→fZ h' t ks vs
 |[],_,x=>x
 |k::ks,_,x=>e2c x fun v r e a b=>⟨v,r,e,by cases t with|true=>exact e3c a fun y us m e ha hi=>⟨y,us,m,e,hk _ _ ha,hi⟩|false=>exact a,fZ.keep hk b⟩
theorem fZ.len{h:Heap}{t:Bool}:∀{ks:List (List Int)} {vs:List Value},fZ h t ks vs→vs.length=ks.length
 |[],_,x=>by rw[show _=[]from x];rfl
 |k::ks,_,x=>e2c x fun v r e a b=>by rw[e,GR,GR,fZ.len b]
theorem fZ.at_{h:Heap}{t:Bool}:∀{ks:List (List Int)} {vs:List Value},fZ h t ks vs→∀i,i<ks.length→B9 h t (ks.getD i []) (vs.getD i .none)
 |[],_,x,i,hi=>absurd hi (Nat.not_lt_zero i)
 |k::ks,_,x,i,hi=>e2c x fun v r e a b=>by
  subst e
  cases i with
  |zero=>exact a
  |succ i=>exact fZ.at_ b i (Nat.lt_of_succ_lt_succ hi)
def EI(ks r:List (List Int))(vs out:List Value):Prop:=∃l:List Nat,(∀i∈l,i<ks.length)∧r=l.map (fun i=>ks.getD i [])∧out=l.map fun i=>vs.getD i .none
theorem lv{α:Type}(d:α)(l:List α):l=(List.range l.length).map fun i=>l.getD i d:=List.ext_getElem (by simp) fun i h1 h2=>by simp[h1]
theorem fZ.ints{h:Heap}:∀{ks:List (List Int)} {vs:List Value},fZ h false ks vs→∃ns,IntsAre vs ns
 |[],_,x=>⟨[],by rw[show _=[]from x];exact .nil⟩
 |k::ks,_,x=>e2c x fun v r e a b=>e2b a fun i u e2 _=>(fZ.ints b).elim fun ns hn=>⟨i::ns,by rw[e,e2];exact .cons _ _ hn⟩
def KOK(t:Bool)(κ:SortKind):Prop:=κ=oneType'∨t=true∧(κ=general'∨∃b,κ=tuples' b)
section
variable {prog:Program}{w:World}{A:Around}{E:Value→Shared→Prop}{s:Shared}{ks:List (List Int)}{vs:List Value}
theorem yq{us vs:List Value}{i j:List Int}{fin c:Bool}{m:Nat}{Q:Bool→Shared→Prop}(hi:IntsAre us i)(hj:IntsAre vs j)(h:∀o,goL i j=o→Q (o.getD fin) s):KatLex prog w A c fin Q (us.zip vs) m s:=by
 induction hi generalizing vs j m with
 |nil=>exact kat_nil (h _ rfl)
 |cons a t hi ih=>
  cases hj with
  |nil=>exact kat_nil (h _ rfl)
  |cons b u hj=>
   refine kat_cons (SeqAt.EqAt.int_int a t b u prog w _ _ ?_);by_cases e:a=b
   ·subst e;rw[show(a==a)=true from beq_self_eq_true a]
    exact kat_yes (ih hj fun o q=>h o (by unfold goL;rw[if_pos rfl];exact q))
   ·rw[show(a==b)=false from beq_eq_false_iff_ne.mpr e]
    refine kat_no ?_;have key:Q (decide (a<b)) s:=h (some (decide (a<b))) (by unfold goL;rw[if_neg e])
    cases q:(c&&m==0)with
    |true=>exact oneLt_int key
    |false=>exact kat_one _ _ (wk false e key)
theorem Bc{t:Bool}{κ:SortKind}{k k':List Int}{v v':Value}{Q:Bool→Shared→Prop}(hu:A.units<cLine)(a5:KOK t κ)(x:B9 s.heap t k v)(y:B9 s.heap t k' v')(h:Q (ltL k k') s):wpAny (model prog w) A (keyLt' κ v v') Q E s:=by
 cases t with
 |false=>
  refine e2b x fun i t e1 e2=>e2b y fun j u e3 e4=>?_;subst e1 e2 e3 e4;rcases a5 with rfl|⟨q,_⟩
  ·refine oneLt_int ?_;have:ltL [i] [j]=decide (i<j):=by unfold ltL ltL;simp
   rw[←this];exact h
  ·exact absurd q Bool.false_ne_true
 |true=>
  refine e3c x fun a us n e1 ha hi=>e3c y fun b vs m e2 hb hj=>?_;subst e1 e2;rcases a5 with rfl|⟨_,rfl|⟨c,rfl⟩⟩
  ·exact zJ true hu ha hb hi hj h
  ·exact zJ false hu ha hb hi hj h
  ·refine kat_lt ha rfl hb rfl (yq hi hj fun o e=>?_);have:=r5 false k k';rw[e]at this;rw[Gx,Gx,hi.length,hj.length];rw[show o.getD (decide (k.length<k'.length))=ltL k k' from this]
   exact h
theorem wB(hM:fZ s.heap true ks vs){Q:List (Option Value)→Shared→Prop}(h:∀r,(∀v,some v∈r→∃i t,v=Value.int i t)→Q r s):wpAny (model prog w) A (vs.mapM firstOfTuple') Q E s:=by
 induction ks generalizing vs Q with
 |nil=>
  rw[show vs=[]from hM,List.mapM_nil]
  exact Gq (h [] fun v hv=>nomatch hv)
 |cons k ks ih=>
  refine e2c hM fun v r e a b=>?_;refine e3c a fun x us n e1 hx hi=>?_;subst e e1;rw[List.mapM_cons];refine Gn ?_;rw[kas_first_eq];refine Gn (wpAny_typeOf (T:="tuple") ⟨_,hx,rfl⟩ ?_);refine Gn (listItems_at hx rfl (Gq ?_));refine Gn (ih b fun r hr=>Gq (h _ fun v hv=>?_));rcases List.mem_cons.mp hv with q|q
  ·cases hi with
   |nil=>exact absurd q (by simp)
   |cons j t _=>exact⟨j,t,by simpa using q⟩
  ·exact hr v q
theorem sT{T:Value}{vs:Array Value}(hv:∀v∈vs,∀Q':Value→Shared→Prop,Q' T s→wpAny (model prog w) A (typeOf v) Q' E s){Q:Option Value→Shared→Prop}(h:∀o,Q o s):wpAny (model prog w) A (oneTypeOnly' vs) Q E s:=by
 rw[oneTypeOnly'_eq,←Array.toArray_toList (xs:=vs),List.mapM_toArray,map_eq_pure_bind];refine Gn (Gn (kas_mapM (r:=T) _ (fun v m Q' hq=>hv v (by simpa using m) Q' hq) (Gq ?_)))
 split
 ·exact Gq (h _)
 ·exact Gq (h _)
theorem Ba{t:Bool}(hM:fZ s.heap t ks vs)(h2:2≤vs.length){Q:SortKind→Shared→Prop}(h:∀κ,KOK t κ→Q κ s):wpAny (model prog w) A (keyKind' vs.toArray) Q E s:=by
 cases t with
 |false=>
  refine(fZ.ints hM).elim fun ns hn=>?_;refine e3a (zt h2) fun a b r e=>?_;subst e;rw[keyKind_ints hn];exact Gq (h _ (.inl rfl))
 |true=>
  rw[kat_kind_eq,List.mapM_toArray,map_eq_pure_bind];refine Gn (Gn (wB hM fun r hr=>Gq ?_));by_cases q:(r.toArray.all (·.isSome))=true
  ·rw[if_pos q];refine Gn (wpAny_rule (Gn (sT (T:=.type "int") (fun v hv Q' hq=>?_) fun o=>Gq (h _ (.inr ⟨rfl, .inr ⟨_,rfl⟩⟩)))));obtain⟨i,t,rfl⟩:=hr v (by simpa using hv)
   exact Gq hq
  ·rw[if_neg q];by_cases q2:(r.toArray[0]?.bind id).isSome=true
   ·rw[if_pos q2];exact Gq (h _ (.inr ⟨rfl, .inl rfl⟩))
   ·rw[if_neg q2];refine Gn (sT (T:=.type "tuple") (fun v hv Q' hq=>?_) fun o=>Gq ?_)
    ·obtain⟨i,hi,e⟩:=List.getElem_of_mem (show v∈vs by simpa using hv)
     have:=hM.at_ i (by rw[←hM.len];exact hi)
     rw[show vs.getD i .none=v by rw[←e];simp[hi]]at this
     refine e3c this fun a us n e1 hx _=>?_;rw[e1];exact wpAny_typeOf (T:="tuple") ⟨_,hx,rfl⟩ hq
    ·cases o.isSome with
     |true=>exact h _ (.inl rfl)
     |false=>exact h _ (.inr ⟨rfl, .inl rfl⟩)
theorem vO:∀i j:List Int,¬i=j→ltL i j=false→ltL j i=true
 |[],[],h,_=>absurd rfl h
 |[],b::j,_,q=>absurd q (by simp[ltL])
 |a::i,[],_,_=>rfl
 |a::i,b::j,h,q=>by
  unfold ltL at q ⊢;by_cases e:a=b
  ·subst e;have:=vO i j (fun z=>h (by rw[z])) (by simpa using q)
   simp[this]
  ·have:b<a:=by
    have:¬a<b:=fun z=>by simp[z]at q
    omega
   simp[this]
theorem sW:∀i j k:List Int,ltL i j=true→ltL j k=true→ltL i k=true
 |_,_,[],_,h=>by cases ‹List Int›<;>exact ft h
 |[],_,c::k,_,_=>rfl
 |a::i,[],c::k,h,_=>ft h
 |a::i,b::j,c::k,h1,h2=>by
  have ih:=sW i j k;unfold ltL at h1 h2 ⊢;simp only[Bool.or_eq_true,GC,decide_eq_true_eq]at h1 h2 ⊢;rcases h1 with h1|⟨rfl,h1⟩
  ·rcases h2 with h2|⟨rfl,h2⟩
   ·exact .inl (Int.lt_trans h1 h2)
   ·exact .inl h1
  ·rcases h2 with h2|⟨rfl,h2⟩
   ·exact .inl h2
   ·exact .inr ⟨rfl,ih h1 h2⟩
structure uu(ks r:List (List Int)):Prop where
 pm:r.Perm ks
 up:r.Pairwise fun a b=>ltL a b=true
theorem Bb{ks:List (List Int)}(hn:ks.Nodup):Od ks.length fun i j=>ltL (ks.getD i []) (ks.getD j []) where
 tot:=fun i j hi hj bb h=>vO _ _ (fun e=>by
  rw[List.nodup_iff_pairwise_ne,List.pairwise_iff_getElem]at hn;rcases Nat.lt_or_gt_of_ne bb with q|q
  ·exact hn i j hi hj q (by simpa[hi,hj]using e)
  ·exact hn j i hj hi q (by simpa[hi,hj]using e.symm)) h
 tr:=fun i j k=>sW _ _ _
theorem C0{ks:List (List Int)}{p:Array Nat}(hp:PP ks.length p)(hu:Up (fun i j=>ltL (ks.getD i []) (ks.getD j [])) p ks.length):uu ks (p.toList.map fun i=>ks.getD i []) where
 pm:=by
  have:=hp.pm.map fun i=>ks.getD i [];rw[←lv [] ks]at this;exact this
 up:=by
  rw[List.pairwise_map,List.pairwise_iff_getElem];intro i j hi hj a0;have hz:=hp.sz;have:=hu i j a0 (by simpa[hz]using hj)
  have e1:ix p i=p.toList[i]:=ko (by simp at hi;simp[hi])
  have e2:ix p j=p.toList[j]:=ko (by simp at hj;simp[hj])
  rw[e1,e2]at this;exact this
theorem yc{α:Type}{R:α→α→Prop}:∀{l:List α},l.length<2→l.Pairwise R
 |[],_=>.nil
 |[_],_=>List.pairwise_singleton _ _
 |_::_::l,h=>absurd h (Nat.not_lt.mpr (Nat.le_add_left 2 l.length))
theorem uU{D:Addr}{t:Bool}{n:Nat}{P:PySem.Fin→Shared→Prop}(hu:A.units<cLine)(ho:s.heap.get? D=some (seqObj "list" vs.toArray n))(hM:fZ s.heap t ks vs)(hn:ks.Nodup)(ac:ks.length<64)
  (h:∀r out h' c,uu ks r→EI ks r vs out→h'.get? D=some (seqObj "list" out.toArray c)→(∀b o,b≠D→s.heap.get? b=some o→h'.get? b=some o)→P (.done (.ret .none)) {s with heap:=h'}) :
  wpAny (model prog w) A (Builtin.«list.sort» ⟨[.ref D],[]⟩) P E s:=by
 have hl:=hM.len;rw[list_sort_plain];refine Gn (listItems_at ho rfl ?_);refine Gn (listUpdate_at ho rfl ?_ (by rw[Gx,GJ];omega) (G1 _))
 refine(show ∃e1,(s.heap.update D (Obj.mapSeq fun _=>(#[]:Array Value))).get? D=some (seqObj "list" #[] e1)from⟨_,get?_update_seq ho fun _=>#[]⟩).elim fun e1 ee=>?_
 refine Gn (seqEpoch_at ee rfl ?_);refine Gn (wpAny_newTuple ?_ (by show vs.length≤_;rw[GJ];omega))
 refine Gn (wpAny_newList ?_ (G1 _));refine wpAny_holding ?_;have a0:(((s.heap.update D (Obj.mapSeq fun _=>(#[]:Array Value))).push (seqObj "tuple" vs.toArray 0)).push (seqObj "list" #[] 0)).get? D=some (seqObj "list" #[] e1):=Gy _ (Gy _ ee);have k1:∀b o,b≠D→s.heap.get? b=some o→(((s.heap.update D (Obj.mapSeq fun _=>(#[]:Array Value))).push (seqObj "tuple" vs.toArray 0)).push (seqObj "list" #[] 0)).get? b=some o:=fun b o q e=>
  Gy _ (Gy _ ((Heap.get?_update_ne _ _ _ _ q).trans e))
 show wpAny (model prog w) A _ P E {s with heap:=((s.heap.update D (Obj.mapSeq fun _=>(#[]:Array Value))).push (seqObj "tuple" vs.toArray 0)).push (seqObj "list" #[] 0)}
 generalize ((s.heap.update D (Obj.mapSeq fun _=>(#[]:Array Value))).push (seqObj "tuple" vs.toArray 0)).push (seqObj "list" #[] 0)=h1 at a0 k1;have M1:fZ h1 t ks vs:=hM.to ho k1;have fin:∀r out,uu ks r→EI ks r vs out→P (.done (.ret .none)) {s with heap:=h1.update D (Obj.mapSeq fun _=>out.toArray)}:=fun r out hr hM'=>by
  have s2:=Heap.SameBut.update h1 D (Obj.mapSeq fun _=>out.toArray);refine(show ∃c2,(h1.update D (Obj.mapSeq fun _=>out.toArray)).get? D=some (seqObj "list" out.toArray c2)from⟨_,get?_update_seq a0 fun _=>out.toArray⟩).elim fun c2 hc2=>?_
  exact h r out _ c2 hr hM' hc2 fun b o q e=>(s2.2 b q).trans (k1 b o q e)
 dsimp only;by_cases h2:vs.toArray.size<2
 ·rw[if_pos h2,if_pos h2];refine Gn (Gq ?_);rw[StateT.run_pure];refine Gn (Gq ?_);dsimp only;have e:(arrOf (SortSt.mk' general' (vs.toArray.zip vs.toArray) #[] 7 none)).map (·.2)=vs.toArray:=by
   show(vs.toArray.zip vs.toArray).map (·.2)=_
   apply Array.toList_inj.mp;simp[List.map_snd_zip]
  rw[e];refine Gn (seqEpoch_at a0 rfl ?_);refine Gn (listUpdate_at a0 rfl ?_ (G1 _) (by rw[Gx,GJ];omega))
  simp only[bne_self_eq_false,Bool.false_eq_true,if_false];refine Gq (fin ks vs ⟨.refl _,?_⟩ ⟨List.range ks.length,fun i hi=>List.mem_range.mp hi,lv _ _,by rw[←hl];exact lv _ _⟩)
  rw[Gx,hl]at h2;exact yc h2
 ·rw[if_neg h2,if_neg h2];rw[Gx]at h2;refine Gn (Ba (s:={s with heap:=h1}) M1 (by omega) fun κ a5=>?_)
  have est:SortSt.mk' κ (vs.toArray.zip vs.toArray) #[] 7 none=kas_st κ (pairsOf vs) (List.toArray (List.range vs.length)):=by
   have e:=kas_range (pairsOf vs);rw[pairsOf_size]at e
   show SortSt.mk' κ (pairsOf vs) #[] 7 none=SortSt.mk' κ ((List.toArray (List.range vs.length)).map (kas_item (pairsOf vs))) #[] 7 none
   rw[e]
  rw[est];have run:=kas_runs (E:=E) (prog:=prog) (w:=w) (A:=A) (κ:=κ) (it:=pairsOf vs) (n:=vs.length) (s:={s with heap:=h1})
   (Q:=fun _ b3 s'=>s'={s with heap:=h1}∧failedOf b3=none∧∃p:Array Nat,PP ks.length p∧Up (fun i j=>ltL (ks.getD i []) (ks.getD j [])) p ks.length∧arrOf b3=p.map (kas_item (pairsOf vs)))
   (G:=fun p s'=>s'={s with heap:=h1}∧PP ks.length p∧Up (fun i j=>ltL (ks.getD i []) (ks.getD j [])) p ks.length)
   (by omega) (by omega) (fun p' b3 s' a1 a2 a3 a4=>⟨a4.1,a3,p',a4.2.1,a4.2.2,a2⟩) (by
    rw[←kas_ask_eq,hl];exact Av (Bb hn) (fun i j C hi hj hC=>Bc hu a5 (M1.at_ i hi) (M1.at_ j hj) hC) (by omega) fun p' a b=>⟨rfl,a,b⟩)
  refine Gn (wpAny_mono run ?_ fun _ _ e=>e)
  rintro⟨⟨⟩,b3⟩ s' ⟨rfl,hf,p,hp,e0,har⟩
  dsimp only;have e:(arrOf b3).map (·.2)=List.toArray (p.toList.map fun i=>vs.getD i Value.none):=by
   apply Array.toList_inj.mp;rw[har,Array.map_map,Array.toList_map];exact List.map_congr_left fun i _=>by show(kas_item (pairsOf vs) i).2=_;rw[kas_item_eq]
  rw[e];refine Gn (seqEpoch_at a0 rfl ?_);refine Gn (listUpdate_at a0 rfl ?_ (G1 _) (by rw[Gx,GA,Array.length_toList,hp.sz,GJ];omega))
  rw[hf];simp only[bne_self_eq_false,Bool.false_eq_true,if_false];exact Gq (fin _ _ (C0 hp e0) ⟨_,fun i hi=>List.mem_range.mp (hp.pm.mem_iff.mp hi),rfl,rfl⟩)
theorem rt{d:Addr}{es:Array DictEntry}{ep:Nat}{t:Bool}{Q:Value→Shared→Prop}(lo:(d==sysModules)=false)(hh:A.handled=none)(hu:A.units+80<cLine)(hm:uv s.heap d es ep)(hM:fZ s.heap t ks (es.toList.map (·.key)))
  (hn:ks.Nodup) (ac:ks.length<64) (h:∀r out h' tk D c,uu ks r→EI ks r (es.toList.map (·.key)) out→h'.get? D=some (seqObj "list" out.toArray c)→s.heap.get? D=none→(∀b o,s.heap.get? b=some o→h'.get? b=some o)→Q (.ref D) {s with heap:=h',toks:=tk}) :
  wpAny (model prog w) A (call (.builtin "sorted") [.ref d]) Q E s:=by
 have hz:es.size=ks.length:=by have:=hM.len;rw[GA,Array.length_toList]at this;exact this
 refine call_function_entry kind_sorted plain_sorted entry_sorted (args_sorted1 _) ?_;unfold Builtin.«sorted»;refine Gn (m:=checkCount "sorted" 1 1 _) (Gq ?_);refine Gn (kdu_collect (A:=A.in1) (AP lo) hh hm (by rw[hz,GJ];omega) fun h' tk acc hk aw=>?_)
 have e:acc.toList=es.toList.map (·.key):=List.ext_getElem (by rw[Array.length_toList,aw.1,GA,Array.length_toList]) fun i h1 h2=>by
  refine(aw.2 i acc.toList[i] (by simp at h1;simp[h1])).elim fun x y=>?_
  rw[List.getElem_map,y.2];have:=y.1;rw[←Array.getElem?_toList,GD (by simpa using h2)]at this
  rw[Option.some.inj this]
 rw[e];refine Gn (wpAny_newList ?_ (by rw[GA,Array.length_toList,hz,GJ];omega))
 have ho:(h'.push (seqObj "list" (es.toList.map (·.key)).toArray 0)).get? h'.objs.size=some (seqObj "list" (es.toList.map (·.key)).toArray 0):=GG _ rfl;have k2:∀b o,s.heap.get? b=some o→(h'.push (seqObj "list" (es.toList.map (·.key)).toArray 0)).get? b=some o:=fun b o q=>Gy _ (hk b o q);have hD:s.heap.get? h'.objs.size=none:=by
  cases q:s.heap.get? h'.objs.size with
  |none=>rfl
  |some o=>exact absurd (GT (hk _ _ q)) (Nat.lt_irrefl _)
 refine Gn (wpAny_holding (GY slot_list_sort ⟨_,ho,rfl⟩ entry_list_sort ?_ (args_list_sort _)));refine uU (s:={s with heap:=h'.push (seqObj "list" (es.toList.map (·.key)).toArray 0),toks:=tk}) (ks:=ks) (t:=t) (Nat.lt_of_le_of_lt (Nat.add_le_add_left (by decide:2≤80) A.units) hu) ho (hM.keep k2) hn ac fun r out h2 c hr hv hg d4=>?_
 exact⟨_,rfl,Gq ⟨_,rfl,h r out h2 tk _ c hr hv hg hD fun b o q=>d4 b o (fun z=>by rw[z,hD]at q;exact ns q) (k2 b o q)⟩⟩
end
end
section
theorem oS{prog:Program}{w:World}{t:Sem Fin}{s:Shared}{R:Result→Shared→Prop}(a0:s.asleep)
  (h:wpN (model prog w) callerA t (fun fin s'=>∃f,fin=.done f∧(R (.ok f) s'∧leftWithCleanup s'.gens=false)) s) :
  ∃n r s' a3,runN (denote table) prog w n s ⟨t, .builtin "claim.caller" {},default,[]⟩=.halted (outcomeOf r) s'∧
   schedN (denote table) prog w n (.single s ⟨t, .builtin "claim.caller" {},default,[]⟩)=.halted (outcomeOf r) s'∧s'.forget=a3.forget∧R r a3:=by
 refine e4d (wp_halts_full (M:=model prog w) (R:=R) a0 (uC (R:=fun r s'=>R r s'∧leftWithCleanup s'.gens=false) h default)) fun n r s₁ ar hs hn bh hR=>?_;exact⟨n,r,ar,s₁,hn,hs,bh,hR⟩
theorem uf{c:ClaimW}{tree:List Value→Sem Fin}{w:World}{s:Shared}{free:Addr→Prop}{gens:Prop}{kept:Heap→Prop}(hz:s.asleep)(a4:s.gens=#[])
  (b6:∀args,c.pre args=true→WData.layableAll args=true→∀ord:List DictEntry→List DictEntry,(∀l,(ord l).Perm l)→
   ∃vs s₁,layAllW c.records (classAt s.heap) w.params ord args s=some (vs,s₁)∧
    wpN (model c.prog w) callerA (tree vs) (fun fin s'=>∃f,fin=.done f∧(c.Ends s args vs s₁ (.ok f) s'∧s'.os=s.os∧AllBare s'.gens∧kept s'.heap)) s₁) :
  c.CallFrom (fun vs=>⟨tree vs, .builtin "claim.caller" {},default,[]⟩) w free gens kept s:=by
 intro args ac ag ord b3;refine e2b (b6 args ac ag ord b3) fun vs s₁ a0 aw=>?_;have ar:=layAllW_rest _ _ _ a0;refine e4f (oS (prog:=c.prog) (w:=w) (t:=tree vs) (s:=s₁)
  (R:=fun r s'=>c.Ends s args vs s₁ r s'∧s'.os=s.os∧kept s'.heap) (Shared.asleep_of_life ar.2.2.2 hz)
  (cE aw fun fin s' zp=>e1e zp fun f e h1 h2 h3 h4=>⟨f,e,⟨h1,h2,h4⟩,leftWithCleanup_false_of_bare h3⟩)) fun k r s' a3 bb b4 bh ah b5 a5=>?_
 refine e0e (Shared.forget_eq bh) fun eh _ _ eo _=>?_;have ah:=ah.congr eh;rw[←eh]at a5;rw[←eo]at b5;have b7:s'.heap.life=s.heap.life:=(runN_life _ _ _ bb).trans ar.2.2.2;refine⟨vs,s₁,a0,k,_,s',b4,?_,(fun _ i x hx=>by rw[a4]at hx;simp at hx),a5,by rw[b7],Shared.rest_eq b5⟩
 exact Or.elim (show _∨_ from ah) (fun z=>.inl (e1f z fun v q d1 d2 d3 d4 d5=>⟨v,congrArg outcomeOf q,d1,d2,d3,fun b o y _=>d4 b o y,d5⟩)) fun z=>.inr (e3f z fun e ob cls q d1 d2 d3 d4 d5=>⟨e,ob,cls,congrArg outcomeOf q,d1,d2,d3,d4,fun b o y _=>d5 b o y⟩)
theorem vD{r:RowW}{run:Value→List Value→Sem Value}{tree:List Value→Sem Fin}{q:Program}{loose defs c0:List Str}{writes:Bool}{Xt:Shared→Bool}{XP:(Str→Option Value)→Heap→Prop}{α:Type}{Yf:Shared→α}{Ya:World→α}{YP:World→Heap→Prop}{N:Nat}
  (left:LeftO r.prog q loose Xt Yf Ya N) (hY:∀w s,Yf s=Ya w→YP w s.heap) (b6:∀w h h',YP w h→(∀b o,h.get? b=some o→h'.get? b=some o)→YP w h') (hX:∀s,Xt s=true→XP (s.heap.nsMap mainGlobals) s.heap) (bb:∀mg h h',XP mg h→(∀b o,h.get? b=some o→h'.get? b=some o)→XP mg h')
  (bh:∀s,Xt s=true→RecFacts r.records s.heap) (aw:(!writes||r.records.isEmpty)=true) (ok:(chainsOk q&&opensWell r.prog&&(frees r&&r.within.isEmpty))=true) (hb:r.prog.bare) (hw:r.promised)
  (ht:∀vs (w:World) (s:Shared) mg f (Q:Fin→Shared→Prop),s.heap.Ns mainGlobals mg→mg r.name=some f→wpN (model r.prog w) callerA (run f vs) (fun v s'=>Q (.done (.ret v)) s') s→wpN (model r.prog w) callerA (tree vs) Q s)
  (pin:∀w s,s.heap.isNs mainGlobals=true→Ground q loose [] XP w s (s.heap.nsMap mainGlobals) (s.heap.nsMap builtinsNs) s.heap→∀n∈defs,isTheDefsW r.prog s.heap n)
  (call:∀(w:World) (b4 s₁:Shared) (mg mb:Str→Option Value),Ground q loose r.records XP w b4 mg mb s₁.heap→YP w s₁.heap→∀(args:List WData) (vs:List Value) (as:List Addr),
   r.claim.pre args=true→WData.layableAll args=true→Laid r.records w b4 s₁ args vs as→sysModules<b4.heap.objs.size→∃f,mg r.name=some f∧
    wpN (model r.prog w) callerA (run f vs) (fun v s'=>GoodWG r.claim (classAt b4.heap) (ExcName.means b4.heap) args s₁ (.ok (.ret v)) s') s₁) :
  r.claim.HoldsOpenBy (fun vs=>⟨tree vs, .builtin "claim.caller" {},default,[]⟩) defs c0 writes:=by
 refine e0b (Bool.and_eq_true_iff.mp ok) fun ok k5=>?_;refine e0b (Bool.and_eq_true_iff.mp ok) fun c1 o1=>?_;refine e0b (Bool.and_eq_true_iff.mp k5) fun k5 k6=>?_;refine e0e (frees_parts k5) fun a5 hu ha eh hm=>?_;refine⟨⟨hb,o1,by refine(?_:r.makers.map _=[]);rw[hm];rfl⟩,hw.witness,fun w=>⟨(left.behind hX c1 w).1,fun s' ah=>?_⟩⟩
 refine e1c ((left.behind (XP:=fun mg h=>XP mg h∧RecFacts r.records h) (fun s hs=>⟨hX s hs,bh s hs⟩) c1 w).2 s' ah) fun b4 hf hg0 zr=>e1f zr fun s hT hz a4 hg a3 y=>?_;have G0:Ground q loose [] XP w s (s.heap.nsMap mainGlobals) (s.heap.nsMap builtinsNs) s.heap:=⟨a3.T,a3.B,a3.D,a3.TE,a3.TD,a3.W,a3.X.1,a3.cls,a3.has,a3.apart,a3.once,a3.K⟩;have RF:=a3.X.2;have hT':=hT;refine⟨b4,hf,hg0,s,hT,pin w s hg G0,RF.1,RF.2.1,?_⟩;have a4:s.gens=#[]:=Array.eq_empty_of_size_eq_zero (beq_iff_eq.mp a4);have G:Ground q loose r.records XP w s _ _ s.heap:=RF.ground G0;refine uf (c:=r.claim) hz a4 fun args ac ag ord b3=>?_;refine e1a (Option.isSome_iff_exists.mp (layAllW_isSome (P:=w.params) (ord:=ord) G.has args r.args s (pre_splitW ac).1)) fun ct a0=>?_;obtain⟨vs,s₁⟩:=ct;have keeps:=layAllW_keeps _ _ _ a0;have ar:=layAllW_rest _ _ _ a0;refine e1c (reads_layAllW b3 _ _ _ a0 ag s₁.heap (fun _ _ e=>e)) fun as b7 b5 hold=>?_;have L:Laid r.records w s s₁ args vs as:=⟨⟨ord,b3,a0⟩,b7,b5,hold,keeps,ar.1.trans a4,ar.2.2.1⟩;have G₁:=G.keeps bb keeps;refine e1b (call w s s₁ _ _ G₁ (b6 _ _ _ (hY w s y) keeps) args vs as ac ag L G.low) fun f hf h=>?_;have hi:=ident_freeW hu ha eh;have hwi:r.claim.within=[]:=List.isEmpty_iff.mp k6;exact⟨vs,s₁,a0,ht vs w s₁ _ f _ G₁.T.g hf (cE h (fun v s' g=>⟨_,rfl,have z:=g.laid (c:=r.claim) a5 hwi hi L;⟨z.1,z.2.1,z.2.2,fun q=>⟨namesKept_of hT' hg c0 keeps g.2.1.old,noTable aw q⟩⟩⟩))⟩
abbrev FS(q:Program)(loose:List Str)(XP:(Str→Option Value)→Heap→Prop)(YP:World→Heap→Prop)(r:RowW)(d:DefRec)(a5:List (Str×PySem.Expr)):Prop:=
 ∀(w:World) (b4 s₁:Shared) (mg mb:Str→Option Value),Ground q loose r.records XP w b4 mg mb s₁.heap→YP w s₁.heap→∀(a:Addr) (o:Obj) (pm cd doc dV kV:Value),s₁.heap.get? a=some o→
  o.data=.func {docDef d.name d.params d.body d.scope pm cd doc with defaults:=dV,kwdefaults:=kV}→s₁.heap.CodeRec cd d.name→Dflts mg s₁.heap d.params a5 dV kV→mg d.name=some (.ref a)→s₁.gens=#[]→
  ∀(args:List WData) (vals:List Value) (as:List Addr),r.claim.pre args=true→WData.layableAll args=true→ReadsAllW r.records (classAt b4.heap) s₁.heap vals args as→WellAll w.params s₁.heap vals args→(∀a∈as,(a==sysModules)=false)→
   wpN (model r.prog w) callerA (PySem.call (.ref a) vals) (fun v s'=>GoodWG r.claim (classAt b4.heap) (ExcName.means b4.heap) args s₁ (.ok (.ret v)) s') s₁
theorem PySem.W.holds_open {r:OpenRow} {q:Program} {loose:List Str} {Xt:Shared→Bool} {XP:(Str→Option Value)→Heap→Prop} {α:Type} {Yf:Shared→α} {Ya:World→α} {YP:World→Heap→Prop} {d:DefRec} {a5:List (Str×PySem.Expr)} {N:Nat}
  (left:LeftO r.prog q loose Xt Yf Ya N) (hY:∀w s,Yf s=Ya w→YP w s.heap) (b6:∀w h h',YP w h→(∀b o,h.get? b=some o→h'.get? b=some o)→YP w h')
  (hX:∀s,Xt s=true→XP (s.heap.nsMap mainGlobals) s.heap) (bb:∀mg h h',XP mg h→(∀b o,h.get? b=some o→h'.get? b=some o)→XP mg h')
  (a0:defOf q r.name=some (d,a5)) (hp:r.prog.theDef r.name=some (d.params,d.body,d.scope)) (hk:kwWritten? d.params.kwonlyargs d.params.kw_defaults=some a5) (bh:∀s,Xt s=true→RecFacts r.records s.heap) (aw:(!r.writes||r.records.isEmpty)=true)
  (k1:r.wellSaid=true) (ok:(chainsOk q&&opensWell r.prog&&(frees r.toRowW&&r.within.isEmpty))=true) (hb:r.prog.bare) (hw:r.toRowW.promised)
  (call:FS q loose XP YP r.toRowW d a5):r.Holds:=by
 refine⟨k1,hw,vD (r:=r.toRowW) (run:=fun f vs=>_root_.PySem.call f vs) (tree:=fun vs=>do match ←nsGet mainNs r.name with
   |some f=>do ret (←_root_.PySem.call f vs)
   |none=>unsupported "claim.caller:no-such-global") left hY b6 hX bb bh aw ok hb hw
  (fun vs w s mg f Q hg hf h=>cH (wpAny_nsGet hg (by rw[hf];exact cy (cE h (fun _ _ x=>wpN_pure x)))))
  (fun w s hg G n hn=>?_) fun w b4 s₁ mg mb G Y args vs as ac ag L low=>?_⟩
 ·obtain rfl:n=r.name:=by split at hn<;>simp_all
  exact pinned_of_view hg G a0 hp hk
 ·obtain⟨a,o,pm,cd,doc,dV,kV,h1,h2,h3,h4,h5⟩:=G.fn a0;exact⟨.ref a,h1,call w b4 s₁ mg mb G Y a o pm cd doc dV kV h2 h3 h4 h5 (defOf_name a0▸h1) L.gens args vs as ac ag L.reads L.well (L.low low)⟩
end
section
set_option genCtorIdx true in
inductive Bi where
 |int|len|range|reversed|sorted|tuple|bytes|bytearray|min|max|sum|isinstance|list|type|unpack|str
noncomputable def Bi.val:Bi→Value
 |.int=>.type "int" | .len=>.builtin "len" | .range=>.type "range" | .reversed=>.type "reversed" | .sorted=>.builtin "sorted"
 |.tuple=>.type "tuple" | .bytes=>.type "bytes" | .bytearray=>.type "bytearray" | .min=>.builtin "min" | .max=>.builtin "max"
 |.sum=>.builtin "sum" | .isinstance=>.builtin "isinstance" | .list=>.type "list" | .type=>.type "type" | .unpack=>.builtin "_struct.unpack" | .str=>.type "str"
set_option genInjectivity true in
inductive P where
 |none|bool (b:Bool)|int (i:Int)|str (s:Str)|bytes (b:List UInt8)
 |fn (b:Bi)|st (a:Addr)|tup (l:List P)|lst (l:List P)
set_option genInjectivity true in
inductive V where
 |p (x:P)|ref (i:Nat)|inn (i k n:Nat)|tup (l:List V)|inst (c:Addr) (fs:List V)
inductive Bx where
 |lst (l:List P)|dict (es:List (P×P))|ba (b:List UInt8)
inductive Sl where
 |unset|v (x:P)|bx (b:Bx)
set_option genInjectivity true in
inductive O where
 |bx (b:Bx)|cinst (c:Addr) (fs:List Sl) (ver:Nat)|dead
noncomputable def P.ctorIdx(x:P):Nat:=@P.casesOn (fun _=>Nat) x 0 (fun _=>1) (fun _=>2) (fun _=>3) (fun _=>4) (fun _=>5) (fun _=>6) (fun _=>7) (fun _=>8)
noncomputable def V.ctorIdx(x:V):Nat:=@V.casesOn (fun _=>Nat) x (fun _=>0) (fun _=>1) (fun _ _ _=>2) (fun _=>3) (fun _ _=>4)
noncomputable def O.ctorIdx(x:O):Nat:=@O.casesOn (fun _=>Nat) x (fun _=>0) (fun _ _ _=>1) 2
noncomputable def Sl.ctorIdx(x:Sl):Nat:=@Sl.casesOn (fun _=>Nat) x 0 (fun _=>1) (fun _=>2)
noncomputable def Bx.ctorIdx(x:Bx):Nat:=@Bx.casesOn (fun _=>Nat) x (fun _=>0) (fun _=>1) (fun _=>2)
structure St where
 env:List (Option V)
 σ:List O
structure AI where
 slots:List (Addr×Nat)
 stat:List (Addr×P)
set_option genCtorIdx true in
inductive Bm where|none|append|get|encode|pack_into|unpack_from
structure MI where
 fn:List (Addr×Addr)
 bm:Bm
 val:List (Addr×P)
 bd:Bool
set_option genCtorIdx true in
inductive It where|lst|rng|rev
inductive T where
 |var (i:Nat)|tup (is:List Nat)
inductive C where
 |lit (x:P)|var (i:Nat)|glob (x:P)
 |bin (op:Operator) (a b:C)|un (op:UnaryOp) (a:C)|repl (own:Bool) (a b:C)
 |not (a:C)|and (a b:C)|or (a b:C)
 |cmp (op:CmpOp) (a b:C)|chain (op1 op2:CmpOp) (a b c:C)|ite (t a b:C)
 |attr (a:C) (i:AI)|idx (a b:C)|slc (a lo hi st:C)
 |tup (xs:C)|lst (own:Bool) (xs:C)|dict0
 |nil|cons (a b:C)
 |call (f xs:C)|meth (o:C) (m:MI) (xs:C)|methS (o:C) (m:MI) (xs:C)|star (a:C)|methK (o:C) (m:MI) (xs:C) (kn:Str) (k:C)
 |comp (own:Bool) (elt:C) (t:T) (m:Nat) (ik:It) (it:C) (conds:C)
 |gen (elt:C) (t:T) (ik:It) (it:C) (conds:C)
noncomputable def T.ctorIdx(x:T):Nat:=@T.casesOn (fun _=>Nat) x (fun _=>0) (fun _=>1)
inductive Fl where|next|brk|cont|ret (v:V)
noncomputable def Fl.ctorIdx(x:Fl):Nat:=@Fl.casesOn (fun _=>Nat) x 0 1 2 (fun _=>3)
inductive S where
 |skip|seq (a b:S)|expr (e:C)|asg (t:T) (e:C)|aug (i:Nat) (op:Operator) (e:C)
 |setA (o:C) (i:AI) (e:C)|setI (o i e:C)|setS (o lo hi e:C)
 |ite (t:C) (a b:S)|whl (t:C) (body:S)|forIn (t:T) (ik:It) (it:C) (body:S)
 |ret (e:C)|brk|cont|raise|assert (e:C)
noncomputable abbrev Ctr:=List V→List (Str×P)→List O→(V→List O→Prop)→Prop
structure Pg where
 Φ:Addr→Option Ctr
 fmt:Addr→Option Fm
 own:Addr→Bool
noncomputable abbrev Gm:=Addr→Option Obj
mutual
def PRel(g:Gm):P→Value→Prop
 |.none,v=>v=.none
 |.bool b,v=>v=.bool b
 |.int i,v=>∃t,v=.int i t
 |.str s,v=>∃t,v=.str s t
 |.bytes b,v=>∃t,v=.bytes b.toArray t
 |.fn b,v=>v=b.val
 |.st a,v=>v=.ref a
 |.tup l,v=>∃a o vs,∃_:Nat,v=.ref a∧g a=some o∧o={cls:=.type "tuple",data:=.seq vs.toArray}∧cV g l vs
 |.lst l,v=>∃a o vs n,v=.ref a∧g a=some o∧o={cls:=.type "list",data:=.seq vs.toArray n}∧cV g l vs
def cV(g:Gm):List P→List Value→Prop
 |[],vs=>vs=[]
 |x::xs,vs=>∃v r,vs=v::r∧PRel g x v∧cV g xs r
end
structure lg where
 id:Nat→Option Addr
 inn:Nat→Nat→Nat→Option Addr
noncomputable abbrev nA(vs:List Value)(n:Nat):Obj:={cls:=.type "list",data:=.seq vs.toArray n}
noncomputable abbrev Et(vs:List Value)(n:Nat):Obj:={cls:=.type "tuple",data:=.seq vs.toArray n}
noncomputable abbrev kL(c:Addr)(dx:Addr)(sl:Array (Option Value)):Obj:={cls:=.ref c,dict:=some dx,data:=.plain,slots:=sl}
mutual
def dk(g:Gm)(k:lg):V→Value→Prop
 |.p x,v=>PRel g x v
 |.ref i,v=>∃a,k.id i=some a∧v=.ref a
 |.inn i m n,v=>∃a,k.inn i m n=some a∧v=.ref a
 |.tup l,v=>∃a o vs,∃_:Nat,v=.ref a∧g a=some o∧o={cls:=.type "tuple",data:=.seq vs.toArray}∧cZ g k l vs
 |.inst c fs,v=>∃a o dx vs,v=.ref a∧g a=some o∧o={cls:=.ref c,dict:=some dx,data:=.plain,slots:=(vs.map some).toArray}∧g dx=some emptyDict∧cZ g k fs vs
def cZ(g:Gm)(k:lg):List V→List Value→Prop
 |[],vs=>vs=[]
 |x::xs,vs=>∃v r,vs=v::r∧dk g k x v∧cZ g k xs r
end
theorem PRel.mono{g g':Gm}(hg:∀a o,g a=some o→g' a=some o){x:P}{v:Value}:PRel g x v→PRel g' x v:=by
 revert v;refine P.rec (motive_1:=fun x=>∀{v},PRel g x v→PRel g' x v) (motive_2:=fun xs=>∀{vs},cV g xs vs→cV g' xs vs) (fun h=>h) (fun _ _ h=>h) (fun _ _ h=>h) (fun _ _ h=>h) (fun _ _ h=>h) (fun _ _ h=>h) (fun _ _ h=>h) ?_ ?_ (fun h=>h)
  (fun x xs i1 i2 _ h=>h.elim fun v h=>h.elim fun r h=>⟨v,r,h.1,i1 h.2.1,i2 h.2.2⟩) x
 case refine_1=>exact fun l ih _ h=>h.elim fun a h=>h.elim fun o h=>h.elim fun vs h=>h.elim fun n h=>⟨a,o,vs,n,h.1,hg _ _ h.2.1,h.2.2.1,ih h.2.2.2⟩
 case refine_2=>exact fun l ih _ h=>h.elim fun a h=>h.elim fun o h=>h.elim fun vs h=>h.elim fun n h=>⟨a,o,vs,n,h.1,hg _ _ h.2.1,h.2.2.1,ih h.2.2.2⟩
theorem cV.mono{g g':Gm}(hg:∀a o,g a=some o→g' a=some o){xs:List P}{vs:List Value}(h:cV g xs vs):cV g' xs vs:=by
 induction xs generalizing vs with
 |nil=>exact h
 |cons x xs ih=>exact e2c h fun v r e h1 h2=>⟨v,r,e,h1.mono hg,ih h2⟩
theorem dk.mono{g g':Gm}{k k':lg}(hg:∀a o,g a=some o→g' a=some o)(hk:∀i a,k.id i=some a→k'.id i=some a)(d4:∀i m n a,k.inn i m n=some a→k'.inn i m n=some a){x:V}{v:Value}:dk g k x v→dk g' k' x v:=by
 revert v;refine V.rec (motive_1:=fun x=>∀{v},dk g k x v→dk g' k' x v) (motive_2:=fun xs=>∀{vs},cZ g k xs vs→cZ g' k' xs vs) ?_ ?_ ?_ ?_ ?_ ?_ ?_ x
 case refine_1=>exact fun x _ h=>PRel.mono hg h
 case refine_2=>exact fun i _ h=>h.elim fun a h=>⟨a,hk _ _ h.1,h.2⟩
 case refine_3=>exact fun i m n _ h=>h.elim fun a h=>⟨a,d4 _ _ _ _ h.1,h.2⟩
 case refine_6=>exact fun h=>h
 case refine_7=>exact fun x xs i1 i2 _ h=>h.elim fun v h=>h.elim fun r h=>⟨v,r,h.1,i1 h.2.1,i2 h.2.2⟩
 case refine_4=>exact fun l ih _ h=>h.elim fun a h=>h.elim fun o h=>h.elim fun vs h=>h.elim fun n h=>⟨a,o,vs,n,h.1,hg _ _ h.2.1,h.2.2.1,ih h.2.2.2⟩
 case refine_5=>exact fun c l ih _ h=>h.elim fun a h=>h.elim fun o h=>h.elim fun dx h=>h.elim fun vs h=>⟨a,o,dx,vs,h.1,hg _ _ h.2.1,h.2.2.1,hg _ _ h.2.2.2.1,ih h.2.2.2.2⟩
def gj(g:Gm):List (P×P)→List (Int×Value)→Prop
 |[],kvs=>kvs=[]
 |e::es,kvs=>∃k v r,kvs=(k,v)::r∧e.1=.int k∧PRel g e.2 v∧gj g es r
def xo(g:Gm)(ks:List Int)(a:Addr):Prop:=∃vs,∃_:Nat,g a=some (Et vs 0)∧cV g (ks.map .int) vs
def fW(g:Gm):List (P×P)→List (List Int×Addr×Value)→Prop
 |[],xs=>xs=[]
 |e::es,xs=>∃k a v r,xs=(k,a,v)::r∧e.1=.tup (k.map .int)∧xo g k a∧PRel g e.2 v∧fW g es r
noncomputable def Al(ks:List Int):Int:=reduceHash (Builtin.Tuple.tupleHashOf (ks.map hashInt))
def tE(g:Gm)(o:Obj)(es:List (P×P)):Prop:=∃kvs:List (Int×Value),(∀prog w,o.IsDictOf (intKind prog w) kvs)∧gj g es kvs
def tD(g:Gm)(o:Obj)(es:List (P×P)):Prop:=∃(xs:List (List Int×Addr×Value)) (a0:Array DictEntry) (ep:Nat),o.ExactDict∧o.data=.dict a0 ep∧
 a0.toList=xs.map (fun x=>⟨Al x.1, .ref x.2.1,x.2.2⟩)∧(xs.map (·.1)).Nodup∧fW g es xs
theorem gj.mono{g g':Gm}(hg:∀a o,g a=some o→g' a=some o){es:List (P×P)}{kvs:List (Int×Value)}(h:gj g es kvs):gj g' es kvs:=by
 induction es generalizing kvs with
 |nil=>exact h
 |cons e es ih=>exact e3d h fun k v r e h1 h2 h3=>⟨k,v,r,e,h1,h2.mono hg,ih h3⟩
theorem xo.mono{g g':Gm}(hg:∀a o,g a=some o→g' a=some o){ks:List Int}{a:Addr}(h:xo g ks a):xo g' ks a:=
 e2b h fun vs n h1 h2=>⟨vs,n,hg _ _ h1,h2.mono hg⟩
theorem fW.mono{g g':Gm}(hg:∀a o,g a=some o→g' a=some o){es:List (P×P)}{xs:List (List Int×Addr×Value)}(h:fW g es xs):fW g' es xs:=by
 induction es generalizing xs with
 |nil=>exact h
 |cons e es ih=>exact e4e h fun k a v r e h1 h2 h3 h4=>⟨k,a,v,r,e,h1,h2.mono hg,h3.mono hg,ih h4⟩
def lj(g:Gm)(h:Heap)(a:Addr):Bx→Prop
 |.lst l=>∃vs n,h.get? a=some (nA vs n)∧cV g l vs
 |.ba b=>h.get? a=some (eJ b.toArray)
 |.dict es=>(a==sysModules)=false∧∃o,h.get? a=some o∧(tE g o es∨tD g o es)
structure Gh where
 g:Gm
 k:lg
 ow:Addr→Option (Nat×Nat)
def Ch(G:Gh)(h:Heap)(i ver m:Nat)(r:Option Value):Sl→Prop
 |.unset=>r=none
 |.v x=>∃v,r=some v∧PRel G.g x v
 |.bx b=>∃a,r=some (.ref a)∧G.k.inn i m ver=some a∧G.ow a=some (i+1,m+1)∧lj G.g h a b
def ny(G:Gh)(h:Heap)(i:Nat):O→Prop
 |.bx b=>∃a,G.k.id i=some a∧G.ow a=some (i+1,0)∧lj G.g h a b
 |.cinst c fs ver=>∃a dx sl,G.k.id i=some a∧G.ow a=some (i+1,0)∧h.get? a=some (kL c dx sl)∧G.g dx=some emptyDict∧
   (∀m x,fs[m]?=some x→Ch G h i ver m (sl[m]?).join x)∧(∀m n a,G.k.inn i m n=some a→n≤ver)
 |.dead=>True
structure Inv(H0:Heap)(f:Gm)(G:Gh)(σ:List O)(h:Heap):Prop where
 base:∀a o,H0.get? a=some o→G.g a=some o
 gg:∀a o,G.g a=some o→h.get? a=some o
 ff:∀a o,f a=some o→h.get? a=some o
 fg:∀a o,f a=some o→G.g a=none
 own:∀a x,G.ow a=some x→G.g a=none∧f a=none∧∃o,h.get? a=some o
 obj:∀i o,σ[i]?=some o→ny G h i o
 dom:∀i,σ.length≤i→G.k.id i=none∧∀m v,G.k.inn i m v=none
structure Cb(e:Env)(nm:List (Option Str))(G:Gh)(env:List (Option V))(h:Heap):Prop where
 kind:e.scope.kind=.function
 loc:∃m,h.Ns e.locals m∧∀(i:Nat) (n:Str) (x:V),nm[i]?=some (some n)→env[i]?=some (some x)→
  (e.kindOf n=some .local∧∃v,m n=some v∧dk G.g G.k x v)∨
  ((e.kindOf n=some .cell∨e.kindOf n=some .free)∧∃c v,e.cells.lookup n=some c∧h.IsCell c (some v)∧dk G.g G.k x v)
 own:G.ow e.locals=some (0,0)
 cells:∀n c,e.cells.lookup n=some c→G.ow c=some (0,c+1)∧∃v,h.IsCell c v
 apart:e.cells.Pairwise fun x y=>x.2≠y.2
 cellsAll:∀n,e.kindOf n=some .cell→(e.cells.lookup n).isSome=true
 inj:∀(i j:Nat) (n:Str),nm[i]?=some (some n)→nm[j]?=some (some n)→i=j
structure Pre(H0:Heap)(f:Gm)(e:Env)(nm:List (Option Str))(G:Gh)(st:St)(s:Shared):Prop where
 inv:Inv H0 f G st.σ s.heap
 fr:Cb e nm G st.env s.heap
 len:st.env.length=nm.length
structure Gh.Le(G G':Gh):Prop where
 g:∀a o,G.g a=some o→G'.g a=some o
 id:∀i a,G.k.id i=some a→G'.k.id i=some a
 inn:∀i m v a,G.k.inn i m v=some a→G'.k.inn i m v=some a
structure Gh.LeN(n:Nat)(G G':Gh):Prop where
 g:∀a o,G.g a=some o→G'.g a=some o
 id:∀i a,i<n→G.k.id i=some a→G'.k.id i=some a
 inn:∀i m v a,i<n→G.k.inn i m v=some a→G'.k.inn i m v=some a
structure gi(s s':Shared):Prop where
 gens:s'.gens=s.gens
 drawn:s'.drawn=s.drawn
 os:s'.os=s.os
theorem Gh.Le.refl(G:Gh):G.Le G:=⟨fun _ _ h=>h,fun _ _ h=>h,fun _ _ _ _ h=>h⟩
theorem Gh.Le.trans{G G' a4:Gh}(a:G.Le G')(b:G'.Le a4):G.Le a4:=⟨fun _ _ h=>b.g _ _ (a.g _ _ h),fun _ _ h=>b.id _ _ (a.id _ _ h),fun _ _ _ _ h=>b.inn _ _ _ _ (a.inn _ _ _ _ h)⟩
theorem Gh.Le.toN{G G':Gh}(a:G.Le G')(n:Nat):G.LeN n G':=⟨a.g,fun _ _ _ h=>a.id _ _ h,fun _ _ _ _ _ h=>a.inn _ _ _ _ h⟩
theorem Gh.LeN.trans{n:Nat}{G G' a4:Gh}(a:G.LeN n G')(b:G'.LeN n a4):G.LeN n a4:=⟨fun _ _ h=>b.g _ _ (a.g _ _ h),fun _ _ l h=>b.id _ _ l (a.id _ _ l h),fun _ _ _ _ l h=>b.inn _ _ _ _ l (a.inn _ _ _ _ l h)⟩
theorem Gh.LeN.mono{n m:Nat}{G G':Gh}(a:G.LeN n G')(h:m≤n):G.LeN m G':=⟨a.g,fun _ _ l h'=>a.id _ _ (Nat.lt_of_lt_of_le l h) h',fun _ _ _ _ l h'=>a.inn _ _ _ _ (Nat.lt_of_lt_of_le l h) h'⟩
theorem gi.refl(s:Shared):gi s s:=⟨rfl,rfl,rfl⟩
theorem gi.trans{a b c:Shared}(x:gi a b)(y:gi b c):gi a c:=⟨y.1.trans x.1,y.2.trans x.2,y.3.trans x.3⟩
theorem dk.le{G G':Gh}(l:G.Le G'){x:V}{v:Value}(h:dk G.g G.k x v):dk G'.g G'.k x v:=h.mono l.g l.id l.inn
theorem cZ.le{G G':Gh}(l:G.Le G'){xs:List V}{vs:List Value}(h:cZ G.g G.k xs vs):cZ G'.g G'.k xs vs:=by
 induction xs generalizing vs with
 |nil=>exact h
 |cons x xs ih=>exact e2c h fun v r e h1 h2=>⟨v,r,e,h1.le l,ih h2⟩
theorem lj.mono{g g':Gm}{h h':Heap}{a:Addr}{b:Bx}(hg:∀a o,g a=some o→g' a=some o)(hh:∀o,h.get? a=some o→h'.get? a=some o)(x:lj g h a b):lj g' h' a b:=by
 cases b with
 |lst l=>refine e2b x fun vs n h1 h2=>?_;exact⟨vs,n,hh _ h1,h2.mono hg⟩
 |ba l=>exact hh _ x
 |dict l=>
  refine e0b x fun h0 zr=>e1b zr fun o h1 h2=>?_;refine⟨h0,o,hh _ h1,?_⟩;rcases h2 with⟨kvs,h3,h4⟩|⟨xs,a0,ep,h3,h4,h5,h6,h7⟩
  ·exact .inl ⟨kvs,h3,h4.mono hg⟩
  ·exact .inr ⟨xs,a0,ep,h3,h4,h5,h6,h7.mono hg⟩
theorem Ch.mono{G G':Gh}{h h':Heap}{i ver m:Nat}{r:Option Value}{x:Sl}(hg:∀a o,G.g a=some o→G'.g a=some o)
  (hi:∀a,G.k.inn i m ver=some a→G'.k.inn i m ver=some a) (ho:∀a,G.ow a=some (i+1,m+1)→G'.ow a=some (i+1,m+1)∧∀o,h.get? a=some o→h'.get? a=some o)
  (y:Ch G h i ver m r x):Ch G' h' i ver m r x:=by
 cases x with
 |unset=>exact y
 |v p=>refine e1b y fun v e z=>?_;exact⟨v,e,z.mono hg⟩
 |bx b=>refine e1d y fun a e z1 z2 z3=>?_;exact⟨a,e,hi _ z1,(ho _ z2).1,z3.mono hg (ho _ z2).2⟩
theorem ny.mono{G G':Gh}{h h':Heap}{i:Nat}{o:O}(hg:∀a o,G.g a=some o→G'.g a=some o)
  (c3:∀a,G.k.id i=some a→G'.k.id i=some a) (hi:∀m v,G'.k.inn i m v=G.k.inn i m v) (ho:∀a j,G.ow a=some (i+1,j)→G'.ow a=some (i+1,j)∧∀o,h.get? a=some o→h'.get? a=some o)
  (y:ny G h i o):ny G' h' i o:=by
 cases o with
 |bx b=>refine e1c y fun a e1 e2 e3=>?_;exact⟨a,c3 _ e1,(ho _ _ e2).1,e3.mono hg (ho _ _ e2).2⟩
 |cinst c fs ver=>
  refine e3f y fun a dx sl e1 e2 e3 e4 e5 e6=>?_;exact⟨a,dx,sl,c3 _ e1,(ho _ _ e2).1,(ho _ _ e2).2 _ e3,hg _ _ e4,fun m x hx=>(e5 m x hx).mono hg (fun a=>by rw[hi];exact fun h=>h) (fun a=>ho a _),fun m n a=>by rw[hi];exact e6 m n a⟩
 |dead=>trivial
theorem Inv.keep{H0:Heap}{f:Gm}{G:Gh}{σ:List O}{h h':Heap}(I:Inv H0 f G σ h)
  (hk:∀a o,(G.g a=some o∨f a=some o∨∃x,G.ow a=some x)→h.get? a=some o→h'.get? a=some o):Inv H0 f G σ h' where
 base:=I.base
 gg:=fun a o x=>hk a o (.inl x) (I.gg a o x)
 ff:=fun a o x=>hk a o (.inr (.inl x)) (I.ff a o x)
 fg:=I.fg
 own:=fun a x y=>let z:=I.own a x y;⟨z.1,z.2.1,z.2.2.elim fun o ho=>⟨o,hk a o (.inr (.inr ⟨_,y⟩)) ho⟩⟩
 obj:=fun i o x=>(I.obj i o x).mono (fun _ _ h=>h) (fun _ h=>h) (fun _ _=>rfl) fun a j y=>⟨y,fun o z=>hk a o (.inr (.inr ⟨_,y⟩)) z⟩
 dom:=I.dom
theorem Inv.keeps{H0:Heap}{f:Gm}{G:Gh}{σ:List O}{h h':Heap}(I:Inv H0 f G σ h)(hk:∀a o,h.get? a=some o→h'.get? a=some o):Inv H0 f G σ h':=
 I.keep fun a o _=>hk a o
theorem Cb.keep{e:Env}{nm:List (Option Str)}{G:Gh}{env:List (Option V)}{h h':Heap}(F:Cb e nm G env h)(hk:∀a j,G.ow a=some (0,j)→∀o,h.get? a=some o→h'.get? a=some o):Cb e nm G env h' where
 kind:=F.kind
 loc:=by
  refine e1b F.loc fun m hm hl=>?_;refine⟨m,hm.at' (hk _ _ F.own),fun i n x h1 h2=>?_⟩;rcases hl i n x h1 h2 with z|⟨z,c,v,h3,⟨o,h4,h5⟩,h6⟩
  ·exact .inl z
  ·exact .inr ⟨z,c,v,h3,⟨o,hk _ _ (F.cells _ _ h3).1 _ h4,h5⟩,h6⟩
 own:=F.own
 cells:=fun n c hc=>⟨(F.cells n c hc).1,e2b (F.cells n c hc).2 fun v o h4 h5=>⟨v,o,hk _ _ (F.cells n c hc).1 _ h4,h5⟩⟩
 apart:=F.apart
 cellsAll:=F.cellsAll
 inj:=F.inj
theorem Cb.le{e:Env}{nm:List (Option Str)}{G G':Gh}{env:List (Option V)}{h:Heap}(F:Cb e nm G env h)(l:G.Le G')(ho:∀a j,G.ow a=some (0,j)→G'.ow a=some (0,j)):Cb e nm G' env h where
 kind:=F.kind
 loc:=by
  refine e1b F.loc fun m hm hl=>?_;refine⟨m,hm,fun i n x h1 h2=>?_⟩;rcases hl i n x h1 h2 with⟨z,v,z1,z2⟩|⟨z,c,v,h3,h4,h6⟩
  ·exact .inl ⟨z,v,z1,z2.le l⟩
  ·exact .inr ⟨z,c,v,h3,h4,h6.le l⟩
 own:=ho _ _ F.own
 cells:=fun n c hc=>⟨ho _ _ (F.cells n c hc).1,(F.cells n c hc).2⟩
 apart:=F.apart
 cellsAll:=F.cellsAll
 inj:=F.inj
theorem Pre.keeps{H0:Heap}{f:Gm}{e:Env}{nm:List (Option Str)}{G:Gh}{st:St}{s s':Shared}(p:Pre H0 f e nm G st s)(hk:∀a o,s.heap.get? a=some o→s'.heap.get? a=some o):Pre H0 f e nm G st s':=
 ⟨p.inv.keeps hk,p.fr.keep fun a _ _ o=>hk a o,p.len⟩
theorem Pre.toks{H0:Heap}{f:Gm}{e:Env}{nm:List (Option Str)}{G:Gh}{st:St}{s s':Shared}(p:Pre H0 f e nm G st s)(hh:s'.heap=s.heap):Pre H0 f e nm G st s':=
 ⟨hh▸p.inv,hh▸p.fr,p.len⟩
def zn(H0:Heap)(f:Gm)(e:Env)(nm:List (Option Str))(G:Gh)(s:Shared)(n:Nat)(Q:List V→St→Prop)(vs:List Value)(s':Shared):Prop:=
 ∃G' b3 xs,gi s s'∧G.Le G'∧n≤b3.σ.length∧Pre H0 f e nm G' b3 s'∧cZ G'.g G'.k xs vs∧Q xs b3
end
section
def opt{α:Type}(o:Option α)(K:α→Prop):Prop:=match o with|some x=>K x|none=>False
theorem dH{α:Type}{o:Option α}{K:α→Prop}(h:opt o K):∃x,o=some x∧K x:=by
 cases o with
 |none=>exact h.elim
 |some x=>exact⟨x,rfl,h⟩
theorem qd{α:Type}{o:Option α}{K:α→Prop}{x:α}(h:o=some x)(k:K x):opt o K:=h▸k
def wm(o:O)(K:Addr→List Sl→Nat→Prop):Prop:=match o with|.cinst c fs ver=>K c fs ver|_=>False
theorem kN{o:O}{K:Addr→List Sl→Nat→Prop}(h:wm o K):∃c fs ver,o=.cinst c fs ver∧K c fs ver:=by
 cases o with
 |cinst c fs ver=>exact⟨c,fs,ver,rfl,h⟩
 |_=>exact h.elim
def Gf(o:O)(K:Bx→Prop):Prop:=match o with|.bx b=>K b|_=>False
theorem DR{o:O}{K:Bx→Prop}(h:Gf o K):∃b,o=.bx b∧K b:=by
 cases o with
 |bx b=>exact⟨b,rfl,h⟩
 |_=>exact h.elim
def bxS(o:Sl)(K:Bx→Prop):Prop:=match o with|.bx b=>K b|_=>False
theorem DQ{o:Sl}{K:Bx→Prop}(h:bxS o K):∃b,o=.bx b∧K b:=by
 cases o with
 |bx b=>exact⟨b,rfl,h⟩
 |_=>exact h.elim
def dK(σ:List O)(v:V)(K:Bx→Prop):Prop:=match v with
 |.ref i=>opt σ[i]? fun o=>Gf o K
 |.inn i k n=>opt σ[i]? fun o=>wm o fun _ fs ver=>n=ver∧opt fs[k]? fun x=>bxS x K
 |_=>False
theorem iP{σ:List O}{v:V}{K:Bx→Prop}(h:dK σ v K):∃b,K b∧((∃i,v=.ref i∧σ[i]?=some (.bx b))∨∃i k n c fs,v=.inn i k n∧σ[i]?=some (.cinst c fs n)∧fs[k]?=some (.bx b)):=by
 cases v with
 |ref i=>exact e1b (dH h) fun o hi h=>e1b (DR h) fun b e h=>⟨b,h, .inl ⟨i,rfl,e▸hi⟩⟩
 |inn i k n=>exact e1b (dH h) fun o hi h=>e3b (kN h) fun c fs ver e h=>e0b h fun e1 h=>e1b (dH h) fun x hk h=>e1b (DQ h) fun b e2 h=>⟨b,h, .inr ⟨i,k,n,c,fs,rfl,by rw[hi,e,e1],e2▸hk⟩⟩
 |_=>exact h.elim
theorem nV{σ:List O}{v:V}{K:Bx→Prop}(h:dK σ v K):∃b,K b∧∀K':Bx→Prop,K' b→dK σ v K':=
 e1b (iP h) fun b hb hc=>⟨b,hb,fun K' hk=>hc.elim (fun h=>e1b h fun i e hi=>e▸(qd hi hk:dK σ (.ref i) K')) fun h=>e5c h fun i k n c fs e hi hf=>e▸(qd hi ⟨rfl,qd hf hk⟩:dK σ (.inn i k n) K')⟩
theorem mv{σ:List O}{v:V}{K K':Bx→Prop}(h:dK σ v K)(hK:∀b,K b→K' b):dK σ v K':=e1b (nV h) fun b hb k=>k K' (hK b hb)
noncomputable def kg(σ:List O)(v:V)(b:Bx):List O:=match v with
 |.ref i=>σ.set i (.bx b)
 |.inn i k _=>match σ[i]? with|some (.cinst c fs ver)=>σ.set i (.cinst c (fs.set k (.bx b)) ver)|_=>σ
 |_=>σ
section
variable {H0:Heap}{f:Gm}{e:Env}{nm:List (Option Str)}{G:Gh}{st:St}{s:Shared}
theorem lj.some{g:Gm}{h:Heap}{a:Addr}{b:Bx}(hb:lj g h a b):∃o,h.get? a=some o:=by cases b with
 |lst l=>refine e2b hb fun vs n h _=>?_;exact⟨_,h⟩
 |ba l=>exact⟨_,hb⟩
 |dict l=>refine e0b hb fun _ zr=>e1b zr fun o h _=>?_;exact⟨o,h⟩
theorem Pre.freshN(p:Pre H0 f e nm G st s){a:Addr}(h:s.heap.get? a=none):G.g a=none∧f a=none∧G.ow a=none:=by
 refine⟨?_,?_,?_⟩
 ·cases q:G.g a with
  |none=>rfl
  |some o=>exact ns (h.symm.trans (p.inv.gg _ _ q))
 ·cases q:f a with
  |none=>rfl
  |some o=>exact ns (h.symm.trans (p.inv.ff _ _ q))
 ·cases q:G.ow a with
  |none=>rfl
  |some o=>refine e1a ((p.inv.own _ _ q).2.2) fun x hx=>?_;exact ns (h.symm.trans hx)
theorem Pre.fresh(p:Pre H0 f e nm G st s){a:Addr}(h:s.heap.objs.size≤a):G.g a=none∧f a=none∧G.ow a=none:=p.freshN (Heap.get?_none_of_le h)
theorem Pre.freeze(p:Pre H0 f e nm G st s){a:Addr}{o:Obj}(ha:s.heap.get? a=some o)(hn:G.ow a=none)(hf:f a=none) :
  ∃G',G.Le G'∧Pre H0 f e nm G' st s∧G'.g a=some o∧G'.k=G.k∧G'.ow=G.ow:=by
 have key:∀b x,G.g b=some x→(if b=a then some o else G.g b)=some x:=fun b x h=>by
  by_cases q:b=a
  ·subst q;rw[if_pos rfl];exact ha.symm.trans (p.inv.gg _ _ h)
  ·rw[if_neg q];exact h
 have le:G.Le {G with g:=fun b=>if b=a then some o else G.g b}:=⟨key,fun _ _ h=>h,fun _ _ _ _ h=>h⟩
 refine⟨{G with g:=fun b=>if b=a then some o else G.g b},le,⟨⟨fun b x h=>key b x (p.inv.base b x h),fun b x h=>?_,p.inv.ff,fun b x h=>(if_neg fun q=>by subst q;rw[hf]at h;exact ns h).trans (p.inv.fg b x h),fun b x h=>?_,fun i x h=>?_,p.inv.dom⟩,p.fr.le le fun _ _ h=>h,p.len⟩,if_pos rfl,rfl,rfl⟩
 ·change (if b=a then some o else G.g b)=some x at h
  by_cases q:b=a
  ·clear hf le;subst q;rw[if_pos rfl]at h;obtain rfl:=sj h;exact ha
  ·rw[if_neg q]at h;exact p.inv.gg b x h
 ·refine e0c (p.inv.own b x h) fun h1 h2 h3=>?_;have q:b≠a:=fun q=>by clear hf ha le;subst q;rw[hn]at h;exact ns h
  exact⟨(if_neg q).trans h1,h2,h3⟩
 ·exact ny.mono (G:=G) key (fun _ h=>h) (fun _ _=>rfl) (fun a j h=>⟨h,fun _ h=>h⟩) (p.inv.obj i x h)
theorem Pre.adopt(p:Pre H0 f e nm G st s){a:Addr}{b:Bx}(hb:lj G.g s.heap a b)(hg:G.g a=none)(hf:f a=none)(hn:G.ow a=none) :
  ∃G',G.Le G'∧Pre H0 f e nm G' {st with σ:=st.σ++[.bx b]} s∧G'.k.id st.σ.length=some a∧G'.g=G.g:=by
 have a5:=hb.some
 let G':Gh:=⟨G.g,⟨fun i=>if i=st.σ.length then some a else G.k.id i,G.k.inn⟩,fun x=>if x=a then some (st.σ.length+1,0)else G.ow x⟩
 have c3:∀i x,G.k.id i=some x→G'.k.id i=some x:=fun i x h=>by
  have:i≠st.σ.length:=fun q=>by subst q;rw[(p.inv.dom _ (Gw _)).1]at h;exact ns h
  exact(if_neg this).trans h
 have how:∀x y,G.ow x=some y→G'.ow x=some y:=fun x y h=>by
  have:x≠a:=fun q=>by subst q;rw[hn]at h;exact ns h
  exact(if_neg this).trans h
 have le:G.Le G':=⟨fun _ _ h=>h,c3,fun _ _ _ _ h=>h⟩;refine⟨G',le,⟨⟨p.inv.base,p.inv.gg,p.inv.ff,p.inv.fg,fun x y h=>?_,fun i o h=>?_,fun i h=>?_⟩,p.fr.le le fun a j h=>how _ _ h,p.len⟩,if_pos rfl,rfl⟩
 ·by_cases q:x=a
  ·clear hn le;subst q;exact⟨hg,hf,a5⟩
  ·exact p.inv.own x y ((if_neg q).symm.trans h)
 ·dsimp only at h;clear a5 le;rcases Nat.lt_trichotomy i st.σ.length with hi|hi|hi
  ·rw[G7 hi]at h;exact ny.mono (G:=G) (fun _ _ h=>h) (c3 i) (fun _ _=>rfl) (fun a j h=>⟨how _ _ h,fun _ h=>h⟩) (p.inv.obj i o h)
  ·clear hn hf hg;subst hi;rw[List.getElem?_append_right (Gw _),Nat.sub_self]at h;obtain rfl:=sj h;exact⟨a,if_pos rfl,if_pos rfl,hb⟩
  ·rw[List.getElem?_eq_none (by simp;exact hi)]at h;exact ns h
 ·simp only[Gr,GR,List.length_nil]at h;exact⟨(if_neg (by exact Nat.ne_of_gt (cG [] [_,_] bc ae 1 [.j 1 (.a ab bj) ae] rfl h))).trans (p.inv.dom i (by exact cG [] [_,_] ab ae 1 [.j 1 (.a ab bj) ae] rfl h)).1,(p.inv.dom i (by exact cG [] [_,_] ab ae 1 [.j 1 (.a ab bj) ae] rfl h)).2⟩
theorem ny.other{G:Gh}{h h':Heap}{i i':Nat}{j:Nat}{a:Addr}{o:O}(ha:G.ow a=some (i+1,j))(hi:i'≠i)(hs:Heap.ExtBut a h h')(y:ny G h i' o):ny G h' i' o:=
 y.mono (fun _ _ h=>h) (fun _ h=>h) (fun _ _=>rfl) fun b j' hb=>⟨hb,fun o ho=>hs b o (fun q=>by clear y hs h';subst q;rw[ha]at hb;clear ha G;cases hb;exact hi rfl) ho⟩
theorem Pre.setAt(p:Pre H0 f e nm G st s){i j:Nat}{a:Addr}{o':O}{h':Heap}(ha:G.ow a=some (i+1,j))(hs:Heap.ExtBut a s.heap h')(hx:∃o,h'.get? a=some o)(ho:ny G h' i o') :
  Pre H0 f e nm G {st with σ:=st.σ.set i o'} {s with heap:=h'}:=by
 have hk:∀b o,b≠a→s.heap.get? b=some o→h'.get? b=some o:=hs;refine⟨⟨p.inv.base,fun b o x=>hk b o (fun q=>by subst q;rw[(p.inv.own _ _ ha).1]at x;exact ns x) (p.inv.gg b o x),fun b o x=>hk b o (fun q=>by subst q;rw[(p.inv.own _ _ ha).2.1]at x;exact ns x) (p.inv.ff b o x),p.inv.fg,
  fun b x y=>let z:=p.inv.own b x y;⟨z.1,z.2.1,if q:b=a then q▸hx else z.2.2.elim fun o ho=>⟨o,hk b o q ho⟩⟩,fun i' o x=>?_,fun i' x=>p.inv.dom i' (by simpa using x)⟩,p.fr.keep fun b j' hb o x=>hk b o (fun q=>by clear hx;subst q;rw[ha]at hb;cases hb) x,p.len⟩
 dsimp only at x;by_cases q:i'=i
 ·subst q;rw[List.getElem?_set]at x
  split at x
  ·split at x
   ·obtain rfl:=sj x;exact ho
   ·exact ns x
  ·rename_i q;exact absurd rfl q
 ·rw[GU (Ne.symm q)]at x;exact(p.inv.obj i' o x).other ha q hs
theorem Pre.box(p:Pre H0 f e nm G st s){v:V}{x:Value}{K:Bx→Prop}(hv:dk G.g G.k v x)(hw:dK st.σ v K) :
  ∃a b key,x=.ref a∧G.ow a=some key∧K b∧lj G.g s.heap a b∧
   ∀h' b',Heap.ExtBut a s.heap h'→lj G.g h' a b'→Pre H0 f e nm G {st with σ:=kg st.σ v b'} {s with heap:=h'}:=by
 refine e1b (iP hw) fun b hK hc=>hc.elim (fun z=>e1b z fun i e hi=>?_) fun z=>e5c z fun i k n c fs e hi hk=>?_
 ·clear z hc hw;subst e;refine e1c (p.inv.obj i _ hi) fun a h1 h2 h3=>?_;refine e1b hv fun a' h4 b6=>?_;clear hv;subst b6;rw[h1]at h4;obtain rfl:=sj h4;exact⟨a,b,_,rfl,h2,hK,h3,fun h' b' hs hb=>p.setAt h2 hs hb.some ⟨a,h1,h2,hb⟩⟩
 ·clear z hc hw;subst e;refine e3f (p.inv.obj i _ hi) fun a dx sl h1 h2 h3 h4 h5 h6=>?_;refine e1b hv fun a' h7 b6=>?_;clear hv;subst b6;refine e1d (h5 k _ hk) fun a'' g1 g2 g3 g4=>?_;rw[h7]at g2;obtain rfl:=sj g2;refine⟨a',b,_,rfl,g3,hK,g4,fun h' b' hs hb=>?_⟩;have bb:∀b j,G.ow b=some (i+1,j)→j≠k+1→b≠a':=fun b j x y z=>by clear g4 g2;subst z;rw[g3]at x;cases x;exact y rfl
  have e:kg st.σ (.inn i k n) b'=st.σ.set i (.cinst c (fs.set k (.bx b')) n):=by simp only[kg,hi]
  rw[e];refine p.setAt g3 hs hb.some ⟨a,dx,sl,h1,h2,hs a _ (bb a 0 h2 (by exact Nat.ne_of_lt (cG [] [_] bj bc 1 [] rfl))) h3,h4,fun m y hy=>?_,h6⟩
  by_cases q:m=k
  ·clear h4 h3 h2 h1 dx g4 e g2;subst q;rw[List.getElem?_set]at hy
   split at hy
   ·split at hy
    ·obtain rfl:=sj hy;exact⟨a',g1,h7,g3,hb⟩
    ·exact ns hy
   ·exact absurd rfl ‹¬_›
  ·rw[GU (Ne.symm q)]at hy;exact(h5 m y hy).mono (fun _ _ h=>h) (fun _ h=>h) fun b hb=>⟨hb,fun o x=>hs b o (bb b _ hb (by exact fun a0=>absurd (Nat.succ.inj a0) q)) x⟩
end
section
variable {H0:Heap}{f:Gm}{e:Env}{nm:List (Option Str)}{G:Gh}{st:St}{s:Shared}{M:Model}{A:Around}
theorem Pre.load(p:Pre H0 f e nm G st s){i:Nat}{n:Str}{x:V}(hn:nm[i]?=some (some n))(hx:st.env[i]?=some (some x)){E:Value→Shared→Prop}{Q:Value→Shared→Prop}(hd:(n==("__classdict__" : Str))=false)
  (h:∀v,dk G.g G.k x v→Q v s):wpAny M A (loadName e n) Q E s:=by
 refine e1b p.fr.loc fun m hm hl=>?_;rcases hl i n x hn hx with⟨z,v,z1,z2⟩|⟨z,c,v,h3,h4,h6⟩
 ·exact wpAny_loadName_local p.fr.kind z hm z1 (h v z2)
 ·clear hx hn i hl hm m;rcases z with z|z
  ·exact wpAny_loadName_cell p.fr.kind z h3 h4 (h v h6)
  ·exact wpAny_loadName_free p.fr.kind z h3 h4 (h v h6) hd
theorem Inv.frame{H0:Heap}{f:Gm}{G:Gh}{σ:List O}{h h':Heap}{a:Addr}{j:Nat}(I:Inv H0 f G σ h)(ha:G.ow a=some (0,j))(hs:Heap.SameBut a h h')(hx:∃o,h'.get? a=some o):Inv H0 f G σ h' where
 base:=I.base
 gg:=fun b o x=>(hs.2 b fun q=>by subst q;rw[(I.own _ _ ha).1]at x;exact ns x).trans (I.gg b o x)
 ff:=fun b o x=>(hs.2 b fun q=>by subst q;rw[(I.own _ _ ha).2.1]at x;exact ns x).trans (I.ff b o x)
 fg:=I.fg
 own:=fun b x y=>let z:=I.own b x y;⟨z.1,z.2.1,if q:b=a then q▸hx else z.2.2.elim fun o ho=>⟨o,(hs.2 b q).trans ho⟩⟩
 obj:=fun i o x=>(I.obj i o x).mono (fun _ _ h=>h) (fun _ h=>h) (fun _ _=>rfl) fun b j' hb=>⟨hb,fun o ho=>(hs.2 b fun q=>by clear hx hs h';subst q;rw[ha]at hb;clear ha;cases hb).trans ho⟩
 dom:=I.dom
theorem Pre.store(p:Pre H0 f e nm G st s){i:Nat}{n:Str}{x:V}{v:Value}(hn:nm[i]?=some (some n))(hk:e.kindOf n=some .local∨e.kindOf n=some .cell)(hv:dk G.g G.k x v)
  {E:Value→Shared→Prop} {Q:Unit→Shared→Prop} (h:∀s',gi s s'→Pre H0 f e nm G {st with env:=st.env.set i (some x)} s'→Q () s'):wpAny M A (storeName e n v) Q E s:=by
 have hi:i<st.env.length:=by rw[p.len];exact(List.getElem?_eq_some_iff.mp hn).1
 refine e1b p.fr.loc fun m hm hl=>?_;have other:∀j n',nm[j]?=some (some n')→j≠i→n'≠n:=fun j n' h1 h2 h3=>h2 (p.fr.inj j i n' h1 (h3▸hn));have a0:∀n' c,e.cells.lookup n'=some c→c≠e.locals:=fun n' c h1 h2=>by
  have:=(p.fr.cells n' c h1).1;rw[h2,p.fr.own]at this;cases this
 rcases hk with hk|hk
 ·refine wpAny_storeName_local hk hm (fun h' ag hs=>h _ ⟨rfl,rfl,rfl⟩ ⟨p.inv.frame p.fr.own hs (e3b ag fun o _ _ ho _=>⟨o,ho⟩),⟨p.fr.kind,⟨_,ag,fun j n' y h1 h2=>?_⟩,p.fr.own,fun n' c hc=>⟨(p.fr.cells n' c hc).1,?_⟩,p.fr.apart,p.fr.cellsAll,p.fr.inj⟩,by simpa using p.len⟩) (by rw[p.fr.kind];rfl)
  ·dsimp only at h2;by_cases q:j=i
   ·clear E;subst q;rw[hn]at h1;cases h1;rw[List.getElem?_set_self hi]at h2;cases h2;exact .inl ⟨hk,v,if_pos rfl,hv⟩
   ·rw[GU (Ne.symm q)]at h2;rcases hl j n' y h1 h2 with⟨z,v',z1,z2⟩|⟨z,c,v',h3,⟨o,h4,h5⟩,h6⟩
    ·exact .inl ⟨z,v',(if_neg (other j n' h1 q)).trans z1,z2⟩
    ·exact .inr ⟨z,c,v',h3,⟨o,(hs.2 c (a0 _ _ h3)).trans h4,h5⟩,h6⟩
  ·refine e2b ((p.fr.cells n' c hc).2) fun v' o h4 h5=>?_;exact⟨v',o,(hs.2 c (a0 _ _ hc)).trans h4,h5⟩
 ·refine e1a (Option.isSome_iff_exists.mp (p.fr.cellsAll n hk)) fun c hc=>?_;refine e0b (p.fr.cells n c hc) fun a4 zr=>e1a zr fun v₀ a3=>?_;have a5:∀n' ,e.cells.lookup n'=some c→n'=n:=fun n' h'=>name_of_addr p.fr.apart (mem_of_lookup h') (mem_of_lookup hc);refine wpAny_storeName_cell p.fr.kind hk hc a3 fun h' ag hs=>h _ ⟨rfl,rfl,rfl⟩ ⟨p.inv.frame a4 hs (e1b ag fun o ho _=>⟨o,ho⟩),⟨p.fr.kind,⟨m,hm.sameBut hs (Ne.symm (a0 _ _ hc)),fun j n' y h1 h2=>?_⟩,p.fr.own,fun n' c' ac=>⟨(p.fr.cells n' c' ac).1,?_⟩,p.fr.apart,p.fr.cellsAll,p.fr.inj⟩,by simpa using p.len⟩
  ·dsimp only at h2;by_cases q:j=i
   ·clear h Q E;subst q;rw[hn]at h1;clear hn;cases h1;rw[List.getElem?_set_self hi]at h2;cases h2;exact .inr ⟨.inl hk,c,v,hc,ag,hv⟩
   ·rw[GU (Ne.symm q)]at h2;rcases hl j n' y h1 h2 with z|⟨z,c',v',h3,h4,h6⟩
    ·exact .inl z
    ·exact .inr ⟨z,c',v',h3,h4.sameBut hs fun q'=>other j n' h1 q (a5 n' (q'▸h3)),h6⟩
  ·by_cases q:c'=c
   ·subst q;exact⟨_,ag⟩
   ·refine e1a ((p.fr.cells n' c' ac).2) fun v' h4=>?_;exact⟨v',h4.sameBut hs q⟩
end
end
section
structure br(b:Bool)(X Y:Prop):Prop where
 t:b=true→X
 f:b=false→Y
theorem c9{b:Bool}{X Y:Prop}(h1:b=true→X)(h2:b=false→Y):br b X Y:=⟨h1,h2⟩
def E1(x:P)(K:List P→Prop):Prop:=match x with|.lst l=>K l|.tup l=>K l|_=>False
def Fh(b:Bx)(K:List P→Prop):Prop:=match b with|.lst l=>K l|_=>False
def baB(b:Bx)(K:List UInt8→Prop):Prop:=match b with|.ba l=>K l|_=>False
def bytP(x:P)(K:List UInt8→Prop):Prop:=match x with|.bytes l=>K l|_=>False
def vB(σ:List O)(v:V)(X:P→Prop)(Y:Bx→Prop):Prop:=match v with|.p x=>X x|_=>dK σ v Y
def dI(σ:List O)(v:V)(K:List P→Prop):Prop:=vB σ v (fun x=>E1 x K) fun b=>Fh b K
def xp(σ:List O)(v:V)(K:List UInt8→Prop):Prop:=vB σ v (fun x=>bytP x K) fun b=>baB b K
theorem Ai{σ:List O}{v:V}{X X':P→Prop}{Y Y':Bx→Prop}(h:vB σ v X Y)(h1:∀x,X x→X' x)(h2:∀b,Y b→Y' b):vB σ v X' Y':=by
 cases v with
 |p x=>exact h1 x h
 |ref i=>exact mv (σ:=σ) (v:=.ref i) (K:=Y) h h2
 |inn i k n=>exact mv (σ:=σ) (v:=.inn i k n) (K:=Y) h h2
 |_=>exact h.elim
theorem u6{x:P}{K K':List P→Prop}(hK:∀l,K l→K' l)(h:E1 x K):E1 x K':=by cases x<;>first|exact h.elim|exact hK _ h
theorem vQ{x:Bx}{K K':List P→Prop}(hK:∀l,K l→K' l)(h:Fh x K):Fh x K':=by cases x<;>first|exact h.elim|exact hK _ h
theorem fN{σ:List O}{v:V}{K K':List P→Prop}(h:dI σ v K)(hK:∀l,K l→K' l):dI σ v K':=Ai h (fun _=>u6 hK) fun _=>vQ hK
open Classical in
noncomputable def eqB(x y:P):Bool:=decide (x=y)
noncomputable def iM(es:List (P×P))(k:P):Option P:=(es.find? fun x=>eqB x.1 k).map (·.2)
noncomputable def pH(es:List (P×P))(k v:P):List (P×P):=match iM es k with
 |some _=>es.map fun x=>if eqB x.1 k then(x.1,v)else x
 |none=>es++[(k,v)]
def Dh(k:P):Prop:=∃l:List Int,k=.tup (l.map .int)
def isI(k:P):Prop:=∃i,k=.int i
def lX(k:P)(es:List (P×P)):Prop:=(isI k∧∀x∈es,isI x.1)∨(Dh k∧∀x∈es,Dh x.1)
def fB(v:V)(st:St)(K:Bool→Prop):Prop:=match v with
 |.p (.bool b)=>K b
 |.p .none=>K false
 |.p (.int i)=>K (i != 0)
 |_=>False
def om(y:V)(K:Int→Prop):Prop:=match y with|.p (.int b)=>K b|_=>False
def Fi(y:V)(K:List P→Prop):Prop:=match y with|.p (.lst b)=>K b|_=>False
def p1(y:V)(K:P→Prop):Prop:=match y with|.p b=>K b|_=>False
theorem eu{y:V}{K:Int→Prop}(h:om y K):∃b,y=.p (.int b)∧K b:=by
 cases y with
 |p y=>cases y with
  |int b=>exact⟨b,rfl,h⟩
  |_=>exact h.elim
 |_=>exact h.elim
theorem vR{y:V}{K:List P→Prop}(h:Fi y K):∃b,y=.p (.lst b)∧K b:=by
 cases y with
 |p y=>cases y with
  |lst b=>exact⟨b,rfl,h⟩
  |_=>exact h.elim
 |_=>exact h.elim
theorem gx{y:V}{K:P→Prop}(h:p1 y K):∃b,y=.p b∧K b:=by
 cases y with
 |p y=>exact⟨y,rfl,h⟩
 |_=>exact h.elim
def wl(x y:V)(K:Int→Int→Prop):Prop:=om x fun a=>om y fun b=>K a b
theorem lw{x y:V}{K:Int→Int→Prop}(h:wl x y K):∃a b,x=.p (.int a)∧y=.p (.int b)∧K a b:=
 (eu h).elim fun a h=>(eu h.2).elim fun b h2=>⟨a,b,h.1,h2.1,h2.2⟩
def Es(y:V)(K:List P→Prop):Prop:=match y with|.p (.tup b)=>K b|_=>False
theorem ro{y:V}{K:List P→Prop}(h:Es y K):∃b,y=.p (.tup b)∧K b:=by
 cases y with
 |p y=>cases y with
  |tup b=>exact⟨b,rfl,h⟩
  |_=>exact h.elim
 |_=>exact h.elim
def one(xs:List V)(K:V→Prop):Prop:=match xs with|[x]=>K x|_=>False
theorem fP{xs:List V}{K:V→Prop}(h:one xs K):∃x,xs=[x]∧K x:=by
 cases xs with
 |nil=>exact h.elim
 |cons x r=>cases r with
  |nil=>exact⟨x,rfl,h⟩
  |cons _ _=>exact h.elim
theorem jH{x:V}{K:V→Prop}(h:one [x] K):K x:=h
def jr(env:List (Option V))(i:Nat)(K:V→Prop):Prop:=match env[i]? with
 |some o=>(match o with|some v=>K v|none=>False)
 |none=>False
theorem tc{env:List (Option V)}{i:Nat}{K:V→Prop}(h:jr env i K):∃v,env[i]?=some (some v)∧K v:=by
 unfold jr at h
 cases q:env[i]? with
 |none=>rw[q]at h;exact h.elim
 |some o=>cases o with
  |none=>rw[q]at h;exact h.elim
  |some v=>rw[q]at h;exact⟨v,rfl,h⟩
def zF(xs:List V)(K:V→List V→Prop):Prop:=match xs with|x::r=>K x r|[]=>False
theorem jc{xs:List V}{K:V→List V→Prop}(h:zF xs K):∃x r,xs=x::r∧K x r:=by
 cases xs with
 |nil=>exact h.elim
 |cons x r=>exact⟨x,r,rfl,h⟩
def EQ(y:V)(K:Str→Prop):Prop:=match y with|.p (.str b)=>K b|_=>False
theorem uO{y:V}{K:Str→Prop}(h:EQ y K):∃b,y=.p (.str b)∧K b:=by
 cases y with
 |p y=>cases y with
  |str b=>exact⟨b,rfl,h⟩
  |_=>exact h.elim
 |_=>exact h.elim
def addP(x:P)(y:V)(st:St)(Q:V→St→Prop):Prop:=match x with
 |.int a=>om y fun b=>Q (.p (.int (a+b))) st
 |.lst a=>Fi y fun b=>a.length+b.length≤16777216∧Q (.p (.lst (a++b))) st
 |.str a=>EQ y fun b=>a.length+b.length≤16777216∧Q (.p (.str (a++b))) st
 |_=>False
def mulP(x:P)(y:V)(st:St)(Q:V→St→Prop):Prop:=match x with
 |.int a=>om y fun b=>(-(2 ^ 64)<b∧b<2 ^ 64)∧Q (.p (.int (a*b))) st
 |.bytes l=>om y fun b=>(l≠[]∧l.length≤16∧0≤b∧b≤1048576)∧Q (.p (.bytes (List.replicate b.toNat l).flatten)) st
 |_=>False
def EG(op:Operator)(x y:V)(st:St)(Q:V→St→Prop):Prop:=match op with
 |.Add=>p1 x fun x=>addP x y st Q
 |.Sub=>wl x y fun a b=>Q (.p (.int (a-b))) st
 |.Mult=>p1 x fun x=>mulP x y st Q
 |.BitAnd=>wl x y fun a b=>Q (.p (.int (Builtin.bitAnd a b))) st
 |.FloorDiv=>wl x y fun a b=>b=2∧Q (.p (.int (a / 2))) st
 |.Pow=>wl x y fun a b=>(a=2∧0≤b∧b≤64)∧Q (.p (.int (2 ^ b.toNat))) st
 |.Mod=>wl x y fun a b=>0<b∧Q (.p (.int (a % b))) st
 |_=>False
noncomputable def s6:V→Bool|.p .none=>true|_=>false
noncomputable def nL:V→Prop|.p (.tup _)=>False|_=>True
noncomputable def kP(t:Bool)(k:List Int):P:=match t with|true=>.tup (k.map .int)|false=>.int (k.headD 0)
noncomputable def Cd(t:Bool)(r:List Int×Int):P:=.tup [kP t r.1, .int r.2]
def eqV(x y:V)(st:St)(K:Bool→Prop):Prop:=p1 y fun y=>match y with
 |.int b=>om x fun a=>K (decide (a=b))
 |.tup b=>Es x fun a=>∃i j:List Int,(a=i.map .int∧b=j.map .int)∧K (decide (i=j))
 |.lst b=>dI st.σ x fun a=>(nL x∧a=b∧∃t,∃u:List (List Int×Int),b=u.map (Cd t))∧K true
 |_=>False
def neP2(x y:P)(K:Bool→Prop):Prop:=match x with
 |.int a=>(match y with|.int b=>K (decide (a≠b))|.none=>K true|_=>False)
 |.none=>(match y with|.int b=>K true|.none=>K false|_=>False)
 |_=>False
def E9(x y:V)(K:Int→Int→Prop)(L:List Int→List Int→Prop):Prop:=p1 x fun x=>match x with
 |.int a=>om y fun b=>K a b
 |.tup a=>Es y fun b=>∃i j:List Int,(a=i.map .int∧b=j.map .int)∧L i j
 |_=>False
def CG(l:List P)(K:P→Prop):Prop:=∃t,∃ks:List (List Int),(l=ks.map (kP t)∧ks.length<64∧∀k∈ks,t=false→k.length=1)∧∀r,uu ks r→K (.lst (r.map (kP t)))
def isV(x y:V)(K:Bool→Prop):Prop:=p1 y fun y=>match y with
 |.none=>K (s6 x)
 |.st b=>p1 x fun x=>(match x with|.st a=>a=b∧K true|_=>False)
 |_=>False
def Di(x y:V)(K:Bool→Prop):Prop:=p1 y fun y=>match y with|.none=>K (!s6 x)|_=>False
def th(st:St)(x:V)(K:List (P×P)→Prop):Prop:=match x with
 |.ref i=>(match st.σ[i]? with|some (.bx (.dict a))=>K a|_=>False)
 |_=>False
def inV(x y:V)(st:St)(K:Bool→Prop):Prop:=p1 x fun k=>dK st.σ y fun b=>match b with
 |.dict es=>lX k es∧K (iM es k).isSome
 |_=>False
def r0(op:CmpOp)(x y:V)(st:St)(Q:V→St→Prop):Prop:=match op with
 |.Is=>isV x y fun b=>Q (.p (.bool b)) st
 |.IsNot=>Di x y fun b=>Q (.p (.bool b)) st
 |.Lt=>E9 x y (fun a b=>Q (.p (.bool (decide (a<b)))) st) fun a b=>Q (.p (.bool (ltL a b))) st
 |.LtE=>E9 x y (fun a b=>Q (.p (.bool (decide (a≤b)))) st) fun a b=>Q (.p (.bool (!ltL b a))) st
 |.Gt=>wl x y fun a b=>Q (.p (.bool (decide (a>b)))) st
 |.GtE=>wl x y fun a b=>Q (.p (.bool (decide (a≥b)))) st
 |.Eq=>eqV x y st fun b=>Q (.p (.bool b)) st
 |.NotEq=>p1 x fun x=>p1 y fun y=>neP2 x y fun b=>Q (.p (.bool b)) st
 |.In=>inV x y st fun b=>Q (.p (.bool b)) st
 |.NotIn=>inV x y st fun b=>Q (.p (.bool (!b))) st
def stP(x:P)(K:Addr→Prop):Prop:=match x with|.st c=>K c|_=>False
theorem CE{x:P}{K:Addr→Prop}(h:stP x K):∃c,x=.st c∧K c:=by
 cases x with
 |st c=>exact⟨c,rfl,h⟩
 |_=>exact h.elim
def slV(j k ver:Nat)(st:St)(Q:V→St→Prop)(y:Sl):Prop:=match y with
 |.v y=>Q (.p y) st
 |.bx _=>Q (.inn j k ver) st
 |.unset=>False
@[irreducible] def uQ(i:AI)(c:Addr)(K:P→Prop):Prop:=opt (i.stat.lookup c) K
theorem ka{i:AI}{c:Addr}{y:P}{K:P→Prop}(h:i.stat.lookup c=some y)(k:K y):uQ i c K:=by
 unfold uQ;rw[h];exact k
theorem xH{i:AI}{c:Addr}{K:P→Prop}(h:uQ i c K):∃y,i.stat.lookup c=some y∧K y:=by
 unfold uQ at h;exact dH h
def B2(i:AI)(x:V)(st:St)(Q:V→St→Prop):Prop:=match x with
 |.ref j=>opt st.σ[j]? fun o=>wm o fun c fs ver=>opt (i.slots.lookup c) fun k=>opt fs[k]? (slV j k ver st Q)
 |.inst c fs=>opt (i.slots.lookup c) fun k=>opt fs[k]? fun y=>Q y st
 |.p x=>stP x fun c=>uQ i c fun y=>Q (.p y) st
 |_=>False
def F9(b:Bx)(st:St)(Q:V→St→Prop):Prop:=match b with
 |.lst l=>l.length≤16777216∧Q (.p (.int l.length)) st
 |.ba l=>l.length≤16777216∧Q (.p (.int l.length)) st
 |.dict l=>False
def lenP(x:P)(st:St)(Q:V→St→Prop):Prop:=match x with
 |.lst l=>l.length≤16777216∧Q (.p (.int l.length)) st
 |.tup l=>l.length≤16777216∧Q (.p (.int l.length)) st
 |.bytes l=>l.length≤16777216∧Q (.p (.int l.length)) st
 |_=>False
def F8(x:V)(st:St)(Q:V→St→Prop):Prop:=match x with
 |.p x=>lenP x st Q
 |v=>dK st.σ v fun b=>F9 b st Q
noncomputable def at_(i:Int)(n:Nat):Int:=if i<0 then i+n else i
@[irreducible] def uA(l:List P)(i:Int)(st:St)(Q:V→St→Prop):Prop:=(0≤at_ i l.length∧l.length≤16777216)∧∃z,l[(at_ i l.length).toNat]?=some z∧Q (.p z) st
def Ga(y:V)(st:St)(Q:V→St→Prop)(b:Bx):Prop:=match b with
 |.lst l=>om y fun i=>uA l i st Q
 |.dict es=>p1 y fun k=>lX k es∧∃z,iM es k=some z∧Q (.p z) st
 |_=>False
def idxP(x:P)(y:V)(st:St)(Q:V→St→Prop):Prop:=match x with
 |.lst l=>om y fun i=>uA l i st Q
 |.tup l=>om y fun i=>uA l i st Q
 |_=>False
def EB(x y:V)(st:St)(Q:V→St→Prop):Prop:=match x with
 |.p x=>idxP x y st Q
 |x=>dK st.σ x (Ga y st Q)
noncomputable def wM(x:P)(n:Nat)(d:Nat):Option Nat:=match x with
 |.none=>some d
 |.int i=>some (max 0 (min (at_ i n) n)).toNat
 |_=>none
noncomputable def cut{α:Type}(l:List α)(lo hi:Nat):List α:=(l.drop lo).take (hi-lo)
@[irreducible] def ng(lo hi:P)(n:Nat)(K:Nat→Nat→Prop):Prop:=match wM lo n 0 with
 |some a=>(match wM hi n n with|some b=>n≤16777216∧K a b|none=>False)
 |none=>False
theorem mn{lo hi:P}{n:Nat}{K:Nat→Nat→Prop}(h:ng lo hi n K):∃a b,wM lo n 0=some a∧wM hi n n=some b∧n≤16777216∧K a b:=by
 unfold ng at h
 cases q:wM lo n 0 with
 |none=>rw[q]at h;exact h.elim
 |some a=>
  rw[q]at h;dsimp only at h
  cases q2:wM hi n n with
  |none=>rw[q2]at h;exact h.elim
  |some b=>rw[q2]at h;exact⟨a,b,rfl,rfl,h.1,h.2⟩
def ET(lo hi:P)(b:Bx)(s:St)(Q:V→St→Prop):Prop:=match b with
 |.ba l=>ng lo hi l.length fun a b=>Q (.ref s.σ.length) {s with σ:=s.σ++[.bx (.ba (cut l a b))]}
 |.lst l=>ng lo hi l.length fun a b=>Q (.p (.lst (cut l a b))) s
 |_=>False
def slcP(lo hi:P)(x:P)(s:St)(Q:V→St→Prop):Prop:=match x with
 |.lst l=>ng lo hi l.length fun a b=>Q (.p (.lst (cut l a b))) s
 |.bytes l=>ng lo hi l.length fun a b=>Q (.p (.bytes (cut l a b))) s
 |_=>False
def F3(lo hi:P)(v:V)(s:St)(Q:V→St→Prop):Prop:=match v with
 |.p x=>slcP lo hi x s Q
 |v=>dK s.σ v fun b=>ET lo hi b s Q
def FZ(lo hi st:P)(v:V)(s:St)(Q:V→St→Prop):Prop:=match st with
 |.none=>F3 lo hi v s Q
 |.int i=>i=-1∧(match lo with
  |.none=>(match hi with
   |.none=>dI s.σ v fun l=>nL v∧l.length≤16777216∧Q (.p (.lst l.reverse)) s
   |_=>False)
  |_=>False)
 |_=>False
noncomputable def ps? : List V→Option (List P)
 |[]=>some []
 |.p x::r=>match ps? r with|some l=>some (x::l)|none=>none
 |_::_=>none
noncomputable def Ak(l:List V):V:=match ps? l with|some l=>.p (.tup l)|none=>.tup l
noncomputable def frzB(i:Nat)(σ:List O)(b:Bx):V×List O:=match b with|.lst l=>(.p (.lst l),σ.set i .dead)|_=>(.ref i,σ)
noncomputable def Fz(i:Nat)(σ:List O)(o:O):V×List O:=match o with|.bx b=>frzB i σ b|_=>(.ref i,σ)
noncomputable def Ce(i:Nat)(σ:List O)(o:Option O):V×List O:=match o with|some o=>Fz i σ o|none=>(.ref i,σ)
theorem tZ(i:Nat)(σ:List O)(o:Option O):(∃l,o=some (.bx (.lst l))∧Ce i σ o=(.p (.lst l),σ.set i .dead))∨Ce i σ o=(.ref i,σ):=by
 cases o with
 |none=>exact .inr rfl
 |some o=>cases o with
  |bx b=>cases b with
   |lst l=>exact .inl ⟨l,rfl,rfl⟩
   |_=>exact .inr rfl
  |_=>exact .inr rfl
mutual
noncomputable def po:V→List O→V×List O
 |.ref i,σ=>Ce i σ σ[i]?
 |.tup vs,σ=>match pk vs σ with|(vs,σ)=>(Ak vs,σ)
 |.p x,σ=>(.p x,σ)
 |.inn i k n,σ=>(.inn i k n,σ)
 |.inst c fs,σ=>(.inst c fs,σ)
noncomputable def pk:List V→List O→List V×List O
 |[],σ=>([],σ)
 |v::vs,σ=>match po v σ with|(v,σ)=>match pk vs σ with|(vs,σ)=>(v::vs,σ)
end
mutual
noncomputable def oZ:V→List Nat→List Nat
 |.ref i,l|.inn i _ _,l=>if l.contains i then l else l++[i]
 |.inst _ fs,l=>fE fs l
 |.tup fs,l=>fE fs l
 |.p _,l=>l
noncomputable def fE:List V→List Nat→List Nat
 |[],l=>l
 |v::vs,l=>fE vs (oZ v l)
end
mutual
noncomputable def A3(φ:Nat→Nat):V→V
 |.ref i=>.ref (φ i)
 |.inn i k n=>.inn (φ i) k n
 |.inst c fs=>.inst c (nM φ fs)
 |.tup fs=>.tup (nM φ fs)
 |.p x=>.p x
noncomputable def nM(φ:Nat→Nat):List V→List V
 |[]=>[]
 |v::vs=>A3 φ v::nM φ vs
end
mutual
noncomputable def scp(n:Nat):V→Bool
 |.ref i=>i<n
 |.inn i _ _=>i<n
 |.inst _ fs=>Ex n fs
 |.tup fs=>Ex n fs
 |.p _=>true
noncomputable def Ex(n:Nat):List V→Bool
 |[]=>true
 |v::vs=>scp n v&&Ex n vs
end
noncomputable def iu(n:Nat)(st:St):St:=⟨st.env.map fun|some v=>(match scp n v with|true=>some v|false=>none)|none=>none,st.σ.take n⟩
noncomputable def qy(σ:List O):List Nat→Option (List O)
 |[]=>some []
 |i::r=>match σ[i]?,qy σ r with|some o,some l=>some (o::l)|_,_=>none
noncomputable def mD(σ:List O):List Nat→List O→List O
 |[],new=>σ++new
 |i::r,o::os=>mD (σ.set i o) r os
 |_::_,[]=>σ
noncomputable def sw(ι:List Nat)(n j:Nat):Nat:=match ι[j]? with|some i=>i|none=>n+(j-ι.length)
@[irreducible] def eT(G:Pg)(fa:Addr)(args:List V)(kws:List (Str×P))(st:St)(Q:V→St→Prop):Prop:=opt (G.Φ fa) fun ctr=>opt (qy st.σ (fE args [])) fun objs=>ctr (nM ((fE args []).idxOf ·) args) kws objs fun v a0=>Q (A3 (sw (fE args []) st.σ.length) v) {st with σ:=mD st.σ (fE args []) a0}
def Ep(b:List UInt8)(K:P→Prop):Prop:=match b with
 |[b0,b1,b2,b3]=>K (.tup [.int b0.toNat, .int b1.toNat, .int b2.toNat, .int b3.toNat])
 |_=>False
def unpP(f x:P)(K:P→Prop):Prop:=match f with
 |.str f=>(match x with|.bytes b=>Ep b fun z=>f=(">BBBB" : Str)∧K z|_=>False)
 |_=>False
def vJ(x:V)(st:St)(Q:V→St→Prop):Prop:=match x with
 |.p (.int n)=>(0≤n∧n≤16777216)∧Q (.ref st.σ.length) {st with σ:=st.σ++[.bx (.ba (List.replicate n.toNat 0))]}
 |_=>False
def FX(x:V)(st:St)(Q:V→St→Prop):Prop:=match x with
 |.p (.bytes b)=>b.length≤16777216∧Q (.p (.tup (b.map fun c=>.int c.toNat))) st
 |x=>dI st.σ x fun l=>(nL x∧l.length≤16777216)∧Q (.p (.tup l)) st
def isiV(x y:V)(K:Prop):Prop:=EQ x fun _=>y=.p (.tup [.fn .str])∧K
def biV(f:Bi)(args:List V)(st:St)(Q:V→St→Prop):Prop:=match f with
 |.len=>one args fun x=>F8 x st Q
 |.int=>one args fun x=>om x fun i=>Q (.p (.int i)) st
 |.min=>zF args fun x r=>one r fun y=>wl x y fun a b=>Q (.p (.int (min a b))) st
 |.bytes=>one args fun x=>xp st.σ x fun b=>b.length≤16777216∧Q (.p (.bytes b)) st
 |.bytearray=>one args fun x=>vJ x st Q
 |.tuple=>one args fun x=>FX x st Q
 |.unpack=>zF args fun x r=>one r fun y=>p1 x fun x=>p1 y fun y=>unpP x y fun z=>Q (.p z) st
 |.isinstance=>zF args fun x r=>one r fun y=>isiV x y (Q (.p (.bool true)) st)
 |.sorted=>one args fun x=>th st x fun es=>CG (es.map (·.1)) fun z=>Q (.p z) st
 |_=>False
def FI(G:Pg)(f:P)(args:List V)(st:St)(Q:V→St→Prop):Prop:=match f with
 |.st fa=>eT G fa args [] st Q
 |.fn b=>biV b args st Q
 |_=>False
def wO(G:Pg)(f:V)(args:List V)(st:St)(Q:V→St→Prop):Prop:=p1 f fun f=>FI G f args st Q
inductive Cal where|fn (fa:Addr)|app|get|into (F:Fm)|frm (F:Fm)|val (x:P)|enc (s:Str)
noncomputable def Cal.ctorIdx(x:Cal):Nat:=@Cal.casesOn (fun _=>Nat) x (fun _=>0) 1 2 (fun _=>3) (fun _=>4) (fun _=>5) (fun _=>6)
def bmB(m:MI)(b:Bx)(K:Cal→Prop):Prop:=match b with
 |.lst _=>(match m.bm with|.append=>K .app|_=>False)
 |.dict _=>(match m.bm with|.get=>K .get|_=>False)
 |_=>False
def C5(m:MI)(o:O)(K:Cal→Prop):Prop:=match o with
 |.cinst c _ _=>opt (m.fn.lookup c) fun fa=>K (.fn fa)
 |.bx b=>bmB m b K
 |.dead=>False
def fmM(F:Fm)(m:MI)(K:Cal→Prop):Prop:=match m.bm with|.pack_into=>K (.into F)|.unpack_from=>K (.frm F)|_=>False
def vN(G:Pg)(m:MI)(a:Addr)(K:Cal→Prop):Prop:=match G.fmt a with
 |some F=>fmM F m K
 |none=>opt (m.val.lookup a) fun x=>K (.val x)
def inD(m:MI)(b:Bx)(K:Cal→Prop):Prop:=match b with|.dict _=>(match m.bm with|.get=>K .get|_=>False)|_=>False
def methK(G:Pg)(m:MI)(o:V)(st:St)(K:Cal→Prop):Prop:=match o with
 |.ref j=>opt st.σ[j]? fun o=>C5 m o K
 |.inn j k n=>dK st.σ (.inn j k n) fun b=>inD m b K
 |.inst c _=>opt (m.fn.lookup c) fun fa=>K (.fn fa)
 |.p x=>match x with
  |.st a=>vN G m a K
  |.str s=>(match m.bm with|.encode=>K (.enc s)|_=>False)
  |_=>False
 |_=>False
def A2(m:MI)(o:V)(st:St)(K:Addr→Prop):Prop:=match o with
 |.ref j=>opt st.σ[j]? fun o=>wm o fun c _ _=>opt (m.fn.lookup c) K
 |.inst c _=>opt (m.fn.lookup c) K
 |_=>False
theorem A0{G:Pg}{m:MI}{o:V}{st:St}{K:Addr→Prop}{K':Cal→Prop}(h:A2 m o st K)(hk:∀fa,K fa→K' (.fn fa)):methK G m o st K':=by
 cases o with
 |ref j=>
  refine e1b (dH h) fun o ho h=>?_;refine e3b (kN h) fun c fs ver ck h=>?_;subst ck;refine e1b (dH h) fun fa hf h=>?_;refine(?_:opt st.σ[j]? _);rw[ho];refine(?_:opt (m.fn.lookup c) _);rw[hf];exact hk fa h
 |inst c fs=>
  refine e1b (dH h) fun fa hf h=>?_;refine(?_:opt (m.fn.lookup c) _);rw[hf];exact hk fa h
 |_=>exact h.elim
def yW(G:Pg)(c:Cal)(o:V)(args:List V)(kws:List (Str×P))(st:St)(Q:V→St→Prop):Prop:=match c with
 |.fn fa=>eT G fa (o::args) kws st Q
 |.app=>one args fun x=>match po x st.σ with
   |(x,σ)=>p1 x fun x=>dK σ o fun b=>match b with
    |.lst l=>l.length<16777216∧Q (.p .none) {st with σ:=kg σ o (.lst (l++[x]))}
    |_=>False
 |.get=>one args fun k=>p1 k fun k=>dK st.σ o fun b=>match b with
   |.dict es=>lX k es∧Q (.p ((iM es k).getD .none)) st
   |_=>False
 |.into F=>zF args fun buf r=>zF r fun off r=>one r fun n=>om off fun off=>om n fun n=>dK st.σ buf fun b=>match b with
   |.ba b=>(0≤off∧off+F.w≤b.length∧b.length≤16777216∧F.lo≤n∧n≤F.hi)∧Q (.p .none) {st with σ:=kg st.σ buf (.ba (put b off.toNat (le F.w n)))}
   |_=>False
 |.frm F=>zF args fun buf r=>one r fun off=>om off fun off=>xp st.σ buf fun b=>(0≤off∧off+F.w≤b.length∧b.length≤16777216)∧Q (.p (.tup [.int (F.rd ((b.drop off.toNat).take F.w))])) st
 |.val x=>wO G (.p x) args st Q
 |.enc s=>one args fun x=>(x=.p (.str ("utf-8" : Str))∧(iA s).length≤65536∧∀c∈s.cps.toList,Str.isSurrogate c=false)∧Q (.p (.bytes (iA s))) st
noncomputable def mN(a b c:Int):List P:=(List.range (Builtin.Range.rangeSize a b c).toNat).map fun(k:Nat)=>.int (a+(k:Int)*c)
def rOK(a b c:Int):Prop:=-(2 ^ 31)≤a∧a≤2 ^ 31∧-(2 ^ 31)≤b∧b≤2 ^ 31∧(c=1∨c=-1)
def E6(a b c:Int)(K:List P→(St→Prop)→Prop):Prop:=rOK a b c∧K (mN a b c) fun _=>True
def rngC(a b:Int)(r:List V)(K:List P→(St→Prop)→Prop):Prop:=match r with
 |[]=>E6 a b 1 K
 |c::r=>om c fun c=>match r with|[]=>E6 a b c K|_::_=>False
def E5(a:Int)(r:List V)(K:List P→(St→Prop)→Prop):Prop:=match r with
 |[]=>E6 0 a 1 K
 |b::r=>om b fun b=>rngC a b r K
def pg(ik:It)(vs:List V)(st:St)(K:List P→(St→Prop)→Prop):Prop:=match ik with
 |.lst=>one vs fun v=>dI st.σ v fun l=>K l fun st=>dI st.σ v (· = l)
 |.rev=>one vs fun v=>dI st.σ v fun l=>nL v∧K l.reverse fun st=>dI st.σ v (· = l)
 |.rng=>zF vs fun a r=>om a fun a=>E5 a r K
def vV(n0:Nat)(chk:St→Prop)(step:P→St→(Fl→St→Prop)→Prop):List P→St→(Fl→St→Prop)→Prop
 |[],st,Q=>chk st∧Q .next st
 |x::xs,st,Q=>chk st∧step x st fun f st=>match f with
  |.next|.cont=>vV n0 chk step xs (iu n0 st) Q
  |.brk=>Q .next st
  |.ret v=>Q (.ret v) st
def qK(chk:St→Prop)(step:P→St→(List P→St→Prop)→Prop):List P→List P→St→(List P→St→Prop)→Prop
 |[],acc,st,Q=>chk st∧Q acc st
 |x::xs,acc,st,Q=>chk st∧step x st fun ys st=>qK chk step xs (acc++ys) st Q
@[irreducible] def km(n0:Nat)(chk:St→Prop)(step:P→St→(Fl→St→Prop)→Prop)(l:List P)(st:St)(Q:Fl→St→Prop):Prop:=vV n0 chk step l st Q
@[irreducible] def uc(chk:St→Prop)(step:P→St→(List P→St→Prop)→Prop)(l acc:List P)(st:St)(Q:List P→St→Prop):Prop:=qK chk step l acc st Q
def Ag(n0:Nat)(test:St→(Bool→St→Prop)→Prop)(body:St→(Fl→St→Prop)→Prop):Nat→St→(Fl→St→Prop)→Prop
 |0,_,_=>False
 |n+1,st,Q=>test st fun b st=>br b (body st fun f st=>match f with
  |.next|.cont=>Ag n0 test body n (iu n0 st) Q
  |.brk=>Q .next st
  |.ret v=>Q (.ret v) st) (Q .next st)
noncomputable def ru:List Nat→List P→List (Option V)→Option (List (Option V))
 |[],[],env=>some env
 |i::is,x::xs,env=>ru is xs (env.set i (some (.p x)))
 |_,_,_=>none
noncomputable def ke:List Nat→List V→List (Option V)→Option (List (Option V))
 |[],[],env=>some env
 |i::is,x::xs,env=>ke is xs (env.set i (some x))
 |_,_,_=>none
def tupP(x:P)(X:List P→Prop):Prop:=match x with|.tup l=>X l|_=>False
def vT(v:V)(X:List P→Prop)(Y:List V→Prop):Prop:=match v with|.p x=>tupP x X|.tup l=>Y l|_=>False
theorem Co{v:V}{X:List P→Prop}{Y:List V→Prop}(h:vT v X Y):(∃l,v=.p (.tup l)∧X l)∨∃l,v=.tup l∧Y l:=by
 cases v with
 |p x=>cases x with
  |tup l=>exact .inl ⟨l,rfl,h⟩
  |_=>exact h.elim
 |tup l=>exact .inr ⟨l,rfl,h⟩
 |_=>exact h.elim
def y4(t:T)(v:V)(st:St)(Q:St→Prop):Prop:=match t with
 |.var i=>Q {st with env:=st.env.set i (some v)}
 |.tup is=>vT v (fun l=>opt (ru is l st.env) fun env=>Q {st with env:=env}) fun l=>opt (ke is l st.env) fun env=>Q {st with env:=env}
def oU(t:T)(wc:St→(Bool→St→Prop)→Prop)(we:St→(List V→St→Prop)→Prop)(x:P)(st:St)(K:List P→St→Prop):Prop:=
 y4 t (.p x) st fun a4=>wc a4 fun b a0=>a0.env=a4.env∧br b
  (we a0 fun ys a3=>a3.env=a0.env∧match pk ys a3.σ with|(ys,σ)=>match ps? ys with|some ps=>K ps ⟨st.env,σ⟩|none=>False)
  (K [] ⟨st.env,a0.σ⟩)
mutual
def w(G:Pg):C→St→(List V→St→Prop)→Prop
 |.lit x,st,Q|.glob x,st,Q=>Q [.p x] st
 |.var i,st,Q=>jr st.env i fun v=>Q [v] st
 |.nil,st,Q=>Q [] st
 |.cons a b,st,Q=>w G a st fun x st=>w G b st fun y st=>Q (x++y) st
 |.bin op a b,st,Q=>w G a st fun x st=>w G b st fun y st=>one x fun x=>one y fun y=>EG op x y st fun v st=>Q [v] st
 |.un op a,st,Q=>w G a st fun x st=>one x fun x=>om x fun i=>match op with
  |.USub=>Q [.p (.int (-i))] st
  |.Invert=>Q [.p (.int (-i-1))] st
  |_=>False
 |.repl own a b,st,Q=>w G a st fun x st=>w G b st fun y st=>one x fun x=>one y fun y=>Fi x fun l=>om y fun n=>(l.length≤16∧-1048576≤n∧n≤1048576)∧(match own with
   |true=>Q [.ref st.σ.length] {st with σ:=st.σ++[.bx (.lst (List.replicate n.toNat l).flatten)]}
   |false=>Q [.p (.lst (List.replicate n.toNat l).flatten)] st)
 |.not a,st,Q=>w G a st fun x st=>one x fun x=>fB x st fun b=>Q [.p (.bool (!b))] st
 |.and a b,st,Q=>w G a st fun x st=>one x fun x=>fB x st fun t=>br t (w G b st Q) (Q [x] st)
 |.or a b,st,Q=>w G a st fun x st=>one x fun x=>fB x st fun t=>br t (Q [x] st) (w G b st Q)
 |.cmp op a b,st,Q=>w G a st fun x st=>w G b st fun y st=>one x fun x=>one y fun y=>r0 op x y st fun v st=>Q [v] st
 |.chain o1 o2 a b c,st,Q=>w G a st fun x st=>w G b st fun y st=>one x fun x=>one y fun y=>r0 o1 x y st fun t st=>fB t st fun u=>br u (w G c st fun z st=>one z fun z=>r0 o2 y z st fun v st=>Q [v] st) (Q [t] st)
 |.ite t a b,st,Q=>wt G t st fun u st=>br u (w G a st Q) (w G b st Q)
 |.attr a i,st,Q=>w G a st fun x st=>one x fun x=>B2 i x st fun v st=>Q [v] st
 |.idx a b,st,Q=>w G a st fun x st=>w G b st fun y st=>one x fun x=>one y fun y=>EB x y st fun v st=>Q [v] st
 |.slc a lo hi step,st,Q=>w G a st fun x st=>w G lo st fun lo st=>w G hi st fun hi st=>w G step st fun step st=>one x fun x=>one lo fun lo=>one hi fun hi=>one step fun step=>p1 lo fun lo=>p1 hi fun hi=>p1 step fun step=>FZ lo hi step x st fun v st=>Q [v] st
 |.tup xs,st,Q=>w G xs st fun vs st=>vs.length≤1000∧Q [Ak vs] st
 |.lst own xs,st,Q=>w G xs st fun vs st=>match ps? vs with
  |some l=>l.length≤1000∧(match own with|true=>Q [.ref st.σ.length] {st with σ:=st.σ++[.bx (.lst l)]}|false=>Q [.p (.lst l)] st)
  |none=>False
 |.dict0,st,Q=>Q [.ref st.σ.length] {st with σ:=st.σ++[.bx (.dict [])]}
 |.call f xs,st,Q=>w G f st fun f st=>w G xs st fun xs st=>one f fun f=>wO G f xs st fun v st=>Q [v] st
 |.meth o m xs,st,Q=>w G o st fun o st=>one o fun o=>methK G m o st fun c=>w G xs st fun xs st=>yW G c o xs [] st fun v st=>Q [v] st
 |.methS o m xs,st,Q=>w G o st fun o st=>one o fun o=>A2 m o st fun fa=>w G xs st fun xs st=>eT G fa (o::xs) [] st fun v st=>Q [v] st
 |.star a,st,Q=>w G a st fun v st=>one v fun v=>Es v fun l=>l.length≤16777216∧Q (l.map .p) st
 |.methK o m xs kn k,st,Q=>w G o st fun o st=>one o fun o=>A2 m o st fun fa=>w G xs st fun xs st=>w G k st fun k st=>one k fun k=>p1 k fun k=>eT G fa (o::xs) [(kn,k)] st fun v st=>Q [v] st
 |.comp own elt t m ik it conds,st,Q=>w G it st fun vs st=>pg ik vs st fun l chk=>(own=false∧l.length≤16777216)∧
   uc chk (oU t (wt G conds) (w G elt)) l [] {st with env:=st.env++List.replicate m none} fun acc b3=>Q [.p (.lst acc)] {b3 with env:=st.env}
 |.gen elt t ik it conds,st,Q=>w G it st fun vs st=>pg ik vs st fun l chk=>
   qK chk (oU t (wt G conds) (w G elt)) l [] st fun acc b3=>Q (acc.map .p) {b3 with env:=st.env}
def wt(G:Pg):C→St→(Bool→St→Prop)→Prop
 |.not a,st,Q=>wt G a st fun b st=>Q (!b) st
 |.and a b,st,Q=>wt G a st fun t st=>br t (wt G b st Q) (Q false st)
 |.or a b,st,Q=>wt G a st fun t st=>br t (Q true st) (wt G b st Q)
 |.ite t a b,st,Q=>wt G t st fun u st=>br u (wt G a st Q) (wt G b st Q)
 |.cmp op a b,st,Q=>w G a st fun x st=>w G b st fun y st=>one x fun x=>one y fun y=>r0 op x y st fun v st=>fB v st fun b=>Q b st
 |.chain o1 o2 a b c,st,Q=>w G a st fun x st=>w G b st fun y st=>one x fun x=>one y fun y=>r0 o1 x y st fun t st=>fB t st fun u=>br u (w G c st fun z st=>one z fun z=>r0 o2 y z st fun v st=>fB v st fun b=>Q b st) (Q false st)
 |.lit (.bool b),st,Q=>Q b st
 |.var i,st,Q=>jr st.env i fun v=>fB v st fun b=>Q b st
 |.attr a i,st,Q=>w G a st fun x st=>one x fun x=>B2 i x st fun v st=>fB v st fun b=>Q b st
 |.meth o m xs,st,Q=>w G o st fun o st=>one o fun o=>methK G m o st fun c=>w G xs st fun xs st=>yW G c o xs [] st fun v st=>fB v st fun b=>Q b st
 |.call f xs,st,Q=>w G f st fun f st=>w G xs st fun xs st=>one f fun f=>wO G f xs st fun v st=>fB v st fun b=>Q b st
 |_,_,_=>False
end
noncomputable def CT:V→V→Bool
 |.ref i, .ref j=>i==j
 |.inn i k _, .inn j m _=>i==j&&k==m
 |_,_=>false
def E0(G:Pg)(j k:Nat)(c:Addr)(fs:List Sl)(ver:Nat)(v:V)(st:St)(Q:St→Prop):Prop:=match v with
 |.p x=>Q {st with σ:=st.σ.set j (.cinst c (fs.set k (.v x)) (ver+1))}
 |.ref r=>G.own c=true∧opt st.σ[r]? fun o=>(match o with|.bx b=>Q {st with σ:=(st.σ.set j (.cinst c (fs.set k (.bx b)) (ver+1))).set r .dead}|_=>False)
 |_=>False
def CN(G:Pg)(i:AI)(o v:V)(st:St)(Q:St→Prop):Prop:=match o with
 |.ref j=>opt st.σ[j]? fun o=>wm o fun c fs ver=>opt (i.slots.lookup c) fun k=>opt fs[k]? fun _=>E0 G j k c fs ver v st Q
 |_=>False
def EZ(o:V)(j x:P)(st:St)(σ:List O)(Q:St→Prop)(b:Bx):Prop:=match b with
 |.lst l=>(match j with|.int j=>(0≤j∧j<l.length∧l.length≤16777216)∧Q {st with σ:=kg σ o (.lst (l.set j.toNat x))}|_=>False)
 |.dict es=>(lX j es∧es.length≤16777216)∧Q {st with σ:=kg σ o (.dict (pH es j x))}
 |_=>False
def EW(o v:V)(lo hi:P)(new:List UInt8)(st:St)(Q:St→Prop)(b:Bx):Prop:=match b with
 |.ba b=>ng lo hi b.length fun l h=>(CT v o=false∧l≤h∧new.length=h-l)∧Q {st with σ:=kg st.σ o (.ba (b.take l++new++b.drop h))}
 |_=>False
def wS(G:Pg):S→St→(Fl→St→Prop)→Prop
 |.skip,st,Q=>Q .next st
 |.seq a b,st,Q=>wS G a st fun f st=>match f with|.next=>wS G b st Q|f=>Q f st
 |.expr e,st,Q=>w G e st fun _ st=>Q .next st
 |.asg t e,st,Q=>w G e st fun x st=>one x fun x=>y4 t x st fun st=>Q .next st
 |.aug i op e,st,Q=>jr st.env i fun x=>w G e st fun y st=>one y fun y=>wl x y fun a b=>EG op (.p (.int a)) (.p (.int b)) st fun v st=>Q .next {st with env:=st.env.set i (some v)}
 |.setA o i e,st,Q=>w G e st fun v st=>w G o st fun o st=>one o fun o=>one v fun v=>CN G i o v st fun st=>Q .next st
 |.setI o i e,st,Q=>w G e st fun v st=>w G o st fun o st=>w G i st fun i st=>one o fun o=>one i fun i=>one v fun v=>p1 i fun j=>match po v st.σ with
  |(x,σ)=>p1 x fun x=>dK σ o (EZ o j x st σ fun st=>Q .next st)
 |.setS o lo hi e,st,Q=>w G e st fun v st=>w G o st fun o st=>w G lo st fun lo st=>w G hi st fun hi st=>one o fun o=>one v fun v=>one lo fun lo=>one hi fun hi=>p1 lo fun lo=>p1 hi fun hi=>
  xp st.σ v fun new=>dK st.σ o (EW o v lo hi new st fun st=>Q .next st)
 |.ite t a b,st,Q=>wt G t st fun u st=>br u (wS G a st Q) (wS G b st Q)
 |.whl t body,st,Q=>∃n,Ag st.σ.length (wt G t) (wS G body) n st Q
 |.forIn t ik it body,st,Q=>w G it st fun vs st=>pg ik vs st fun l chk=>km st.σ.length chk (fun x st K=>y4 t (.p x) st fun st=>wS G body st K) l st Q
 |.ret e,st,Q=>w G e st fun x st=>one x fun x=>match po x st.σ with|(x,σ)=>Q (.ret x) {st with σ:=σ}
 |.brk,st,Q=>Q .brk st
 |.cont,st,Q=>Q .cont st
 |.raise,_,_=>False
 |.assert e,st,Q=>wt G e st fun b st=>b=true∧Q .next st
end
section
theorem kr{x y:P}:eqB x y=true↔x=y:=by unfold eqB;simp
theorem ti(k:P):iM [] k=none:=rfl
theorem Dx{x y:P}(h:¬x=y):eqB x y=false:=Bool.eq_false_iff.mpr fun q=>h (kr.mp q)
theorem pw{e:P×P}{es:List (P×P)}{k:P}(h:e.1=k):iM (e::es) k=some e.2:=by
 unfold iM;rw[List.find?_cons,kr.mpr h];rfl
theorem m6{e:P×P}{es:List (P×P)}{k:P}(h:¬e.1=k):iM (e::es) k=iM es k:=by
 unfold iM;rw[List.find?_cons,Dx h]
section
variable {g:Gm}
theorem gj.get{k:Int}:∀{es:List (P×P)} {kvs:List (Int×Value)},gj g es kvs→
  (∀z,iM es (.int k)=some z→∃v,valueAt kvs k=some v∧PRel g z v)∧(iM es (.int k)=none→valueAt kvs k=none)
 |[],kvs,h=>by subst h;exact⟨fun z h=>(by rw[ti]at h;exact ns h),fun _=>rfl⟩
 |e::es,kvs,h=>by
  refine e3d h fun k' v r ck h1 h2 h3=>?_;clear h;subst ck;have ih:=h3.get (k:=k);by_cases q:k'=k
  ·clear h3;subst q;have e1:valueAt ((k',v)::r) k'=some v:=by unfold valueAt;rw[List.find?_cons];simp
   rw[pw h1,e1];exact⟨fun z hz=>by obtain rfl:=sj hz;exact⟨v,rfl,h2⟩,fun hz=>by exact sn hz⟩
  ·have e1:valueAt ((k',v)::r) k=valueAt r k:=by unfold valueAt;rw[List.find?_cons];simp[q]
   rw[m6 (by rw[h1];simpa using q),e1];exact ih
theorem gj.put{k:Int}{v:Value}{z:P}(hz:PRel g z v):∀{es:List (P×P)} {kvs:List (Int×Value)},gj g es kvs→
  gj g (es.map fun x=>if eqB x.1 (.int k)then(x.1,z)else x) (kvs.map fun kv=>if kv.1=k then(kv.1,v)else kv)
 |[],kvs,h=>by subst h;rfl
 |e::es,kvs,h=>by
  refine e3d h fun k' v' r ck h1 h2 h3=>?_;clear h;subst ck;have ih:=h3.put (k:=k) hz;simp only[List.map_cons];by_cases q:k'=k
  ·have:eqB e.1 (.int k)=true:=kr.mpr (by rw[h1,q])
   rw[if_pos this,if_pos q];exact⟨k',v,_,rfl,h1,hz,ih⟩
  ·have:¬eqB e.1 (.int k)=true:=fun h=>q (by have:=kr.mp h;rw[h1]at this;simpa using this)
   rw[if_neg this,if_neg q];exact⟨k',v',_,rfl,h1,h2,ih⟩
theorem gj.snoc{k:Int}{v:Value}{z:P}(hz:PRel g z v):∀{es:List (P×P)} {kvs:List (Int×Value)},gj g es kvs→gj g (es++[(.int k,z)]) (kvs++[(k,v)])
 |[],kvs,h=>by subst h;exact⟨k,v,[],rfl,rfl,hz,rfl⟩
 |e::es,kvs,h=>by
  refine e3d h fun k' v' r ck h1 h2 h3=>?_;clear h;subst ck;exact⟨k',v',_,rfl,h1,h2,h3.snoc hz⟩
theorem gj.length:∀{es:List (P×P)} {kvs:List (Int×Value)},gj g es kvs→kvs.length=es.length
 |[],kvs,h=>by subst h;rfl
 |e::es,kvs,h=>by refine e3d h fun k' v' r ck h1 h2 h3=>?_;clear h;clear h2 h1;subst ck;simp[h3.length]
set_option tactic.hygienic true in
theorem gj.set{k:Int}{v:Value}{z:P}{es:List (P×P)}{kvs:List (Int×Value)}(h:gj g es kvs)(hz:PRel g z v):gj g (pH es (.int k) z) (stored kvs k v):=by
 have hg:=h.get (k:=k);unfold pH stored;have b3:kvs.any (fun kv=>decide (kv.1=k))=(valueAt kvs k).isSome:=by
  unfold valueAt;rw[Option.isSome_map,Bool.eq_iff_iff,List.any_eq_true,List.find?_isSome]
 rw[b3];clear b3;split
 ·rename_i z' a0
  refine e1b (hg.1 z' a0) fun v' bb _=>?_;rw[bb];exact h.put hz
 ·rename_i a0
  rw[hg.2 a0];exact h.snoc hz
noncomputable abbrev kT(k:List Int):P:=.tup (k.map .int)
theorem qx{k k':List Int}:kT k=kT k'↔k=k':=by
 constructor
 ·intro h;injection h with h;exact(List.map_inj_right fun a b q=>by injection q).mp h
 ·rintro rfl;rfl
theorem fW.get{k:List Int}:∀{es:List (P×P)} {xs:List (List Int×Addr×Value)},fW g es xs→
  (∀z,iM es (kT k)=some z→∃a v,atKey xs k=some (a,v)∧PRel g z v)∧(iM es (kT k)=none→atKey xs k=none)
 |[],xs,h=>by subst h;exact⟨fun z h=>(by rw[ti]at h;exact ns h),fun _=>rfl⟩
 |e::es,xs,h=>by
  refine e4e h fun k' a v r c1 h1 h0 h2 h3=>?_;clear h;clear h0;subst c1;have ih:=h3.get (k:=k);by_cases q:k'=k
  ·clear h3;subst q;have e1:atKey ((k',a,v)::r) k'=some (a,v):=by unfold atKey;rw[List.find?_cons];simp
   rw[pw h1,e1];exact⟨fun z hz=>by obtain rfl:=sj hz;exact⟨a,v,rfl,h2⟩,fun hz=>by exact sn hz⟩
  ·have e1:atKey ((k',a,v)::r) k=atKey r k:=by unfold atKey;rw[List.find?_cons];simp[q]
   rw[m6 (by rw[h1];exact fun x=>q (qx.mp x)),e1];exact ih
theorem fW.put{k:List Int}{v:Value}{z:P}(hz:PRel g z v):∀{es:List (P×P)} {xs:List (List Int×Addr×Value)},fW g es xs→
  fW g (es.map fun x=>if eqB x.1 (kT k)then(x.1,z)else x) (xs.map (putAt k v))
 |[],xs,h=>by subst h;rfl
 |e::es,xs,h=>by
  refine e4e h fun k' a v' r c1 h1 h0 h2 h3=>?_;clear h;subst c1;have ih:=h3.put (k:=k) hz;simp only[List.map_cons,putAt];by_cases q:k'=k
  ·have:eqB e.1 (kT k)=true:=kr.mpr (by rw[h1,q])
   rw[if_pos this,if_pos q];exact⟨k',a,v,_,rfl,h1,h0,hz,ih⟩
  ·have:¬eqB e.1 (kT k)=true:=fun h=>q (by have:=kr.mp h;rw[h1]at this;exact qx.mp this)
   rw[if_neg this,if_neg q];exact⟨k',a,v',_,rfl,h1,h0,h2,ih⟩
theorem fW.snoc{k:List Int}{a:Addr}{v:Value}{z:P}(ha:xo g k a)(hz:PRel g z v):∀{es:List (P×P)} {xs:List (List Int×Addr×Value)},fW g es xs→fW g (es++[(kT k,z)]) (xs++[(k,a,v)])
 |[],xs,h=>by subst h;exact⟨k,a,v,[],rfl,rfl,ha,hz,rfl⟩
 |e::es,xs,h=>by
  refine e4e h fun k' a' v' r c1 h1 h0 h2 h3=>?_;clear h;subst c1;exact⟨k',a',v',_,rfl,h1,h0,h2,h3.snoc ha hz⟩
theorem fW.length:∀{es:List (P×P)} {xs:List (List Int×Addr×Value)},fW g es xs→xs.length=es.length
 |[],xs,h=>by subst h;rfl
 |e::es,xs,h=>by refine e4e h fun k' a v' r c1 h1 h0 h2 h3=>?_;clear h;clear h2 h0 h1;subst c1;simp[h3.length]
set_option tactic.hygienic true in
theorem fW.set{k:List Int}{a:Addr}{v:Value}{z:P}{es:List (P×P)}{xs:List (List Int×Addr×Value)}(h:fW g es xs)(ha:xo g k a)(hz:PRel g z v):fW g (pH es (kT k) z) (storedH xs k a v):=by
 have hg:=h.get (k:=k);unfold pH storedH
 split
 ·rename_i z' a0
  refine e2b (hg.1 z' a0) fun a' v' bb _=>?_;rw[bb];exact h.put hz
 ·rename_i a0
  rw[hg.2 a0];exact h.snoc ha hz
theorem fW.keys:∀{es:List (P×P)} {xs:List (List Int×Addr×Value)},fW g es xs→∀x∈xs,xo g x.1 x.2.1
 |[],xs,h=>by subst h;exact fun _ h=>nomatch h
 |e::es,xs,h=>by
  refine e4e h fun k' a' v' r c1 h1 h0 h2 h3=>?_;clear h;clear h2 h1;subst c1;intro x hx;clear e;rcases List.mem_cons.mp hx with rfl|hx
  ·exact h0
  ·exact h3.keys x hx
theorem tV{prog:Program}{w:World}{ks:List Int}{vs:List Value}(h:cV g (ks.map .int) vs):ItemsAre (intKind prog w) ks vs:=by
 induction ks generalizing vs with
 |nil=>subst h;exact .nil
 |cons k ks ih=>
  refine e2c h fun v r e a b=>e1a a fun t h1=>?_;clear h a;subst e h1;exact .cons (by simp[intKind,Value.isInt]) (ih b)
theorem xo.is{prog:Program}{w:World}{h:Heap}{ks:List Int}{a:Addr}(hg:∀a o,g a=some o→h.get? a=some o)(x:xo g ks a):(tupleKind (intKind prog w)).is h ks a:=by
 refine e2b x fun vs n h1 h2=>?_;exact⟨_,vs.toArray,0,hg _ _ h1,rfl,rfl,by simpa using tV h2⟩
theorem tD.ofH{prog:Program}{w:World}{h:Heap}{d:Addr}{o:Obj}{es:List (P×P)}(hg:∀a o,g a=some o→h.get? a=some o)(ho:h.get? d=some o)(x:tD g o es) :
  ∃xs,h.DictOfH (tupleKind (intKind prog w)) d xs∧fW g es xs:=by
 refine e3e x fun xs a0 ep h1 h2 h3 h4 h5=>?_;exact⟨xs,⟨o,a0,ep,ho,h1,h2,h3,fun x hx=>(h5.keys x hx).is hg,h4⟩,h5⟩
theorem tD.sw{prog:Program}{w:World}{h:Heap}{d:Addr}{es:List (P×P)}{xs:List (List Int×Addr×Value)}(x:h.DictOfH (tupleKind (intKind prog w)) d xs)(y:fW g es xs) :
  ∃o,h.get? d=some o∧tD g o es:=by
 refine e3f x fun o a0 ep h0 h1 h2 h3 h4 h5=>?_;exact⟨o,h0,xs,a0,ep,h1,h2,h3,h5,y⟩
theorem vw{p p':Program}{w w':World}{es:List DictEntry}{kvs:List (Int×Value)}(h:Pairs (intKind p w) es kvs):Pairs (intKind p' w') es kvs:=by
 induction h with
 |nil=>exact .nil
 |cons h1 h2 _ ih=>exact .cons h1 h2 ih
theorem yP{p p':Program}{w w':World}{o:Obj}{kvs:List (Int×Value)}(h:o.IsDictOf (intKind p w) kvs):o.IsDictOf (intKind p' w') kvs:=
 e2e h fun es ep h1 h2 h3 h4 h5=>⟨es,ep,h1,h2,h3,vw h4,h5⟩
theorem tE.of{prog:Program}{w:World}{h:Heap}{d:Addr}{o:Obj}{es:List (P×P)}(ho:h.get? d=some o)(x:tE g o es):∃kvs,h.DictOf (intKind prog w) d kvs∧gj g es kvs:=
 e1b x fun kvs h1 h2=>⟨kvs,Heap.dictOf_iff.mpr ⟨o,ho,h1 prog w⟩,h2⟩
theorem tE.sw{prog:Program}{w:World}{h:Heap}{d:Addr}{es:List (P×P)}{kvs:List (Int×Value)}(x:h.DictOf (intKind prog w) d kvs)(y:gj g es kvs):∃o,h.get? d=some o∧tE g o es:=
 e1b (Heap.dictOf_iff.mp x) fun o h0 h1=>⟨o,h0,kvs,fun _ _=>yP h1,y⟩
theorem gA(prog:Program)(wd:World){h:Heap}{d:Addr}{k:P}{es:List (P×P)}(hb:lj g h d (.dict es))(hk:lX k es) :
  (d==sysModules)=false∧((∃i,k=.int i∧∃o,h.get? d=some o∧tE g o es)∨(∃l,k=kT l∧∃o,h.get? d=some o∧tD g o es)):=by
 refine e0b hb fun h0 zr=>e1b zr fun o h1 h2=>?_;refine⟨h0,?_⟩;have a3:tD g o []→tE g o []:=fun zp=>e3e zp fun xs a0 ep e1 e2 e3 e4 e5=>by
  clear hb h0 e4 zr;subst e5;refine⟨[],fun prog w=>⟨a0,ep,e1,e2,?_,?_,List.nodup_nil⟩,rfl⟩
  ·intro e he;have:e∈a0.toList:=by simpa using he
   rw[e3]at this;clear he;cases this
  ·rw[e3];constructor
 have a4:tE g o []→tD g o []:=fun zp=>e1b zp fun kvs e1 e2=>by
  clear hb h0 zp zr;subst e2;refine e2e (e1 prog wd) fun a0 ep q1 q2 q3 q4 q5=>?_;refine⟨[],a0,ep,q1,q2,?_,List.nodup_nil,rfl⟩;have:=q4.length;simpa using this
 clear zr;rcases hk with⟨⟨i,rfl⟩,hk⟩|⟨⟨l,rfl⟩,hk⟩
 ·refine .inl ⟨i,rfl,o,h1,?_⟩;rcases h2 with h2|h2
  ·exact h2
  ·cases es with
   |nil=>exact a3 h2
   |cons e es=>
    refine e3e h2 fun _ _ _ _ _ _ _ q=>?_;refine e4c q fun k' a v r c1 e1 _=>?_;clear q;clear hb wd prog i h0 a3;subst c1;refine e1a (hk _ GS) fun i' e2=>?_;rw[e1]at e2;cases e2
 ·refine .inr ⟨l,rfl,o,h1,?_⟩;rcases h2 with h2|h2
  ·cases es with
   |nil=>exact a4 h2
   |cons e es=>
    refine e1b h2 fun _ _ q=>?_;refine e3c q fun k' v r ck e1 _=>?_;clear q;clear hb wd prog h1 l h0 a4 a3;subst ck;refine e1a (hk _ GS) fun i' e2=>?_;rw[e1]at e2;clear hk d h e1;cases e2
  ·exact h2
end
section
variable {prog:Program}{wd:World}{A:Around}{s:Shared}{g:Gm}{d:Addr}{k:P}{es:List (P×P)}{key:Value}
theorem jo{l:List Int}{key:Value}(h:PRel g (kT l) key):∃a,key=.ref a∧xo g l a:=by
 refine e4d h fun a o vs n c1 h1 c2 h2=>?_;clear h;subst c1 c2;exact⟨a,rfl,vs,0,h1,h2⟩
theorem ou{kvs:List (Int×Value)}{i:Int}(h:gj g es kvs):(valueAt kvs i).isSome=(iM es (.int i)).isSome:=by
 cases q:iM es (.int i)with
 |none=>rw[h.get.2 q];rfl
 |some z=>refine e1b (h.get.1 z q) fun v hv _=>?_;rw[hv];rfl
theorem oq{xs:List (List Int×Addr×Value)}{i:List Int}(h:fW g es xs):(atKey xs i).isSome=(iM es (kT i)).isSome:=by
 cases q:iM es (kT i)with
 |none=>rw[h.get.2 q];rfl
 |some z=>refine e2b (h.get.1 z q) fun a v hv _=>?_;rw[hv];rfl
theorem qH{a:Addr}{l:List Int}{xs:List (List Int×Addr×Value)}{E:Value→Shared→Prop}{Q:Bool→Shared→Prop}(hu:A.units+1<cLine)(e8:(tupleKind (intKind prog wd)).is s.heap l a)(hd:(d==sysModules)=false)(hm:s.heap.DictOfH (tupleKind (intKind prog wd)) d xs)
  (h:∀t,Q (atKey xs l).isSome {s with toks:=t}):wpAny (model prog wd) A (contains (.ref d) (.ref a)) Q E s:=by
 unfold contains
 try with_reducible refine wpAny_holding ?_
 refine Gn (wpAny_specialOf hm.typeIs slot_dict_contains.lookup ?_);refine(?_:wpAny _ _ (if(some (Value.builtin "dict.__contains__")==some Value.none)=true then _ else _) _ E s)
 rw[if_neg (by rw[beq_builtin_none];exact Bool.false_ne_true)]
 refine Gn (wpAny_callSpecialUnlessNone?_slot (name:=Str.ofString "__contains__") hm.typeIs slot_dict_contains
  (GY slot_dict_contains hm.typeIs entry_dict_contains ?_ (args_dict_contains _ _)))
 refine(?_:wpAny _ _ (dictGet d (.ref a)>>=_) _ _ s);refine Gn (wpAny_dictGet_heap hu e8 hm ?_);clear hm e8 hu;cases hf:atKey xs l with
 |some p=>
  rw[hf]at h;refine(?_:wpAny _ _ (ret (.bool true)) _ _ _);exact Gq ⟨_,rfl,wpAny_truthy_bool (h _)⟩
 |none=>
  rw[hf]at h;refine(?_:wpAny _ _ (Builtin.Dict.pendingKey? d (.ref a)>>=_) _ _ _);exact Gn (wpAny_pendingKey_other hd (Gq ⟨_,rfl,wpAny_truthy_bool (h _)⟩))
theorem BI{Q:Value→Shared→Prop}(hu:A.units+80<cLine)(hg:∀a o,g a=some o→s.heap.get? a=some o)(hb:lj g s.heap d (.dict es))(hk:lX k es)(hx:PRel g k key)
  (h:∀t,Q (.bool (iM es k).isSome) {s with toks:=t}):wpN (model prog wd) A (compareOp .In key (.ref d)) Q s:=by
 obtain⟨h0,⟨i,rfl,o,h1,h2⟩|⟨l,rfl,o,h1,h2⟩⟩:=gA prog wd hb hk
 ·refine e1b (tE.of (prog:=prog) (w:=wd) h1 h2) fun kvs h3 h4=>?_;refine e1a hx fun t a3=>?_;clear hx;clear hk hb hu;subst a3;refine cA (wpAny_in_of (knd:=intKind prog wd) (k:=i) (by simp[intKind,Value.isInt]) h0 h3.mapOf ?_)
  rw[ou h4];exact h _
 ·refine e1b (tD.ofH (prog:=prog) (w:=wd) hg h1 h2) fun xs h3 h4=>?_;refine e1b (jo hx) fun a a3 ha=>?_;subst a3;refine cA (wpAny_in_heap (knd:=tupleKind (intKind prog wd)) (k:=l) (tupleKind_room_in1 (by exact cG [] [_] cb aT 1 [.j 1 (.a (.a ab (.n 80)) ai) aT] rfl hu)) (ha.is hg) h0 h3 ?_)
  rw[oq h4];exact h _
theorem ub{Q:Value→Shared→Prop}(hu:A.units+80<cLine)(hg:∀a o,g a=some o→s.heap.get? a=some o)(hb:lj g s.heap d (.dict es))(hk:lX k es)(hx:PRel g k key)
  (h:∀t,Q (.bool (!(iM es k).isSome)) {s with toks:=t}):wpN (model prog wd) A (compareOp .NotIn key (.ref d)) Q s:=by
 obtain⟨h0,⟨i,rfl,o,h1,h2⟩|⟨l,rfl,o,h1,h2⟩⟩:=gA prog wd hb hk
 ·refine e1b (tE.of (prog:=prog) (w:=wd) h1 h2) fun kvs h3 h4=>?_;refine e1a hx fun t a3=>?_;clear hx;clear hk hb hu;subst a3;refine cA (wpAny_notIn_of (knd:=intKind prog wd) (k:=i) (by simp[intKind,Value.isInt]) h0 h3.mapOf ?_)
  rw[ou h4];exact h _
 ·refine e1b (tD.ofH (prog:=prog) (w:=wd) hg h1 h2) fun xs h3 h4=>?_;refine e1b (jo hx) fun a a3 ha=>?_;subst a3;refine(?_:wpN (model prog wd) A (contains (.ref d) (.ref a)>>=fun b=>pure (Value.bool (!b))) Q s);refine cH (qH (by exact cG [] [_] cb aT 1 [.j 1 (.a (.a ab (.n 80)) ai) aT] rfl hu) (ha.is hg) h0 h3 fun t=>wpN_pure ?_)
  rw[oq h4];exact h _
theorem qG{z:P}{Q:Value→Shared→Prop}(hu:A.units+80<cLine)(hg:∀a o,g a=some o→s.heap.get? a=some o)(hb:lj g s.heap d (.dict es))(hk:lX k es)(hx:PRel g k key)(hz:iM es k=some z)
  (h:∀v t,PRel g z v→Q v {s with toks:=t}):wpN (model prog wd) A (getItem (.ref d) key) Q s:=by
 obtain⟨h0,⟨i,rfl,o,h1,h2⟩|⟨l,rfl,o,h1,h2⟩⟩:=gA prog wd hb hk
 ·refine e1b (tE.of (prog:=prog) (w:=wd) h1 h2) fun kvs h3 h4=>?_;refine e1a hx fun t a3=>?_;clear hx;clear hk hb hu h0;subst a3;refine e1b (h4.get.1 z hz) fun v hv hr=>?_;exact cA (wpAny_getItem_of (knd:=intKind prog wd) (k:=i) (by simp[intKind,Value.isInt]) h3.mapOf hv (h v _ hr))
 ·refine e1b (tD.ofH (prog:=prog) (w:=wd) hg h1 h2) fun xs h3 h4=>?_;refine e1b (jo hx) fun a a3 ha=>?_;subst a3;refine e2b (h4.get.1 z hz) fun b v hv hr=>?_;exact cA (wpAny_getItem_heap (knd:=tupleKind (intKind prog wd)) (k:=l) (tupleKind_room_in1 (by exact cG [] [_] cb aT 1 [.j 1 (.a (.a ab (.n 80)) ai) aT] rfl hu)) (ha.is hg) h3 hv (h v _ hr))
theorem qF{z:P}{v:Value}{Q:Unit→Shared→Prop}(hu:A.units+80<cLine)(hg:∀a o,g a=some o→s.heap.get? a=some o)(hgd:g d=none)(hb:lj g s.heap d (.dict es))(hk:lX k es)(hx:PRel g k key)(hz:PRel g z v)(b7:es.length≤16777216)
  (h:∀h' t,Heap.SameBut d s.heap h'→lj g h' d (.dict (pH es k z))→Q () {s with heap:=h',toks:=t}):wpN (model prog wd) A (setItem (.ref d) key v) Q s:=by
 obtain⟨h0,⟨i,rfl,o,h1,h2⟩|⟨l,rfl,o,h1,h2⟩⟩:=gA prog wd hb hk
 ·refine e1b (tE.of (prog:=prog) (w:=wd) h1 h2) fun kvs h3 h4=>?_;refine e1a hx fun t a3=>?_;clear hx;clear hk hb hgd hu;subst a3;refine cA (wpAny_setItem_pairs (knd:=intKind prog wd) (k:=i) (by simp[intKind,Value.isInt]) h3 (fun h' h5 hs=>h h' _ hs ⟨h0,?_⟩) (by rw[h4.length,GJ];exact b7))
  refine e1b (tE.sw h5 (h4.set hz)) fun o' e1 e2=>?_;exact⟨o',e1, .inl e2⟩
 ·refine e1b (tD.ofH (prog:=prog) (w:=wd) hg h1 h2) fun xs h3 h4=>?_;refine e1b (jo hx) fun a a3 ha=>?_;subst a3;refine cA (wpAny_setItem_heap (knd:=tupleKind (intKind prog wd)) (k:=l) (tupleKind_room_in1 (by exact cG [] [_] cb aT 1 [.j 1 (.a (.a ab (.n 80)) ai) aT] rfl hu)) (ha.is hg) h3 (fun h' h5 hs=>h h' _ hs ⟨h0,?_⟩) (by rw[h4.length,GJ];exact b7))
  refine e1b (tD.sw h5 (h4.set ha hz)) fun o' e1 e2=>?_;exact⟨o',e1, .inr e2⟩
theorem yO{Q:Value→Shared→Prop}(hu:A.units+80<cLine)(hg:∀a o,g a=some o→s.heap.get? a=some o)(hb:lj g s.heap d (.dict es))(hk:lX k es)(hx:PRel g k key)
  (h:∀v t,PRel g ((iM es k).getD .none) v→Q v {s with toks:=t}):wpN (model prog wd) A (_root_.PySem.call (.builtin "dict.get") [.ref d,key]) Q s:=by
 obtain⟨h0,⟨i,rfl,o,h1,h2⟩|⟨l,rfl,o,h1,h2⟩⟩:=gA prog wd hb hk
 ·refine e1b (tE.of (prog:=prog) (w:=wd) h1 h2) fun kvs h3 h4=>?_;refine e1a hx fun t a3=>?_;clear hx;clear hk hb hu;subst a3;refine cA (call_meetsIn PySem.F.slot_dict_get h3.mapOf.typeIs PySem.F.entry_dict_get (PySem.F.args_dict_get_2 _ _) (meets_dict_get (intKind prog wd) d (k:=i) (by simp[intKind,Value.isInt]) h0) ⟨_,h3.mapOf,h _ _ ?_⟩)
  clear t;cases q:iM es (.int i)with
  |none=>rw[h4.get.2 q];rfl
  |some z=>refine e1b (h4.get.1 z q) fun v hv hr=>?_;rw[hv];exact hr
 ·refine e1b (tD.ofH (prog:=prog) (w:=wd) hg h1 h2) fun xs h3 h4=>?_;refine e1b (jo hx) fun a a3 ha=>?_;subst a3;refine cA (call_meetsIn PySem.F.slot_dict_get h3.typeIs PySem.F.entry_dict_get (PySem.F.args_dict_get_2 _ _) (meetsH_dict_get (tupleKind (intKind prog wd)) d a h0) ⟨tupleKind_room_in1 (by exact cG [] [_] cb aT 1 [.j 1 (.a (.a ab (.n 80)) ai) aT] rfl hu),l,xs,ha.is hg,h3,h _ _ ?_⟩)
  clear h hx hk hb hg hu Q h3 ha h2 h1 o h0 a;cases q:iM es (kT l)with
  |none=>rw[h4.get.2 q];rfl
  |some z=>refine e2b (h4.get.1 z q) fun b v hv hr=>?_;rw[hv];exact hr
theorem mO{g:Gm}:∀{xs:List P} {vs:List Value},cV g xs vs→vs.length=xs.length
 |[],_,h=>by subst h;rfl
 |_::_,_,⟨v,r,e,_,h⟩=>by subst e;simp[mO h]
open Classical in
theorem kM{g:Gm}:∀{ks:List Int} {vs:List Value},cV g (ks.map .int) vs→IntsAre vs ks
 |[],_,h=>by subst h;exact .nil
 |k::ks,_,⟨v,r,e,⟨t,h1⟩,h2⟩=>by subst e;subst h1;exact .cons _ _ (kM h2)
theorem wa{g:Gm}{h:Heap}(hg:∀a o,g a=some o→h.get? a=some o){t:Bool}:∀{ks:List (List Int)} {vs:List Value},cV g (ks.map (kP t)) vs→(∀k∈ks,t=false→k.length=1)→fZ h t ks vs
 |[],_,x,_=>x
 |k::ks,_,x,hl=>e2c x fun v r e a b=>by
  refine⟨v,r,e,?_,wa hg b fun k hk=>hl k (GM _ hk)⟩
  cases t with
  |true=>exact e1b (jo a) fun d a3 ha=>e2b ha fun vs n h1 h2=>⟨d,vs,0,a3,hg _ _ h1,kM h2⟩
  |false=>
   refine e1a (kB (hl k GS rfl)) fun i e=>?_;clear hl;subst e;exact e1a a fun u a3=>⟨i,u,a3,rfl⟩
theorem cV.get{g:Gm}{t:Bool}:∀{ks:List (List Int)} {vs:List Value},cV g (ks.map (kP t)) vs→∀i,i<ks.length→PRel g (kP t (ks.getD i [])) (vs.getD i .none)
 |[],_,_,i,hi=>absurd hi (Nat.not_lt_zero i)
 |k::ks,_,x,i,hi=>e2c x fun v r e a b=>by
  subst e
  cases i with
  |zero=>exact a
  |succ i=>exact cV.get b i (Nat.lt_of_succ_lt_succ hi)
theorem cV.pick{g:Gm}{t:Bool}{ks r:List (List Int)}{vs out:List Value}(x:cV g (ks.map (kP t)) vs)(y:EI ks r vs out):cV g (r.map (kP t)) out:=by
 refine e1c y fun l hl e1 e2=>?_;subst e1 e2;clear y
 induction l with
 |nil=>rfl
 |cons i l ih=>exact⟨_,_,rfl,x.get i (hl i GS),ih fun j hj=>hl j (GM _ hj)⟩
theorem sF{s:Shared}{A:Around}{Q:Value→Shared→Prop}{g:Gm}{q:Bool}{i j:List Int}{a b:Value}(hg:∀a o,g a=some o→s.heap.get? a=some o)(hu:A.units+80<cLine)(hx:PRel g (kT i) a)(hy:PRel g (kT j) b)(h:Q (.bool (zR q i j)) s) :
  wpN (model prog wd) A (compareOp (opQ q) a b) Q s:=by
 refine e1b (jo hx) fun a a3 ha=>?_;subst a3;refine e1b (jo hy) fun b a3 hb=>?_;subst a3;refine e2b ha fun vs n h1 h2=>e2b hb fun us m h3 h4=>?_;exact cA (uH q (Nat.lt_of_le_of_lt (Nat.le_add_right _ _) hu) (hg _ _ h1) (hg _ _ h3) (kM h2) (kM h4) h)
theorem Aj{s:Shared}{A:Around}{Q:Value→Shared→Prop}{g:Gm}{i j:List Int}{a b:Value}(hg:∀a o,g a=some o→s.heap.get? a=some o)(hu:A.units+80<cLine)(hx:PRel g (kT i) a)(hy:PRel g (kT j) b)(h:Q (.bool (decide (i=j))) s) :
  wpN (model prog wd) A (compareOp .Eq a b) Q s:=by
 refine e1b (jo hx) fun a a3 ha=>?_;subst a3;refine e1b (jo hy) fun b a3 hb=>?_;subst a3;have hT:s.TypeIs (.ref a) "tuple":=(show IsTupleKey (intKind prog wd) s.heap i a from ha.is hg).typeIs
 have a0:s.TypeIs (.ref b) "tuple":=(show IsTupleKey (intKind prog wd) s.heap j b from hb.is hg).typeIs
 exact cA (wpAny_richCompare_same_room (op:=.Eq) hT a0 F.slot_tuple_eq (GY F.slot_tuple_eq hT F.entry_tuple_eq (tuple_eq_tree (knd:=intKind prog wd) (ha.is hg) (hb.is hg) ⟨_,rfl,nofun,h⟩) (F.args_tuple_eq_2 _ _)) (Nat.lt_of_le_of_lt (Nat.le_add_right _ _) hu))
noncomputable def kD(t:Bool)(k:List Int):PyData:=match t with|true=>.tuple (k.map .int)|false=>.int (k.headD 0)
noncomputable def xX(t:Bool)(r:List Int×Int):PyData:=.tuple [kD t r.1, .int r.2]
theorem tM{h:Heap}{ks:List Int}{vs:List Value}(x:IntsAre vs ks):ReadsAll h vs (ks.map .int) []:=by
 induction x with
 |nil=>exact .nil
 |cons i t x ih=>exact .cons (as:=[]) (.int i t) ih
theorem vj{g:Gm}{h:Heap}(hg:∀a o,g a=some o→h.get? a=some o){t:Bool}{k:List Int}{v:Value}(x:PRel g (kP t k) v):Reads h v (kD t k) []:=by
 cases t with
 |true=>
  refine e1b (jo x) fun a a3 ha=>?_;subst a3;exact e2b ha fun vs n h1 h2=>.tuple (hg _ _ h1) rfl rfl (by simpa using tM (kM h2))
 |false=>refine e1a x fun t a3=>?_;subst a3;exact .int _ _
theorem lu{g:Gm}{h:Heap}(hg:∀a o,g a=some o→h.get? a=some o){t:Bool}:∀{u:List (List Int×Int)} {vs:List Value},cV g (u.map (Cd t)) vs→ReadsAll h vs (u.map (xX t)) []
 |[],_,x=>by rw[show _=[]from x];exact .nil
 |r::u,_,x=>by
  refine e2c x fun v vs e hr hrs=>?_;subst e;refine .cons (as:=[]) ?_ (lu hg hrs);refine e4d hr fun a o us n e1 h1 e3 h2=>?_;subst e1 e3;refine e2c h2 fun w ws e h3 h4=>?_;subst e;refine e2c h4 fun w2 ws2 e h5 h6=>?_;subst e;rw[show ws2=[]from h6]at h1
  refine .tuple (hg _ _ h1) rfl rfl (.cons (as:=[]) (vj hg h3) (.cons (as:=[]) ?_ .nil));refine e1a h5 fun t a3=>?_;subst a3;exact .int _ _
theorem pc:∀k:List Int,PyData.canLayAll0 (k.map .int)=true∧PyData.depthAll (k.map .int)=0
 |[]=>⟨rfl,rfl⟩
 |i::k=>⟨(pc k).1,by show max 0 (PyData.depthAll (k.map .int))=0;rw[(pc k).2];rfl⟩
theorem sY(t:Bool):∀u:List (List Int×Int),PyData.canLayAll0 (u.map (xX t))=true∧PyData.depthAll (u.map (xX t))≤2
 |[]=>⟨rfl,G1 _⟩
 |r::u=>by
  have ih:=sY t u;have li:=pc r.1;have e1:(kD t r.1).canLay0=true:=by cases t with|true=>exact li.1|false=>rfl
  have e2:(kD t r.1).depth≤1:=by
   cases t with
   |true=>show PyData.depthAll (r.1.map .int)+1≤1;rw[li.2];exact Gw _
   |false=>exact G1 _
  refine⟨?_,?_⟩
  ·show(((kD t r.1).canLay0&&true)&&PyData.canLayAll0 (u.map (xX t)))=true
   rw[e1,ih.1];rfl
  ·show max (max (kD t r.1).depth (max 0 0)+1) (PyData.depthAll (u.map (xX t)))≤2
   exact Nat.max_le.mpr ⟨Nat.succ_le_succ (Nat.max_le.mpr ⟨e2,G1 _⟩),ih.2⟩
theorem AM{s:Shared}{A:Around}{Q:Value→Shared→Prop}{g:Gm}{t:Bool}{u:List (List Int×Int)}{ad bd:Addr}{vs us:List Value}{n m:Nat}(hg:∀a o,g a=some o→s.heap.get? a=some o)(hu:A.units+80<cLine)
  (ha:s.heap.get? ad=some (nA vs n)) (hv:cV g (u.map (Cd t)) vs) (hb:s.heap.get? bd=some (nA us m)) (hw:cV g (u.map (Cd t)) us) (h:Q (.bool true) s):wpN (model prog wd) A (compareOp .Eq (.ref ad) (.ref bd)) Q s:=by
 have l:=sY t u;have lc:(PyData.list (u.map (xX t))).canLay0=true:=l.1;refine cA (SeqAt.compareEq_reads (da:=.list (u.map (xX t))) (db:=.list (u.map (xX t))) (.list ha rfl rfl (by simpa using lu hg hv)) (.list hb rfl rfl (by simpa using lu hg hw)) lc lc ?_ (by rw[SeqAt.eqv_refl _ lc];exact h))
 refine Nat.lt_of_le_of_lt (Nat.add_le_add_left (Gp (Nat.min_le_left _ _) ?_) _) hu
 show PyData.depthAll (u.map (xX t))+1≤80
 exact Gp (Nat.succ_le_succ l.2) (by decide)
theorem fW.kv{g:Gm}{es:List (P×P)}:∀{xs:List (List Int×Addr×Value)} {ks:List (List Int)},fW g es xs→es.map (·.1)=ks.map kT→ks=xs.map (·.1)∧cV g (ks.map kT) (xs.map fun x=>.ref x.2.1):=by
 induction es with
 |nil=>
  intro xs ks x q
  cases ks with
  |nil=>rw[show _=[]from x];exact⟨rfl,rfl⟩
  |cons k ks=>exact nc q
 |cons e es ih=>
  intro xs ks x q
  cases ks with
  |nil=>exact cn q
  |cons k ks=>
   refine e4e x fun k' a v r e0 h1 h2 h3 h4=>?_;subst e0;have q:=List.cons.inj q;have hk:k=k':=qx.mp (q.1.symm.trans h1);subst hk;have ih:=ih h4 q.2;exact⟨congrArg (k::·) ih.1,_,_,rfl,e2b h2 fun vs n h1 h2=>⟨a,_,vs,0,rfl,h1,rfl,h2⟩,ih.2⟩
theorem C2{k:List Int}(h:k.length=1):k=[k.headD 0]:=by
 cases k with
 |nil=>exact absurd h (by decide)
 |cons i l=>cases l with
  |nil=>rfl
  |cons j l=>exact absurd (Nat.succ.inj h) (Nat.succ_ne_zero _)
theorem gj.kv{g:Gm}{es:List (P×P)}:∀{kvs:List (Int×Value)} {ks:List (List Int)},gj g es kvs→es.map (·.1)=ks.map (kP false)→(∀k∈ks,k.length=1)→ks=kvs.map fun x=>[x.1]:=by
 induction es with
 |nil=>
  intro kvs ks x q hl
  cases ks with
  |nil=>rw[show _=[]from x];rfl
  |cons k ks=>exact nc q
 |cons e es ih=>
  intro kvs ks x q hl
  cases ks with
  |nil=>exact cn q
  |cons k ks=>
   refine e3d x fun k' v r e0 h1 h2 h3=>?_;subst e0;have q:=List.cons.inj q;have hk:P.int (k.headD 0)=.int k':=q.1.symm.trans h1;have:k.headD 0=k':=by injection hk
   rw[ih h3 q.2 fun k hk=>hl k (GM _ hk),C2 (hl k GS),this];rfl
theorem ye{g:Gm}{l:List DictEntry}{kvs:List (Int×Value)}(h:Pairs (intKind prog wd) l kvs):cV g ((kvs.map fun x=>[x.1]).map (kP false)) (l.map (·.key)):=by
 induction h with
 |nil=>rfl
 |@cons e k _ _ h1 _ _ ih=>
  refine⟨_,_,rfl,?_,ih⟩;have:e.key.isInt k.1=true:=h1
  cases q:e.key with
  |int i t=>rw[q]at this;exact⟨t,q.trans (by rw[eq_of_beq this];rfl)⟩
  |_=>rw[q]at this;exact ft this
theorem yN(prog:Program)(wd:World){g:Gm}{h:Heap}{d:Addr}{es:List (P×P)}{t:Bool}{ks:List (List Int)}(hb:lj g h d (.dict es))(he:es.map (·.1)=ks.map (kP t))(hl:∀k∈ks,t=false→k.length=1) :
  (d==sysModules)=false∧ks.Nodup∧∃raw ep,uv h d raw ep∧cV g (ks.map (kP t)) (raw.toList.map (·.key)):=by
 have kd:∀x∈es,∃k,x.1=kP t k:=fun x hx=>by
  have:=List.mem_map_of_mem (f:=(·.1)) hx;rw[he]at this;refine e1b (List.mem_map.mp this) fun k _ e=>⟨k,e.symm⟩
 cases t with
 |true=>
  obtain⟨h0,⟨i,q,_⟩|⟨l,_,o,h1,h2⟩⟩:=gA prog wd (k:=kT [0]) hb (.inr ⟨⟨_,rfl⟩,fun x hx=>kd x hx⟩)
  ·cases q
  ·refine e3e h2 fun xs a0 ep q1 q2 q3 q4 q5=>?_;have k:=fW.kv q5 he;refine⟨h0,by rw[k.1];exact q4,a0,ep,⟨o,h1,q1,q2⟩,?_⟩
   rw[q3,List.map_map];exact k.2
 |false=>
  obtain⟨h0,⟨i,_,o,h1,h2⟩|⟨l,q,_⟩⟩:=gA prog wd (k:=.int 0) hb (.inl ⟨⟨_,rfl⟩,fun x hx=>(kd x hx).elim fun k e=>⟨_,e⟩⟩)
  ·refine e1b h2 fun kvs q1 q2=>?_;refine e2e (q1 prog wd) fun a0 ep x1 x2 x3 x4 x5=>?_;have k:=gj.kv q2 he fun k hk=>hl k hk rfl;refine⟨h0,?_,a0,ep,⟨o,h1,x1,x2⟩,by rw[k];exact ye x4⟩
   rw[k,show(kvs.map fun x=>[x.1])=(kvs.map (·.1)).map fun i=>[i]by rw[List.map_map];rfl]
   exact List.Pairwise.map _ (fun a b q e=>q (List.cons.inj e).1) x5
  ·cases q
theorem cV.append{g:Gm}:∀{xs ys:List P} {vs us:List Value},cV g xs vs→cV g ys us→cV g (xs++ys) (vs++us)
 |[],_,_,_,h,h'=>by subst h;exact h'
 |x::xs,ys,_,us,⟨v,r,e,h1,h2⟩,h'=>by subst e;exact⟨v,r++us,rfl,h1,cV.append h2 h'⟩
theorem nR{s:Shared}{A:Around}{E:Value→Shared→Prop}{l b:Addr}{vs ws:List Value}{n n2:Nat}{Q:Value→Shared→Prop}(hl:s.heap.get? l=some (nA vs n))(hb:s.heap.get? b=some (nA ws n2))(b7:vs.length+ws.length≤sizeLine)
  (h:Q (.ref s.heap.objs.size) {s with heap:=s.heap.push {cls:=.type "list",data:=.seq (vs++ws).toArray}}):wpAny (model prog wd) A (binaryOp .Add (.ref l) (.ref b)) Q E s:=by
 have e:vs.toArray++ws.toArray=(vs++ws).toArray:=by simp
 refine concat_meets ⟨_,hl,rfl⟩ ⟨_,hb,rfl⟩ noFill_list_add seq_list_add PySem.F.slot_list_add PySem.F.entry_list_add (PySem.F.args_list_add_2 _ _) (list_addW l b vs.toArray ws.toArray n n2 none none #[] #[] (by simpa using b7)) ⟨hl,hb,?_⟩
 rw[e];exact h
end
end
section
section
variable {M:Model}{A:Around}{s:Shared}{α:Type}
theorem dc{t t':Sem α}{Q:α→Shared→Prop}(h:t=t')(k:wpN M A t' Q s):wpN M A t Q s:=h▸k
theorem cC{p:Pos}{β:Type}{k:Unit→Sem β}{Q:β→Shared→Prop}(h:wpN M A (k ()) Q s):wpN M A (standAt p>>=k) Q s:=cH (wpAny_standAt h)
theorem dO{vs:List Value}{m:Sem Value}{Q:Value→Shared→Prop}(h:wpN M A m Q s):wpN M A (operate vs m) Q s:=fun Γ p hΓ hc=>by
 rw[Sem.wp_operate];exact h Γ p hΓ hc
end
def dg(H0:Heap)(f:Gm)(e:Env)(nm:List (Option Str))(G:Gh)(s:Shared)(n:Nat)(Q:V→St→Prop)(v:Value)(s':Shared):Prop:=
 ∃G' b3 x,gi s s'∧G.Le G'∧n≤b3.σ.length∧Pre H0 f e nm G' b3 s'∧dk G'.g G'.k x v∧Q x b3
def ku(H0:Heap)(f:Gm)(e:Env)(nm:List (Option Str))(G:Gh)(s:Shared)(n:Nat)(Q:Bool→St→Prop)(b:Bool)(s':Shared):Prop:=
 ∃G' b3,gi s s'∧G.Le G'∧n≤b3.σ.length∧Pre H0 f e nm G' b3 s'∧Q b b3
section
variable {H0:Heap}{f:Gm}{e:Env}{nm:List (Option Str)}{G G₁:Gh}{s s₁ s':Shared}{n n₁:Nat}
theorem zn.el{Q:List V→St→Prop}{vs:List Value}(p:zn H0 f e nm G s n Q vs s'){Z:Prop}(k:∀G' b3 xs,gi s s'→G.Le G'→n≤b3.σ.length→Pre H0 f e nm G' b3 s'→cZ G'.g G'.k xs vs→Q xs b3→Z):Z:=e3f p k
theorem dg.step{Q:V→St→Prop}{v:Value}(a:gi s s₁)(b:G.Le G₁)(c:n≤n₁)(h:dg H0 f e nm G₁ s₁ n₁ Q v s'):dg H0 f e nm G s n Q v s':=
 e3d h fun G' b3 x h1 h2 h3 h4=>⟨G',b3,x,a.trans h1,b.trans h2,Gp c h3,h4⟩
theorem ku.step{Q:Bool→St→Prop}{v:Bool}(a:gi s s₁)(b:G.Le G₁)(c:n≤n₁)(h:ku H0 f e nm G₁ s₁ n₁ Q v s'):ku H0 f e nm G s n Q v s':=
 e2d h fun G' b3 h1 h2 h3 h4=>⟨G',b3,a.trans h1,b.trans h2,Gp c h3,h4⟩
theorem dg.leaf{st:St}{x:V}{v:Value}{Q:V→St→Prop}(p:Pre H0 f e nm G st s')(sm:gi s s')(hv:dk G.g G.k x v)(q:Q x st):dg H0 f e nm G s st.σ.length Q v s':=
 ⟨G,st,x,sm, .refl _,Gw _,p,hv,q⟩
theorem dg.tok{st:St}{x:V}{v:Value}{Q:V→St→Prop}{t:Nat}(p:Pre H0 f e nm G st s)(hv:dk G.g G.k x v)(q:Q x st):dg H0 f e nm G s st.σ.length Q v {s with toks:=t}:=
 .leaf (p.toks rfl) ⟨rfl,rfl,rfl⟩ hv q
theorem dg.now{st:St}{x:V}{v:Value}{Q:V→St→Prop}(p:Pre H0 f e nm G st s)(hv:dk G.g G.k x v)(q:Q x st):dg H0 f e nm G s st.σ.length Q v s:=
 .leaf p (.refl _) hv q
theorem ku.now{st:St}{b:Bool}{Q:Bool→St→Prop}(p:Pre H0 f e nm G st s)(q:Q b st):ku H0 f e nm G s st.σ.length Q b s:=
 ⟨G,st, .refl _, .refl _,Gw _,p,q⟩
end
section
variable {H0:Heap}{f:Gm}{e:Env}{nm:List (Option Str)}{G:Gh}{s s':Shared}{n:Nat}{M:Model}{A:Around}
theorem fD{t:Sem Value}{Q:V→St→Prop}{K:Value→Shared→Prop}(h:wpN M A t (dg H0 f e nm G s n Q) s')
  (k:∀v s₁ G₁ a0 x,gi s s₁→G.Le G₁→n≤a0.σ.length→Pre H0 f e nm G₁ a0 s₁→dk G₁.g G₁.k x v→Q x a0→K v s₁):wpN M A t K s':=
 cE h fun v s₁ h=>h.elim fun G₁ h=>h.elim fun a0 h=>h.elim fun x h=>k v s₁ G₁ a0 x h.1 h.2.1 h.2.2.1 h.2.2.2.1 h.2.2.2.2.1 h.2.2.2.2.2
theorem CW{t:Sem (List Value)}{Q:List V→St→Prop}{K:List Value→Shared→Prop}(h:wpN M A t (zn H0 f e nm G s n Q) s')
  (k:∀v s₁ G₁ a0 x,gi s s₁→G.Le G₁→n≤a0.σ.length→Pre H0 f e nm G₁ a0 s₁→cZ G₁.g G₁.k x v→Q x a0→K v s₁):wpN M A t K s':=
 cE h fun v s₁ h=>h.elim fun G₁ h=>h.elim fun a0 h=>h.elim fun x h=>k v s₁ G₁ a0 x h.1 h.2.1 h.2.2.1 h.2.2.2.1 h.2.2.2.2.1 h.2.2.2.2.2
theorem zx{t:Sem Bool}{Q:Bool→St→Prop}{K:Bool→Shared→Prop}(h:wpN M A t (ku H0 f e nm G s n Q) s')
  (k:∀b s₁ G₁ a0,gi s s₁→G.Le G₁→n≤a0.σ.length→Pre H0 f e nm G₁ a0 s₁→Q b a0→K b s₁):wpN M A t K s':=
 cE h fun b s₁ h=>h.elim fun G₁ h=>h.elim fun a0 h=>k b s₁ G₁ a0 h.1 h.2.1 h.2.2.1 h.2.2.2.1 h.2.2.2.2
end
def EJ(H0:Heap)(M:Model)(A:Around)(e:Env)(nm:List (Option Str))(t:Sem Value)(W:St→(List V→St→Prop)→Prop):Prop:=
 ∀f G s st Q,Pre H0 f e nm G st s→W st Q→wpN M A t (dg H0 f e nm G s st.σ.length fun x st=>Q [x] st) s
def TJ(H0:Heap)(M:Model)(A:Around)(e:Env)(nm:List (Option Str))(t:Sem Bool)(W:St→(Bool→St→Prop)→Prop):Prop:=
 ∀f G s st Q,Pre H0 f e nm G st s→W st Q→wpN M A t (ku H0 f e nm G s st.σ.length Q) s
def LJ(H0:Heap)(M:Model)(A:Around)(e:Env)(nm:List (Option Str))(t:Sem (List Value))(W:St→(List V→St→Prop)→Prop):Prop:=
 ∀f G s st Q,Pre H0 f e nm G st s→W st Q→wpN M A t (zn H0 f e nm G s st.σ.length Q) s
section
variable {prog:Program}{wd:World}{A:Around}{H0:Heap}{e:Env}{nm:List (Option Str)}{Pk:Pg}{f:Gm}{G:Gh}{st:St}{s:Shared}
theorem fO{x:V}{a:Value}{Q:Bool→Prop}(hx:dk G.g G.k x a)(h:fB x st Q){K:Bool→Shared→Prop}(hk:∀b,Q b→K b s):wpN (model prog wd) A (truthy a) K s:=by
 cases x with
 |p y=>
  cases y with
  |none=>subst hx;exact cA fun _ _ _=>hk _ h
  |bool b=>subst hx;exact cA (wpAny_truthy_bool (hk _ h))
  |int i=>refine e1a hx fun t a3=>?_;clear hx;subst a3;exact cA (PySem.P.truthy_int (hk _ h))
  |_=>exact h.elim
 |_=>exact h.elim
theorem mx{g:Gm}{k:lg}{i:Int}{t:Tok}:dk g k (.p (.int i)) (.int i t):=⟨t,rfl⟩
theorem sE{g:Gm}{k:lg}{b:List UInt8}{t:Tok}:dk g k (.p (.bytes b)) (.bytes b.toArray t):=⟨t,rfl⟩
theorem gQ{g:Gm}{k:lg}{b:Bool}:dk g k (.p (.bool b)) (.bool b):=rfl
theorem vp{g:Gm}{k:lg}{x:P}{v:Value}(h:PRel g x v):dk g k (.p x) v:=h
theorem qX(a:Int):Builtin.bitNot a=-a-1:=by unfold Builtin.bitNot;exact gL [_] [] (.s (.g aa) ao) (.s (.g aa) ao) [] rfl
theorem q7{xs:List P}{vs:List Value}{Q:V→St→Prop}(p:Pre H0 f e nm G st s)(hv:cV G.g xs vs)(q:Q (.p (.lst xs)) st) :
  dg H0 f e nm G s st.σ.length Q (.ref s.heap.objs.size) {s with heap:=s.heap.push {cls:=.type "list",data:=.seq vs.toArray}}:=by
 refine e1e ((p.keeps (s':={s with heap:=s.heap.push {cls:=.type "list",data:=.seq vs.toArray}}) fun a o h=>Gy _ h).freeze (GG _ rfl) (p.fresh (Gw _)).2.2 (p.fresh (Gw _)).2.1) fun G' le p' g' k' _=>?_;exact⟨G',st,_,⟨rfl,rfl,rfl⟩,le,Gw _,p',vp (x:=.lst xs) ⟨_,_,vs,0,rfl,g',rfl,cV.mono le.g hv⟩,q⟩
theorem ph{g:Gm}{k:lg}{x y:V}{a b:Value}{K:Int→Int→Prop}(h:wl x y K)(hx:dk g k x a)(hy:dk g k y b)(M:Value→Value→Prop)(c:∀i j t u,K i j→M (.int i t) (.int j u)):M a b:=by
 refine e2c (lw h) fun i j b6 ck h=>?_;subst b6 ck;refine e1a hx fun t a3=>?_;clear hx;subst a3;refine e1a hy fun u a3=>?_;clear hy;subst a3;exact c i j t u h
theorem BS{op:Operator}{x y:V}{a b:Value}{Q:V→St→Prop}(p:Pre H0 f e nm G st s)(hx:dk G.g G.k x a)(hy:dk G.g G.k y b)(h:EG op x y st Q) :
  wpN (model prog wd) A (binaryOp op a b) (dg H0 f e nm G s st.σ.length Q) s:=by
 cases op with
 |Add=>
  refine e1b (gx h) fun x a3 h=>?_;subst a3
  cases x with
  |int i=>
   refine e1b (eu h) fun j a3 h=>?_;subst a3;refine e1a hx fun t a3=>?_;clear hx;subst a3;refine e1a hy fun u a3=>?_;clear hy;subst a3;exact cA (PySem.P.add_int (.tok p mx h))
  |lst l=>
   refine e1c (vR h) fun r a3 h0 h3=>?_;subst a3;refine e4d hx fun ad o vs k c1 h1 c2 h2=>?_;clear hx;subst c1 c2;refine e4d hy fun bd o' us k' c1 h5 c2 h4=>?_;clear hy;subst c1 c2;exact cA (nR (p.inv.gg _ _ h1) (p.inv.gg _ _ h5) (by rw[GJ,mO h2,mO h4];exact h0) (q7 p (h2.append h4) h3))
  |str l=>
   refine e1c (uO h) fun r a3 h0 h3=>?_;subst a3;refine e1a hx fun t a3=>?_;clear hx;subst a3;refine e1a hy fun u a3=>?_;clear hy;subst a3;exact cA (PySem.SB.add (fun t' k=>.tok p (vp (x:=.str _) ⟨_,rfl⟩) h3) (by rw[GJ];exact h0))
  |_=>exact h.elim
 |Sub=>exact ph h hx hy (fun a b=>wpN _ _ (binaryOp .Sub a b) _ s) fun i j t u h=>cA (PySem.P.sub_int (.tok p mx h))
 |Mult=>
  refine e1b (gx h) fun x a3 h=>?_;subst a3
  cases x with
  |int i=>
   refine e1b (eu h) fun j a3 h=>?_;subst a3;refine e1a hx fun t a3=>?_;clear hx;subst a3;refine e1a hy fun u a3=>?_;clear hy;subst a3;exact cA (PySem.P.mul_int (.tok p mx h.2) (IntMulOk.of_right (intBits_le_64 h.1.1 h.1.2)))
  |bytes l=>
   refine e1c (eu h) fun b a3 ct h3=>?_;subst a3;refine e0d ct fun h1 h2 h4 h5=>?_;refine e1a hx fun t a3=>?_;clear hx;subst a3;refine e1a hy fun u a3=>?_;clear hy;subst a3;exact cA (PySem.W.bytes_mul_any h1 (by exact lin [_] [] (.n (-1048576)) aa 1 [.i 1 an aa] rfl h4) h5 h2 fun t' k=>.tok p sE h3)
  |_=>exact h.elim
 |BitAnd=>exact ph h hx hy (fun a b=>wpN _ _ (binaryOp .BitAnd a b) _ s) fun i j t u h=>cA (PyProof.Rows.and_int (.tok p mx h))
 |FloorDiv=>
  refine e2d (lw h) fun a b b6 ck hb h'=>?_;clear h;subst b6 ck hb;refine e1a hx fun t a3=>?_;clear hx;subst a3;refine e1a hy fun u a3=>?_;clear hy;subst a3;refine cA (AutoIntOps.floordiv_1 (by decide) ?_ ?_)
  ·unfold Builtin.divisionGoesByPylong;have h0:((2:Int)==0)=false:=rfl;simp only[h0,Bool.false_eq_true,if_false];simp only[GC,decide_eq_true_eq,not_and];intro hc;exact absurd hc (by decide)
  rw[show a.fdiv 2=a / 2 from Int.fdiv_eq_ediv_of_nonneg _ (by decide)];exact .tok p mx h'
 |Pow=>
  refine e2d (lw h) fun a b b6 ck hc h'=>?_;clear h;subst b6 ck;refine e0c hc fun ha h4 h5=>?_;subst ha;refine e1a hx fun t a3=>?_;clear hx;subst a3;refine e1a hy fun u a3=>?_;clear hy;subst a3;by_cases hb:b=0
  ·subst hb;exact cA (AutoIntOps.pow_0 (by decide) rfl (.tok p mx h'))
  ·refine cA (AutoIntOps.pow_4 h4 (by simpa using hb) (by decide) (by decide) ?_ (.tok p mx h'))
   unfold Builtin.Int.intTooBig;simp only[decide_eq_true_eq,gt_iff_lt,Int.not_lt];have e:((Builtin.Int.intBits 2:Nat):Int)*b≤2*64:=Int.mul_le_mul_of_nonneg_left h5 (by decide)
   exact G9 e (by decide +kernel)
 |Mod=>
  refine e2c (lw h) fun a b b6 ck h=>?_;subst b6 ck;refine e1a hx fun t a3=>?_;clear hx;subst a3;refine e1a hy fun u a3=>?_;clear hy;subst a3;refine cA (AutoIntOps.mod_1 (by simpa using Int.ne_of_gt h.1) ?_)
  have:a.fmod b=a % b:=Int.fmod_eq_emod_of_nonneg _ (Int.le_of_lt h.1);rw[this];exact .tok p mx h.2
 |_=>exact h.elim
theorem yw{op:Operator}{x y:V}{a b:Value}{Q:V→St→Prop}(p:Pre H0 f e nm G st s)(hx:dk G.g G.k x a)(hy:dk G.g G.k y b)(h:EG op x y st Q)(b3:op=.Add∨op=.Sub∨op=.Mult∨op=.BitAnd)
  (hi:∃i,x=.p (.int i)) (hj:∃i,y=.p (.int i)):wpN (model prog wd) A (inplaceOp op a b) (dg H0 f e nm G s st.σ.length Q) s:=by
 refine e1a hi fun i a3=>?_;clear hi;subst a3;refine e1a hj fun j a3=>?_;clear hj;subst a3;refine e1a hx fun t a3=>?_;clear hx;subst a3;refine e1a hy fun u a3=>?_;clear hy;subst a3;rcases b3 with rfl|rfl|rfl|rfl
 ·exact cA (PySem.P.iadd_int (.tok p mx h))
 ·exact cA (PySem.P.isub_int (.tok p mx h))
 ·exact cA (PySem.P.imul_int (.tok p mx h.2) (IntMulOk.of_right (intBits_le_64 h.1.1 h.1.2)))
 ·exact cA (PyProof.Rows.iand_int (.tok p mx h))
theorem mU{x:V}{a:Value}(hx:dk G.g G.k x a):(a==Value.none)=s6 x:=by
 cases x with
 |p y=>
  cases y with
  |none=>subst hx;rfl
  |bool b=>subst hx;rfl
  |int i=>refine e1a hx fun t a3=>?_;clear hx;subst a3;rfl
  |str i=>refine e1a hx fun t a3=>?_;clear hx;subst a3;rfl
  |bytes i=>refine e1a hx fun t a3=>?_;clear hx;subst a3;rfl
  |fn b=>subst hx;cases b<;>rfl
  |st a=>subst hx;rfl
  |tup l=>refine e4b hx fun a _ _ _ c1 _=>?_;clear hx;subst c1;rfl
  |lst l=>refine e4b hx fun a _ _ _ c1 _=>?_;clear hx;subst c1;rfl
 |ref i=>refine e1b hx fun a _ b6=>?_;clear hx;subst b6;rfl
 |inn i=>refine e1b hx fun a _ b6=>?_;clear hx;subst b6;rfl
 |tup l=>refine e4b hx fun a _ _ _ c1 _=>?_;clear hx;subst c1;rfl
 |inst c l=>refine e4b hx fun a _ _ _ c1 _=>?_;clear hx;subst c1;rfl
theorem vY{x:V}{a:Value}{K:List P→Prop}(p:Pre H0 f e nm G st s)(hx:dk G.g G.k x a)(h:dI st.σ x fun l=>nL x∧K l) :
  ∃ad l vs k,a=.ref ad∧s.heap.get? ad=some (nA vs k)∧cV G.g l vs∧K l:=by
 have key:dK st.σ x (fun b=>match b with|.lst l=>nL x∧K l|_=>False)→∃ad l vs k,a=.ref ad∧s.heap.get? ad=some (nA vs k)∧cV G.g l vs∧K l:=fun h=>by
  refine e3e (p.box hx h) fun d bx key ck _ hb hr e0=>?_;subst ck;clear e0;cases bx with
  |lst l=>refine e2b hr fun vs n h1 h2=>?_;exact⟨d,l,vs,n,rfl,h1,h2,hb.2⟩
  |_=>exact hb.elim
 cases x with
 |p y=>
  cases y with
  |lst l=>refine e4d hx fun ad o vs n c1 h1 c2 h2=>?_;clear hx;subst c1 c2;exact⟨ad,l,vs,n,rfl,p.inv.gg _ _ h1,h2,h.2⟩
  |tup l=>exact h.1.elim
  |_=>exact h.elim
 |ref i=>exact key h
 |inn i k n=>exact key h
 |tup l=>exact key h
 |inst c l=>exact key h
theorem wH{x:V}{a:Value}{K:List (P×P)→Prop}(p:Pre H0 f e nm G st s)(hx:dk G.g G.k x a)(h:th st x K):∃ad es,a=.ref ad∧lj G.g s.heap ad (.dict es)∧K es:=by
 cases x with
 |ref i=>
  unfold th at h;dsimp only at h
  cases q:st.σ[i]? with
  |none=>rw[q]at h;exact h.elim
  |some o=>
   rw[q]at h
   cases o with
   |bx b=>cases b with
    |dict es=>
     refine e1c (p.inv.obj _ _ q) fun ad e1 e2 e3=>?_;refine e1b hx fun d4 e7 b6=>?_;clear hx;subst b6;rw[e1]at e7;clear p e2 e1;obtain rfl:=sj e7;exact⟨ad,es,rfl,e3,h⟩
    |_=>exact h.elim
   |_=>exact h.elim
 |_=>exact h.elim
theorem zM{x y:V}{a b:Value}{K:Bool→Prop}(p:Pre H0 f e nm G st s)(hy:dk G.g G.k y b)(h:inV x y st K):∃k bd es,x=.p k∧b=.ref bd∧lj G.g s.heap bd (.dict es)∧lX k es∧K (iM es k).isSome:=by
 refine e1b (gx h) fun k a3 h=>?_;subst a3;refine e3e (p.box hy h) fun d bx key ck _ hb hr e0=>?_;subst ck;clear h hy p a e0;cases bx with
 |dict es=>exact⟨k,d,es,rfl,rfl,hr,hb.1,hb.2⟩
 |_=>exact hb.elim
theorem vC{x y:V}{a b:Value}{K:Int→Int→Prop}{L:List Int→List Int→Prop}(p:Pre H0 f e nm G st s)(hx:dk G.g G.k x a)(hy:dk G.g G.k y b)(h:E9 x y K L)(M:Value→Value→Prop)(c:∀i j t u,K i j→M (.int i t) (.int j u))
  (d:∀i j,PRel G.g (kT i) a→PRel G.g (kT j) b→L i j→M a b):M a b:=by
 refine e1b (gx h) fun x a3 h=>?_;subst a3
 cases x with
 |int i=>
  refine e1b (eu h) fun j a3 h=>?_;subst a3;refine e1a hx fun t a3=>?_;clear hx;subst a3;refine e1a hy fun u a3=>?_;clear hy;subst a3;exact c i j t u h
 |tup l=>
  refine e1b (ro h) fun r a3 h'=>?_;subst a3;refine e2b h' fun i j a0 q=>?_;refine e0b a0 fun e1 e2=>?_;subst e1 e2;exact d i j hx hy q
 |_=>exact h.elim
theorem ly{op:CmpOp}{x y:V}{a b:Value}{Q:V→St→Prop}(hu:A.units+80<cLine)(p:Pre H0 f e nm G st s)(hx:dk G.g G.k x a)(hy:dk G.g G.k y b)(h:r0 op x y st Q) :
  wpN (model prog wd) A (compareOp op a b) (dg H0 f e nm G s st.σ.length Q) s:=by
 cases op with
 |Is=>
  refine e1b (gx h) fun y a3 h=>?_;subst a3
  cases y with
  |none=>subst hy;refine cA (is_none ?_);rw[mU hx];exact .now p gQ h
  |st c=>
   refine e1b (gx h) fun x a3 h2=>?_;subst a3
   cases x with
   |st d=>
    subst hx;subst hy;revert h2;intro zh;refine e0b zh fun b6 h2=>?_;clear zh;subst b6;exact cA (wpAny_is_ref_self (.now p gQ h2))
   |_=>exact h2.elim
  |_=>exact h.elim
 |IsNot=>
  refine e1b (gx h) fun y a3 h=>?_;subst a3
  cases y with
  |none=>subst hy;refine cA (isNot_none ?_);rw[mU hx];exact .now p gQ h
  |_=>exact h.elim
 |Lt=>
  refine vC p hx hy h (fun a b=>wpN _ _ (compareOp .Lt a b) _ s) (fun i j t u h=>cA (PySem.P.lt_int (.now p gQ h))) fun i j e1 e2 h=>?_;exact sF (q:=false) p.inv.gg hu e1 e2 (.now p gQ h)
 |LtE=>
  refine vC p hx hy h (fun a b=>wpN _ _ (compareOp .LtE a b) _ s) (fun i j t u h=>cA (PySem.P.le_int (.now p gQ h))) fun i j e1 e2 h=>?_;exact sF (q:=true) p.inv.gg hu e1 e2 (.now p gQ h)
 |Gt=>exact ph h hx hy (fun a b=>wpN _ _ (compareOp .Gt a b) _ s) fun i j t u h=>cA (PySem.P.gt_int (.now p gQ h))
 |GtE=>exact ph h hx hy (fun a b=>wpN _ _ (compareOp .GtE a b) _ s) fun i j t u h=>cA (PySem.P.ge_int (.now p gQ h))
 |Eq=>
  refine e1b (gx h) fun y a3 h=>?_;subst a3
  cases y with
  |int b=>
   refine e1b (eu h) fun a a3 h=>?_;subst a3;refine e1a hx fun t a3=>?_;clear hx;subst a3;refine e1a hy fun u a3=>?_;clear hy;subst a3;exact cA (PySem.P.eq_int (.now p gQ h))
  |tup b=>
   refine e1b (ro h) fun a a3 h'=>?_;subst a3;refine e2b h' fun i j a0 q=>?_;refine e0b a0 fun e1 e2=>?_;subst e1 e2;exact Aj p.inv.gg hu hx hy (.now p gQ q)
  |lst b=>
   refine e4d (vY p hx (K:=fun a=>(a=b∧∃t,∃u:List (List Int×Int),b=u.map (Cd t))∧Q (.p (.bool true)) st) (fN h fun l hl=>⟨hl.1.1,⟨hl.1.2.1,hl.1.2.2⟩,hl.2⟩)) fun ad l vs k c1 h1 h2 q=>?_;subst c1;refine e4d hy fun bd o us k' c1 h3 c2 h4=>?_;clear hy;subst c1 c2;refine e0b q fun e3 q'=>?_;refine e0b e3 fun e1 e2=>?_;refine e2a e2 fun t u e2=>?_;subst e1;subst e2;exact AM p.inv.gg hu h1 h2 (p.inv.gg _ _ h3) h4 (.now p gQ q')
  |_=>exact h.elim
 |NotEq=>
  refine e1b (gx h) fun x a3 h=>?_;subst a3;refine e1b (gx h) fun z a3 h=>?_;subst a3
  cases x with
  |int c=>cases z with
   |int d=>
    refine e1a hx fun t a3=>?_;clear hx;subst a3;refine e1a hy fun u a3=>?_;clear hy;subst a3;refine cA (PySem.P.ne_int (.now p gQ ?_));have:(c != d)=decide (c≠d):=by by_cases q:c=d<;>simp[q]
    rw[this];exact h
   |none=>refine e1a hx fun t a3=>?_;clear hx;subst a3 hy;exact cA (EqNone.ne_int_none (.now p gQ h))
   |_=>exact h.elim
  |none=>cases z with
   |int d=>refine e1a hy fun t a3=>?_;clear hy;subst a3 hx;exact cA (EqNone.ne_none_int (.now p gQ h))
   |none=>subst hx hy;exact cA (EqNone.ne_none_none (.now p gQ h))
   |_=>exact h.elim
  |_=>exact h.elim
 |In=>
  refine e3e (zM (a:=a) (K:=fun b=>Q (.p (.bool b)) st) p hy h) fun k bd es ck c1 hr h1 h2=>?_;subst ck c1;exact BI hu p.inv.gg hr h1 hx fun t=>.tok p gQ h2
 |NotIn=>
  refine e3e (zM (a:=a) (K:=fun b=>Q (.p (.bool (!b))) st) p hy h) fun k bd es ck c1 hr h1 h2=>?_;subst ck c1;exact ub hu p.inv.gg hr h1 hx fun t=>.tok p gQ h2
theorem oo{c:Const}{x:P}{k:Nat}{pos:Pos}(hc:(c=.none∧x=.none)∨(∃b,c=.bool b∧x=.bool b)∨(∃b,c=.int b∧x=.int b)∨(∃b,c=.str b∧x=.str b)∨(∃b,c=.bytes b∧x=.bytes b)) :
  EJ H0 (model prog wd) A e nm (eval (.Constant c k pos) e) (w Pk (.lit x)):=fun f G s st Q p h=>by
 rw[eval_Constant];clear pos k;rcases hc with⟨rfl,rfl⟩|⟨b,rfl,rfl⟩|⟨b,rfl,rfl⟩|⟨b,rfl,rfl⟩|⟨b,rfl,rfl⟩
 ·exact fun _ _ _ _=>.now (Q:=fun x st=>Q [x] st) p (vp (x:=.none) rfl) h
 ·exact fun _ _ _ _=>.now (Q:=fun x st=>Q [x] st) p gQ h
 ·exact fun _ _ _ _=>.tok (Q:=fun x st=>Q [x] st) p mx h
 ·exact fun _ _ _ _=>.tok (Q:=fun x st=>Q [x] st) p (vp (x:=.str _) ⟨_,rfl⟩) h
 ·exact fun _ _ _ _=>.tok (Q:=fun x st=>Q [x] st) p sE h
theorem DA{n:Str}{pos:Pos}{i:Nat}(hn:nm[i]?=some (some n))(h1:(n==("__debug__" : Str))=false)(h2:(n==("__classdict__" : Str))=false) :
  EJ H0 (model prog wd) A e nm (eval (.Name n pos) e) (w Pk (.var i)):=fun f G s st Q p h=>by
 refine e1b (tc h) fun v hv h=>?_;exact cA (wpAny_Name (p.load hn hv h2 fun a ha=>.now p ha h) h1)
def q9(H0:Heap)(n:Str)(x:P):Prop:=∃mg mb v,H0.Ns mainGlobals mg∧H0.Ns builtinsNs mb∧(mg n=some v∨(mg n=none∧mb n=some v))∧PRel H0.get? x v
theorem Pre.h0(p:Pre H0 f e nm G st s):∀b o,H0.get? b=some o→s.heap.get? b=some o:=fun b o h=>p.inv.gg b o (p.inv.base b o h)
theorem Pre.prel(p:Pre H0 f e nm G st s){x:P}{v:Value}(h:PRel H0.get? x v):PRel G.g x v:=h.mono p.inv.base
theorem rW{n:Str}{pos:Pos}{x:P}(hk:e.kindOf n=some .globalImplicit)(hg:e.globals=mainGlobals)(hb:e.builtins=builtinsNs)(h1:(n==("__debug__" : Str))=false)(hx:q9 H0 n x) :
  EJ H0 (model prog wd) A e nm (eval (.Name n pos) e) (w Pk (.glob x)):=fun f G s st Q p h=>by
 refine e3d hx fun mg mb v g1 g2 g3 g4=>?_;refine cA (Name_function_global p.fr.kind hk ?_ h1);clear hx h1 hk pos;rcases g3 with g3|⟨g3,g5⟩
 ·exact loadGlobal_global (by rw[hg];exact g1.keeps p.h0) g3 (.now p (vp (p.prel g4)) h)
 ·exact loadGlobal_builtin (by rw[hg];exact g1.keeps p.h0) g3 (by rw[hb];exact g2.keeps p.h0) g5 (.now p (vp (p.prel g4)) h)
end
end
section
section
variable {prog:Program}{wd:World}{A:Around}{H0:Heap}{e:Env}{nm:List (Option Str)}{Pk:Pg}{f:Gm}{G:Gh}{st:St}{s:Shared}
variable {l r t:PySem.Expr}{cl cr ct:C}{pos:Pos}
theorem mu{M:Model}{β:Type}{vs kp:List Value}{k:Unit→Sem β}{Q:β→Shared→Prop}(h:wpN M A (k ()) Q s):wpN M A (release vs kp>>=k) Q s:=
 cy fun Γ p hΓ hc=>by rw[Sem.wp_release];exact h
theorem DJ{op:Operator}(hl:EJ H0 (model prog wd) A e nm (eval l e) (w Pk cl))(hr:EJ H0 (model prog wd) A e nm (eval r e) (w Pk cr)) :
  EJ H0 (model prog wd) A e nm (eval (.BinOp l op r pos) e) (w Pk (.bin op cl cr)):=fun f G s st Q p h=>by
 refine dc (eval_BinOp ..) ?_;refine cy (fD (hl f G s st _ p h) fun a s₁ G₁ a0 x a5 a4 n₁ ah b4 ac=>?_);refine cy (cB (fD (hr f G₁ s₁ a0 _ ah ac) fun b ar d1 c0 y aw ag cc b5 b7 bb=>?_));refine cC (dO (cE (BS b5 (b4.le ag) b7 (jH (jH bb :) :)) fun v d4 a3=>a3.step (a5.trans aw) (a4.trans ag) (Gp n₁ cc)))
theorem DB{op:UnaryOp}(b3:op=.USub∨op=.Invert)(hl:EJ H0 (model prog wd) A e nm (eval l e) (w Pk cl)) :
  EJ H0 (model prog wd) A e nm (eval (.UnaryOp op l pos) e) (w Pk (.un op cl)):=fun f G s st Q p h=>by
 refine dc (arm_eval_UnaryOp ..) ?_;refine cy (fD (hl f G s st _ p h) fun a s₁ G₁ a0 x a5 a4 n₁ ah b4 ac=>?_);refine cC (cB ?_);refine e1b (eu (jH ac)) fun i a3 ac=>?_;subst a3;refine e1a b4 fun t a3=>?_;clear b4;subst a3;clear hl h p;rcases b3 with rfl|rfl
 ·exact cA (PySem.P.neg_int (dg.step a5 a4 n₁ (.tok (Q:=fun x st=>Q [x] st) ah mx ac)))
 ·exact cA (PyProof.Rows.invert_int (by rw[qX];exact dg.step a5 a4 n₁ (.tok (Q:=fun x st=>Q [x] st) ah mx ac)))
theorem DE(hl:EJ H0 (model prog wd) A e nm (eval l e) (w Pk cl)) :
  EJ H0 (model prog wd) A e nm (eval (.UnaryOp .Not l pos) e) (w Pk (.not cl)):=fun f G s st Q p h=>by
 refine dc (arm_eval_UnaryOp ..) ?_;refine cy (fD (hl f G s st _ p h) fun a s₁ G₁ a0 x a5 a4 n₁ ah b4 ac=>?_);refine cC (cB ?_);unfold unaryOp;refine cB ?_;refine(?_:wpN _ _ (truthy a>>=fun b=>pure (Value.bool (!b))) _ _);exact cy (fO b4 (jH ac :) fun b hb=>wpN_pure (dg.step a5 a4 n₁ (.now (Q:=fun x st=>Q [x] st) ah gQ hb)))
theorem DK(hl:EJ H0 (model prog wd) A e nm (eval l e) (w Pk cl))(hr:EJ H0 (model prog wd) A e nm (eval r e) (w Pk cr)) :
  EJ H0 (model prog wd) A e nm (eval (.BoolOp .And [l,r] pos) e) (w Pk (.and cl cr)):=fun f G s st Q p h=>by
 show wpN _ _ (do
  let v ←eval l e
  standAt pos
  let t ←holding [v] (truthy v)
  match BoolOp.And,t with
  |.And,false|.Or,true=>pure v
  |_,_=>boolOp pos .And [eval r e]) _ _
 refine cy (fD (hl f G s st _ p h) fun a s₁ G₁ a0 x a5 a4 n₁ ah b4 ac=>?_);refine cC (cy (cB (fO b4 (jH ac :) fun b hb=>?_)));clear ac hl h p;cases b with
 |false=>exact wpN_pure (dg.step a5 a4 n₁ (.now (Q:=fun x st=>Q [x] st) ah b4 (hb.f rfl)))
 |true=>exact cE (hr f G₁ s₁ a0 _ ah (hb.t rfl)) fun v d4 a3=>a3.step a5 a4 n₁
theorem FF(hl:EJ H0 (model prog wd) A e nm (eval l e) (w Pk cl))(hr:EJ H0 (model prog wd) A e nm (eval r e) (w Pk cr)) :
  EJ H0 (model prog wd) A e nm (eval (.BoolOp .Or [l,r] pos) e) (w Pk (.or cl cr)):=fun f G s st Q p h=>by
 show wpN _ _ (do
  let v ←eval l e
  standAt pos
  let t ←holding [v] (truthy v)
  match BoolOp.Or,t with
  |.And,false|.Or,true=>pure v
  |_,_=>boolOp pos .Or [eval r e]) _ _
 refine cy (fD (hl f G s st _ p h) fun a s₁ G₁ a0 x a5 a4 n₁ ah b4 ac=>?_);refine cC (cy (cB (fO b4 (jH ac :) fun b hb=>?_)));clear ac hl h p;cases b with
 |true=>exact wpN_pure (dg.step a5 a4 n₁ (.now (Q:=fun x st=>Q [x] st) ah b4 (hb.t rfl)))
 |false=>exact cE (hr f G₁ s₁ a0 _ ah (hb.f rfl)) fun v d4 a3=>a3.step a5 a4 n₁
theorem DI(hu:A.units+80<cLine){op:CmpOp}(hm:behindInMarks op r=false)(hl:EJ H0 (model prog wd) A e nm (eval l e) (w Pk cl))(hr:EJ H0 (model prog wd) A e nm (eval r e) (w Pk cr)) :
  EJ H0 (model prog wd) A e nm (eval (.Compare l [op] [r] pos) e) (w Pk (.cmp op cl cr)):=fun f G s st Q p h=>by
 refine dc (eval_Compare1 ..) ?_;rw[markedBehindIn_of_false hm];refine cy (fD (hl f G s st _ p h) fun a s₁ G₁ a0 x a5 a4 n₁ ah b4 ac=>?_);refine cy (cB (fD (hr f G₁ s₁ a0 _ ah ac) fun b ar d1 c0 y aw ag cc b5 b7 bb=>?_));exact cC (dO (cE (ly hu b5 (b4.le ag) b7 (jH (jH bb :) :)) fun v d4 a3=>a3.step (a5.trans aw) (a4.trans ag) (Gp n₁ cc)))
theorem CA(hu:A.units+80<cLine){op:CmpOp}{whole:Sem Value}(hm:behindInMarks op r=false)(hl:EJ H0 (model prog wd) A e nm (eval l e) (w Pk cl))(hr:EJ H0 (model prog wd) A e nm (eval r e) (w Pk cr)) :
  TJ H0 (model prog wd) A e nm (isTrue (.Compare l [op] [r] pos) e whole) (wt Pk (.cmp op cl cr)):=fun f G s st Q p h=>by
 refine dc (isTrue_Compare1 ..) ?_;rw[markedBehindIn_of_false hm];refine cy (fD (hl f G s st _ p h) fun a s₁ G₁ a0 x a5 a4 n₁ ah b4 ac=>?_);refine cy (cB (fD (hr f G₁ s₁ a0 _ ah ac) fun b ar d1 c0 y aw ag cc b5 b7 bb=>?_));refine cC (cy (dO (fD (ly hu b5 (b4.le ag) b7 (jH (jH bb :) :)) fun v d4 e4 d2 z cf ce e3 d3 dh df=>?_)));exact cB (fO dh df fun b hb=>ku.step (((a5.trans aw).trans cf)) ((a4.trans ag).trans ce) (Gp (Gp n₁ cc) e3) (.now d3 hb))
theorem yM(hu:A.units+80<cLine){o1 o2:CmpOp}(h1:behindInMarks o1 r=false)(h2:behindInMarks o2 t=false)(hl:EJ H0 (model prog wd) A e nm (eval l e) (w Pk cl))(hr:EJ H0 (model prog wd) A e nm (eval r e) (w Pk cr))
  (ht:EJ H0 (model prog wd) A e nm (eval t e) (w Pk ct)):EJ H0 (model prog wd) A e nm (eval (.Compare l [o1,o2] [r,t] pos) e) (w Pk (.chain o1 o2 cl cr ct)):=fun f G s st Q p h=>by
 have e0:eval (.Compare l [o1,o2] [r,t] pos) e=(do
   let a ←eval l e
   let rv ←holding [a] (eval r e)
   standAt pos
   let c ←holding [a,rv] (compareOp o1 a rv)
   release [a,rv] [c]
   if ←holding [c,rv] (truthy c)then(do let z ←holding [rv] (markedBehindIn o2 t (eval t e));standAt pos;operate [rv,z] (compareOp o2 rv z))else pure c):=rfl
 refine dc e0 ?_;rw[markedBehindIn_of_false h2];refine cy (fD (hl f G s st _ p h) fun a s₁ G₁ a0 x a5 a4 n₁ ah b4 ac=>?_);refine cy (cB (fD (hr f G₁ s₁ a0 _ ah ac) fun b ar d1 c0 y aw ag cc b5 b7 bb=>?_));refine cC (cy (cB (fD (ly hu b5 (b4.le ag) b7 (jH (jH bb :) :)) fun c d4 e4 d2 z cf ce e3 d3 dh df=>?_)));refine mu (cy (cB (fO dh df fun b hb=>?_)));have fin:∀{v' s' Q'},dg H0 f e nm e4 d4 d2.σ.length Q' v' s'→dg H0 f e nm G s st.σ.length Q' v' s':=dg.step ((a5.trans aw).trans cf) ((a4.trans ag).trans ce) (Gp (Gp n₁ cc) e3);clear bb hr hl h2 h1 e0 df e3 cf b5 cc ag aw c0 ar ac b4 ah n₁ a4 a5;cases b with
 |false=>exact wpN_pure (fin (.now (Q:=fun x st=>Q [x] st) d3 dh (hb.f rfl)))
 |true=>
  refine cy (cB (fD (ht f e4 d4 d2 _ d3 (hb.t rfl)) fun c d5 e6 dx y' dv b3 e7 dd e5 dr=>?_));exact cC (dO (cE (ly hu dd (b7.le (ce.trans b3)) e5 (jH dr :)) fun v c1 a3=>fin (a3.step dv b3 e7)))
theorem xz(hu:A.units+80<cLine){o1 o2:CmpOp}{whole:Sem Value}(h1:behindInMarks o1 r=false)(h2:behindInMarks o2 t=false)(hl:EJ H0 (model prog wd) A e nm (eval l e) (w Pk cl))(hr:EJ H0 (model prog wd) A e nm (eval r e) (w Pk cr))
  (ht:EJ H0 (model prog wd) A e nm (eval t e) (w Pk ct)):TJ H0 (model prog wd) A e nm (isTrue (.Compare l [o1,o2] [r,t] pos) e whole) (wt Pk (.chain o1 o2 cl cr ct)):=fun f G s st Q p h=>by
 have e0:isTrue (.Compare l [o1,o2] [r,t] pos) e whole=(do
   let a ←eval l e
   let rv ←holding [a] (eval r e)
   standAt pos
   let c ←holding [a,rv] (compareOp o1 a rv)
   release [a,rv] [c]
   if ←holding [c,rv] (truthy c)then(do let z ←holding [rv] (markedBehindIn o2 t (eval t e));standAt pos;let c ←operate [rv,z] (compareOp o2 rv z);holding [c] (truthy c))else pure false):=rfl
 refine dc e0 ?_;rw[markedBehindIn_of_false h2];refine cy (fD (hl f G s st _ p h) fun a s₁ G₁ a0 x a5 a4 n₁ ah b4 ac=>?_);refine cy (cB (fD (hr f G₁ s₁ a0 _ ah ac) fun b ar d1 c0 y aw ag cc b5 b7 bb=>?_));refine cC (cy (cB (fD (ly hu b5 (b4.le ag) b7 (jH (jH bb :) :)) fun c d4 e4 d2 z cf ce e3 d3 dh df=>?_)));refine mu (cy (cB (fO dh df fun b hb=>?_)));have fin:∀{v' s' Q'},ku H0 f e nm e4 d4 d2.σ.length Q' v' s'→ku H0 f e nm G s st.σ.length Q' v' s':=ku.step ((a5.trans aw).trans cf) ((a4.trans ag).trans ce) (Gp (Gp n₁ cc) e3);clear bb hr hl h2 h1 e0 df dh e3 cf z b5 cc ag aw c0 ar ac b4 ah n₁;cases b with
 |false=>exact wpN_pure (fin (.now d3 (hb.f rfl)))
 |true=>
  refine cy (cB (fD (ht f e4 d4 d2 _ d3 (hb.t rfl)) fun c d5 e6 dx y' dv b3 e7 dd e5 dr=>?_));refine cC (cy (dO (fD (ly hu dd (b7.le (ce.trans b3)) e5 (jH dr :)) fun v c1 c3 b6 y5 e8 c2 e9 dt eb ck=>?_)));exact cB (fO eb ck fun b hb=>fin (ku.step (dv.trans e8) (b3.trans c2) (Gp e7 e9) (.now dt hb)))
theorem Cy{whole:Sem Value}(hl:TJ H0 (model prog wd) A e nm (isTrue l e (eval l e)) (wt Pk cl)):TJ H0 (model prog wd) A e nm (isTrue (.UnaryOp .Not l pos) e whole) (wt Pk (.not cl)):=fun f G s st Q p h=>by
 refine dc (arm_isTrue_UnaryOp ..) ?_;exact cy (cE (hl f G s st _ p h) fun b s₁ P=>wpN_pure P)
theorem CB{whole:Sem Value}(hl:TJ H0 (model prog wd) A e nm (isTrue l e (eval l e)) (wt Pk cl))(hr:TJ H0 (model prog wd) A e nm (isTrue r e (eval r e)) (wt Pk cr)) :
  TJ H0 (model prog wd) A e nm (isTrue (.BoolOp .And [l,r] pos) e whole) (wt Pk (.and cl cr)):=fun f G s st Q p h=>by
 have e0:isTrue (.BoolOp .And [l,r] pos) e whole=(do
  match BoolOp.And,←isTrue l e (eval l e)with
  |.And,false=>pure false
  |.Or,true=>pure true
  |_,_=>(do match BoolOp.And,←isTrue r e (eval r e)with
   |.And,false=>pure false
   |.Or,true=>pure true
   |_,_=>pure true)):=rfl
 refine dc e0 ?_;refine cy (zx (hl f G s st _ p h) fun b s₁ G₁ a0 a5 a4 n₁ ah ac=>?_);clear hl e0 h p;cases b with
 |false=>exact wpN_pure (ku.step a5 a4 n₁ (.now ah (ac.f rfl)))
 |true=>
  refine cy (cE (hr f G₁ s₁ a0 _ ah (ac.t rfl)) fun b ar P=>?_);clear hr whole ac ah;cases b<;>exact wpN_pure (P.step a5 a4 n₁)
theorem EO{whole:Sem Value}(hl:TJ H0 (model prog wd) A e nm (isTrue l e (eval l e)) (wt Pk cl))(hr:TJ H0 (model prog wd) A e nm (isTrue r e (eval r e)) (wt Pk cr)) :
  TJ H0 (model prog wd) A e nm (isTrue (.BoolOp .Or [l,r] pos) e whole) (wt Pk (.or cl cr)):=fun f G s st Q p h=>by
 have e0:isTrue (.BoolOp .Or [l,r] pos) e whole=(do
  match BoolOp.Or,←isTrue l e (eval l e)with
  |.And,false=>pure false
  |.Or,true=>pure true
  |_,_=>(do match BoolOp.Or,←isTrue r e (eval r e)with
   |.And,false=>pure false
   |.Or,true=>pure true
   |_,_=>pure false)):=rfl
 refine dc e0 ?_;refine cy (zx (hl f G s st _ p h) fun b s₁ G₁ a0 a5 a4 n₁ ah ac=>?_);clear hl e0 h p;cases b with
 |true=>exact wpN_pure (ku.step a5 a4 n₁ (.now ah (ac.t rfl)))
 |false=>
  refine cy (cE (hr f G₁ s₁ a0 _ ah (ac.f rfl)) fun b ar P=>?_);clear hr whole ac ah;cases b<;>exact wpN_pure (P.step a5 a4 n₁)
theorem DG(ht:TJ H0 (model prog wd) A e nm (isTrue t e (eval t e)) (wt Pk ct))(hl:EJ H0 (model prog wd) A e nm (eval l e) (w Pk cl))(hr:EJ H0 (model prog wd) A e nm (eval r e) (w Pk cr)) :
  EJ H0 (model prog wd) A e nm (eval (.IfExp t l r pos) e) (w Pk (.ite ct cl cr)):=fun f G s st Q p h=>by
 refine dc (arm_eval_IfExp ..) ?_;refine cy (zx (ht f G s st _ p h) fun b s₁ G₁ a0 a5 a4 n₁ ah ac=>?_);clear ht h p;cases b with
 |true=>exact dE rfl (cE (hl f G₁ s₁ a0 _ ah (ac.t rfl)) fun v ar P=>P.step a5 a4 n₁)
 |false=>exact cF rfl (cE (hr f G₁ s₁ a0 _ ah (ac.f rfl)) fun v ar P=>P.step a5 a4 n₁)
theorem Cz{whole:Sem Value}(ht:TJ H0 (model prog wd) A e nm (isTrue t e (eval t e)) (wt Pk ct))(hl:TJ H0 (model prog wd) A e nm (isTrue l e (eval l e)) (wt Pk cl))(hr:TJ H0 (model prog wd) A e nm (isTrue r e (eval r e)) (wt Pk cr)) :
  TJ H0 (model prog wd) A e nm (isTrue (.IfExp t l r pos) e whole) (wt Pk (.ite ct cl cr)):=fun f G s st Q p h=>by
 refine dc (arm_isTrue_IfExp ..) ?_;refine cy (zx (ht f G s st _ p h) fun b s₁ G₁ a0 a5 a4 n₁ ah ac=>?_);clear ht whole h p;cases b with
 |true=>exact dE rfl (cE (hl f G₁ s₁ a0 _ ah (ac.t rfl)) fun v ar P=>P.step a5 a4 n₁)
 |false=>exact cF rfl (cE (hr f G₁ s₁ a0 _ ah (ac.f rfl)) fun v ar P=>P.step a5 a4 n₁)
theorem sG{W:St→(List V→St→Prop)→Prop}{W':St→(Bool→St→Prop)→Prop}(he:isTrue t e (eval t e)=(do let v ←eval t e;standAt t.pos;holding [v] (truthy v)))
  (hW:∀st Q,W' st Q→W st fun vs st=>one vs fun x=>fB x st fun b=>Q b st) (hl:EJ H0 (model prog wd) A e nm (eval t e) W):TJ H0 (model prog wd) A e nm (isTrue t e (eval t e)) W':=fun f G s st Q p h=>by
 rw[he];refine cy (fD (hl f G s st _ p (hW _ _ h)) fun v s₁ G₁ a0 x a5 a4 n₁ ah b4 ac=>?_);exact cC (cB (fO b4 (jH ac :) fun b hb=>ku.step a5 a4 n₁ (.now ah hb)))
theorem An{k:Nat}{b:Bool}:TJ H0 (model prog wd) A e nm (isTrue (.Constant (.bool b) k pos) e (eval (.Constant (.bool b) k pos) e)) (wt Pk (.lit (.bool b))):=
 sG (W:=w Pk (.lit (.bool b))) rfl (fun st Q h=>h) (oo (.inr (.inl ⟨b,rfl,rfl⟩)))
theorem C8:LJ H0 (model prog wd) A e nm (spliced (backTo pos (starEach [] e))) (w Pk .nil):=fun f G s st Q p h=>
 wpN_pure ⟨G,st,[], .refl _, .refl _,Gw _,p,rfl,h⟩
theorem A8{rest:List PySem.Expr}(he:starEach (l::rest) e=(false,eval l e)::starEach rest e)(hl:EJ H0 (model prog wd) A e nm (eval l e) (w Pk cl))(hr:LJ H0 (model prog wd) A e nm (spliced (backTo pos (starEach rest e))) (w Pk cr)) :
  LJ H0 (model prog wd) A e nm (spliced (backTo pos (starEach (l::rest) e))) (w Pk (.cons cl cr)):=fun f G s st Q p h=>by
 rw[he]
 show wpN _ _ (do
  let v ←eval l e
  let here ←(pure [v]:Sem (List Value))
  return here++(←holding here (spliced (backTo pos (starEach rest e))))) _ _
 refine cy (fD (hl f G s st _ p h) fun v s₁ G₁ a0 x a5 a4 n₁ ah b4 ac=>?_);refine cy (wpN_pure (cy (cB (CW (hr f G₁ s₁ a0 _ ah ac) fun vs ar d1 c0 xs aw ag cc b5 b7 bb=>wpN_pure ?_))));exact⟨d1,c0,x::xs,a5.trans aw,a4.trans ag,Gp n₁ cc,b5,⟨v,vs,rfl,b4.le ag,b7⟩,bb⟩
end
end
section
section
variable {prog:Program}{wd:World}{A:Around}{H0:Heap}{e:Env}{nm:List (Option Str)}{Pk:Pg}{f:Gm}{G:Gh}{st:St}{s:Shared}
variable {l r t:PySem.Expr}{cl cr ct:C}{pos:Pos}
theorem cZ.length{g:Gm}{k:lg}:∀{xs:List V} {vs:List Value},cZ g k xs vs→vs.length=xs.length
 |[],_,h=>by subst h;rfl
 |_::_,_,⟨v,r,e,_,h⟩=>by subst e;simp[h.length]
theorem cV.length{g:Gm}:∀{xs:List P} {vs:List Value},cV g xs vs→vs.length=xs.length
 |[],_,h=>by subst h;rfl
 |_::_,_,⟨v,r,e,_,h⟩=>by subst e;simp[h.length]
set_option tactic.hygienic true in
theorem cZ.ps{g:Gm}{k:lg}:∀{xs:List V} {vs:List Value} {ps:List P},cZ g k xs vs→ps? xs=some ps→cV g ps vs
 |[],_,_,h,h'=>by subst h;clear k;obtain rfl:=sj h';rfl
 |.p x::r,_,ps,⟨v,r',e,h1,h⟩,h'=>by
  subst e;simp only[ps?]at h'
  split at h'
  ·rename_i l hl;obtain rfl:=sj h';exact⟨v,r',rfl,h1,h.ps hl⟩
  ·exact ns h'
 |.ref _::_,_,_,_,h'=>by exact ns h'
 |.inn _ _ _::_,_,_,_,h'=>by exact ns h'
 |.tup _::_,_,_,_,h'=>by exact ns h'
 |.inst _ _::_,_,_,_,h'=>by exact ns h'
theorem Pre.pushG(p:Pre H0 f e nm G st s)(o:Obj)(hf:o.isFreed=false) :
  ∃G',G.Le G'∧Pre H0 f e nm G' st {s with heap:=s.heap.push o}∧G'.g s.heap.objs.size=some o∧G'.k=G.k∧G'.ow=G.ow:=
 (p.keeps (s':={s with heap:=s.heap.push o}) fun a o h=>Gy _ h).freeze (GG _ hf) (p.fresh (Gw _)).2.2 (p.fresh (Gw _)).2.1
theorem Cs{xs:List V}{vs:List Value}{Q:V→St→Prop}(p:Pre H0 f e nm G st s)(hv:cZ G.g G.k xs vs)(hl:xs.length≤1000)(h:Q (Ak xs) st) :
  wpN (model prog wd) A (newTuple vs) (dg H0 f e nm G s st.σ.length Q) s:=by
 refine cA (wpAny_newObj_type ?_ (by refine(?_:vs.toArray.size≤sizeLine);rw[Gx,hv.length,GJ];exact cG [] [_] ab aq 1 [.j 1 ab aJ] rfl hl))
 refine e1e (p.pushG {cls:=.type "tuple",data:=.seq vs.toArray} rfl) fun G' le p' g' k' _=>?_;refine⟨G',st,Ak xs,⟨rfl,rfl,rfl⟩,le,Gw _,p',?_,h⟩;unfold Ak;clear h hl p Q p' k';split
 ·rename_i ps a3
  exact⟨_,_,vs,0,rfl,g',rfl,(hv.ps a3).mono le.g⟩
 ·exact⟨_,_,vs,0,rfl,g',rfl,hv.le le⟩
theorem DC{ag:List PySem.Expr}{k:Nat}(hl:LJ H0 (model prog wd) A e nm (spliced (backTo pos (starEach ag e))) (w Pk cl)) :
  EJ H0 (model prog wd) A e nm (eval (.Tuple ag k pos) e) (w Pk (.tup cl)):=fun f G s st Q p h=>by
 refine dc (arm_eval_Tuple ..) ?_;refine cC (cy (CW (hl f G s st _ p h) fun vs s₁ G₁ a0 xs a5 a4 n₁ ah b4 ac=>?_));exact cE (Cs ah b4 ac.1 ac.2) fun v ar P=>P.step a5 a4 n₁
theorem jM{own:Bool}{ps:List P}{vs:List Value}{Q:V→St→Prop}(p:Pre H0 f e nm G st s)(hv:cV G.g ps vs)
  (h:match own with|true=>Q (.ref st.σ.length) {st with σ:=st.σ++[.bx (.lst ps)]}|false=>Q (.p (.lst ps)) st) :
  dg H0 f e nm G s st.σ.length Q (.ref s.heap.objs.size) {s with heap:=s.heap.push {cls:=.type "list",data:=.seq vs.toArray}}:=by
 cases own with
 |false=>
  refine e1e (p.pushG {cls:=.type "list",data:=.seq vs.toArray} rfl) fun G' le p' g' k' _=>?_;exact⟨G',st,_,⟨rfl,rfl,rfl⟩,le,Gw _,p',vp (x:=.lst ps) ⟨_,_,vs,0,rfl,g',rfl,hv.mono le.g⟩,h⟩
 |true=>
  have ah:Pre H0 f e nm G st {s with heap:=s.heap.push {cls:=.type "list",data:=.seq vs.toArray}}:=
   p.keeps fun a o h=>Gy _ h
  refine e0c (p.fresh (Gw _)) fun f1 f2 f3=>?_;refine e1d (ah.adopt (b:=.lst ps) (a:=s.heap.objs.size) ⟨vs,0,GG _ rfl,hv⟩ f1 f2 f3) fun G' le p' i' g'=>?_;exact⟨G',_, .ref st.σ.length,⟨rfl,rfl,rfl⟩,le,by simp,p',⟨_,i',rfl⟩,h⟩
set_option tactic.hygienic true in
theorem DF{own:Bool}{ag:List PySem.Expr}(hl:LJ H0 (model prog wd) A e nm (spliced (backTo pos (starEach ag e))) (w Pk cl)) :
  EJ H0 (model prog wd) A e nm (eval (.List ag pos) e) (w Pk (.lst own cl)):=fun f G s st Q p h=>by
 refine dc (arm_eval_List ..) ?_;refine cC (cy (CW (hl f G s st _ p h) fun vs s₁ G₁ a0 xs a5 a4 n₁ ah b4 ac=>?_))
 split at ac
 ·rename_i ps a3
  have hp:=b4.ps a3;have bh:=hp.length;refine cA (wpAny_newObj_type (dg.step a5 a4 n₁ (jM (own:=own) ah hp ?_)) (by refine(?_:vs.toArray.size≤sizeLine);rw[Gx,bh,GJ];exact cG [] [_] ab aq 1 [.j 1 ab aJ] rfl (Gz ac)))
  clear hl ag bh hp b4 ah n₁ a4 a5 G₁ s₁ vs h p st s G f;cases own<;>exact ac.2
 ·exact ac.elim
end
end
section
section
variable {prog:Program}{wd:World}{A:Around}{H0:Heap}{e:Env}{nm:List (Option Str)}{Pk:Pg}{f:Gm}{G:Gh}{st:St}{s:Shared}
variable {l r t:PySem.Expr}{cl cr ct:C}{pos:Pos}
theorem vL{l:Addr}{items:Array Value}{k:Nat}{x:Int}{u:Tok}{E:Value→Shared→Prop}{Q:Value→Shared→Prop}
  (hl:s.heap.get? l=some {cls:=.type "list",dict:=none,data:=.seq items k,slots:=#[]})
  (a0 : -(2 ^ 63:Int)≤x) (e9:x<2 ^ 63) (b7:items.size*x.toNat≤2 ^ 24)
  (h:Q (.ref s.heap.objs.size) {s with heap:=s.heap.push {cls:=.type "list",data:=.seq (List.replicate x.toNat items.toList).flatten.toArray}}) :
  wpAny (model prog wd) A (binaryOp .Mult (.ref l) (.int x u)) Q E s:=
 wpAny_binaryOp_repeat_ref (T:="list") (U:="int") (by decide) ⟨_,hl,rfl⟩ (fun s'=>typeIs_int s' x u) noFill_list_mul F.fills_int_mul F.slot_int_rmul repeat_list F.slot_int_index.lookup
  (call_meets F.slot_int_rmul (typeIs_int s x u) F.entry_int_rmul (F.args_int_rmul_2 _ _) (int___rmul___int_list x u l items k)
   ⟨hl,rfl,⟨_,hl,rfl⟩,call_meets F.slot_list_mul ⟨_,hl,rfl⟩ F.entry_list_mul (F.args_list_mul_2 _ _)
    (AutoListH.list___mul___list_int_3 l items k x u (by simp[Builtin.List.listFitsIndex];exact GK (a0) (e9)) (by lia) (by simp[Builtin.List.listTooLong,sizeLine];exact b7))
    ⟨hl,by rw[listMul_foldl_if];exact h⟩⟩)
theorem cV.rep{g:Gm}{l:List P}{vs:List Value}(h:cV g l vs):∀n,cV g (List.replicate n l).flatten (List.replicate n vs).flatten
 |0=>rfl
 |n+1=>by simp only[List.replicate_succ,List.flatten_cons];exact h.append (cV.rep h n)
theorem BC{own:Bool}{x:PySem.Expr}{p2:Pos}(hl:EJ H0 (model prog wd) A e nm (eval l e) (w Pk cl))(hr:EJ H0 (model prog wd) A e nm (eval r e) (w Pk cr)) :
  EJ H0 (model prog wd) A e nm (eval (.BinOp l .Mult r pos) e) (w Pk (.repl own cl cr)):=fun f G s st Q p h=>by
 refine dc (eval_BinOp ..) ?_;refine cy (fD (hl f G s st _ p h) fun a s₁ G₁ a0 x a5 a4 n₁ ah b4 ac=>?_);refine cy (cB (fD (hr f G₁ s₁ a0 _ ah ac) fun b ar d1 c0 y aw ag cc b5 b7 bb=>?_));refine cC (dO ?_);refine e1b (vR (jH (jH bb :) :)) fun ps a3 bb=>?_;clear hr hl p2 ac ah h p;subst a3;clear x;obtain⟨n,rfl,ct,bb⟩:=eu bb;obtain⟨h1,h2,h3⟩:=ct;refine e4d (b4.le ag) fun a' o vs k c1 ho c2 hv=>?_;subst c1 c2;refine e1a b7 fun u a3=>?_;clear b7;subst a3;have bh:=hv.length;refine cA (vL (b5.inv.gg _ _ ho) (by exact lin [_] [] aL aa 1 [.i 1 (.n (-1048576)) aa] rfl h2) (by exact lin [_] [] bi aA 1 [.i 1 aa aH] rfl h3) ?_ ?_)
 ·simp only[Gx,bh];have:ps.length*n.toNat≤16*n.toNat:=Nat.mul_le_mul_right _ h1
  lia
 ·refine dg.step (a5.trans aw) (a4.trans ag) (Gp n₁ cc) (jM (own:=own) (ps:=(List.replicate n.toNat ps).flatten) b5 ?_ ?_)
  ·simpa using hv.rep n.toNat
  ·clear h3 h2 h1 bh u hv ho k vs b5 cc ag;cases own<;>exact bb
set_option tactic.hygienic true in
theorem zy:∀{xs:List V} {ps:List P},ps? xs=some ps→xs=ps.map .p
 |[],ps,h=>by obtain rfl:=sj h;rfl
 |.p x::r,ps,h=>by
  simp only[ps?]at h
  split at h
  ·rename_i l hl;obtain rfl:=sj h;rw[zy hl];rfl
  ·exact ns h
 |.ref _::_,_,h=>by exact ns h
 |.inn _ _ _::_,_,h=>by exact ns h
 |.tup _::_,_,h=>by exact ns h
 |.inst _ _::_,_,h=>by exact ns h
set_option tactic.hygienic true in
theorem xw{g:Gm}{k:lg}{xs:List V}{v:Value}(h:dk g k (.tup xs) v):dk g k (Ak xs) v:=by
 unfold Ak
 split
 ·rename_i ps a3
  refine e4d h fun a o vs n e h1 h2 h3=>?_;exact⟨a,o,vs,n,e,h1,h2,h3.ps a3⟩
 ·exact h
theorem Pre.freezeBox(p:Pre H0 f e nm G st s){i:Nat}{l:List P}{a:Value}(hi:st.σ[i]?=some (.bx (.lst l)))(hv:dk G.g G.k (.ref i) a) :
  ∃G',G.Le G'∧Pre H0 f e nm G' {st with σ:=st.σ.set i .dead} s∧dk G'.g G'.k (.p (.lst l)) a:=by
 refine e1c (p.inv.obj i _ hi) fun ad h1 h2 zr=>e2b zr fun vs n h3 h4=>?_;refine e1b hv fun d4 h5 b6=>?_;clear hv;clear hi zr;subst b6;rw[h1]at h5;obtain rfl:=sj h5;refine e0c (p.inv.own _ _ h2) fun g1 g2 g3=>?_
 let G₁:Gh:={G with ow:=fun b=>if b=ad then none else G.ow b}
 have a0:∀b j,G.ow b=some (0,j)→G₁.ow b=some (0,j):=fun b j hb=>by
  have:b≠ad:=fun q=>by clear g3 g1 h5 h1;subst q;rw[h2]at hb;cases hb
  exact(if_neg this).trans hb
 have ah:Pre H0 f e nm G₁ {st with σ:=st.σ.set i .dead} s:=by
  refine⟨⟨p.inv.base,p.inv.gg,p.inv.ff,p.inv.fg,fun b x h=>?_,fun j o h=>?_,fun j h=>p.inv.dom j (by simpa using h)⟩,p.fr.le ⟨fun _ _ h=>h,fun _ _ h=>h,fun _ _ _ _ h=>h⟩ a0,p.len⟩
  ·change (if b=ad then none else G.ow b)=some x at h
   split at h
   ·exact ns h
   ·exact p.inv.own b x h
  ·dsimp only at h;rw[List.getElem?_set]at h
   split at h
   ·split at h
    ·clear h1;obtain rfl:=sj h;trivial
    ·exact ns h
   ·rename_i q
    refine ny.mono (G:=G) (fun _ _ h=>h) (fun _ h=>h) (fun _ _=>rfl) (fun b k hb=>⟨?_,fun _ h=>h⟩) (p.inv.obj j o h);have:b≠ad:=fun q'=>by clear p h a0 o g3 g1 h5;subst q';rw[h2]at hb;cases hb;exact q rfl
    exact(if_neg this).trans hb
 refine e1e (ah.freeze (a:=ad) h3 (if_pos rfl) g2) fun G' le p' g' k' _=>?_;refine⟨G',⟨le.g,le.id,le.inn⟩,p',⟨ad,_,vs,n,rfl,g',rfl,h4.mono le.g⟩⟩
theorem Pre.frz(p:Pre H0 f e nm G st s){v:V}{a:Value}(hv:dk G.g G.k v a) :
  ∃G',G.Le G'∧st.σ.length≤(po v st.σ).2.length∧Pre H0 f e nm G' {st with σ:=(po v st.σ).2} s∧dk G'.g G'.k (po v st.σ).1 a:=by
 have key:∀v:V,∀(G:Gh) (st:St) (a:Value),Pre H0 f e nm G st s→dk G.g G.k v a→∃G',G.Le G'∧st.σ.length≤(po v st.σ).2.length∧Pre H0 f e nm G' {st with σ:=(po v st.σ).2} s∧dk G'.g G'.k (po v st.σ).1 a:=by
  intro v;apply V.rec (motive_1:=fun v=>∀(G:Gh) (st:St) (a:Value),Pre H0 f e nm G st s→dk G.g G.k v a→∃G',G.Le G'∧st.σ.length≤(po v st.σ).2.length∧Pre H0 f e nm G' {st with σ:=(po v st.σ).2} s∧dk G'.g G'.k (po v st.σ).1 a)
   (motive_2:=fun vs=>∀(G:Gh) (st:St) (as:List Value),Pre H0 f e nm G st s→cZ G.g G.k vs as→∃G',G.Le G'∧st.σ.length≤(pk vs st.σ).2.length∧Pre H0 f e nm G' {st with σ:=(pk vs st.σ).2} s∧cZ G'.g G'.k (pk vs st.σ).1 as)
  ·intro x G st a p hv;exact⟨G, .refl _,Gw _,p,hv⟩
  ·intro i G st a p hv;refine(?_:∃G',G.Le G'∧st.σ.length≤(Ce i st.σ st.σ[i]?).2.length∧Pre H0 f e nm G' {st with σ:=(Ce i st.σ st.σ[i]?).2} s∧dk G'.g G'.k (Ce i st.σ st.σ[i]?).1 a);refine(tZ i st.σ st.σ[i]?).elim (fun z=>e1b z fun l hl e=>?_) fun e=>?_
   ·rw[e];refine e1c (p.freezeBox hl hv) fun G' le p' v'=>?_;exact⟨G',le,by simp,p',v'⟩
   ·rw[e];exact⟨G, .refl _,Gw _,p,hv⟩
  ·intro i k n G st a p hv;exact⟨G, .refl _,Gw _,p,hv⟩
  ·intro l ih G st a p hv;refine e4d hv fun b o vs n c1 h1 h2 h3=>?_;clear hv;subst c1;refine e1d (ih G st vs p h3) fun G' le h4 p' v'=>?_;exact⟨G',le,h4,p',xw ⟨b,o,vs,n,rfl,le.g _ _ h1,h2,v'⟩⟩
  ·intro c fs _ G st a p hv;exact⟨G, .refl _,Gw _,p,hv⟩
  ·intro G st as p hv;exact⟨G, .refl _,Gw _,p,hv⟩
  ·intro v vs ih1 ih2 G st as p hv;refine e2c hv fun u r b6 h1 h2=>?_;clear hv;subst b6;refine e1d (ih1 G st u p h1) fun G₁ a4 n₁ ah b4=>?_;refine e1d (ih2 G₁ _ r ah (h2.le a4)) fun d1 ag cc b5 b7=>?_;exact⟨d1,a4.trans ag,Gp n₁ cc,b5,u,r,rfl,b4.le ag,b7⟩
 exact key v G st a p hv
def Ca(g:Gm)(k:lg):Fl→Flow→Prop
 |.next,fl=>fl=.next
 |.brk,fl=>fl=.brk
 |.cont,fl=>fl=.cont
 |.ret x,fl=>∃v,fl=.ret v∧dk g k x v
def eU(H0:Heap)(f:Gm)(e:Env)(nm:List (Option Str))(G:Gh)(s:Shared)(m:Nat)(Q:Fl→St→Prop)(fl:Flow)(s':Shared):Prop:=
 ∃G' b3 x,gi s s'∧G.LeN m G'∧m≤b3.σ.length∧Pre H0 f e nm G' b3 s'∧Ca G'.g G'.k x fl∧Q x b3
theorem eU.step{m:Nat}{s₁ s':Shared}{G₁:Gh}{Q:Fl→St→Prop}{v:Flow}(a:gi s s₁)(b:G.LeN m G₁)(h:eU H0 f e nm G₁ s₁ m Q v s'):eU H0 f e nm G s m Q v s':=
 e3d h fun G' b3 x h1 h2 h3 h4=>⟨G',b3,x,a.trans h1,b.trans h2,h3,h4⟩
theorem eU.now{m:Nat}{fl:Fl}{v:Flow}{Q:Fl→St→Prop}(p:Pre H0 f e nm G st s)(hm:m≤st.σ.length)(hv:Ca G.g G.k fl v)(q:Q fl st):eU H0 f e nm G s m Q v s:=
 ⟨G,st,fl, .refl _,(Gh.Le.refl _).toN _,hm,p,hv,q⟩
def SJ(H0:Heap)(M:Model)(A:Around)(e:Env)(nm:List (Option Str))(t:Sem Flow)(W:St→(Fl→St→Prop)→Prop):Prop:=
 ∀f G s st Q m,Pre H0 f e nm G st s→m≤st.σ.length→W st Q→wpN M A t (eU H0 f e nm G s m Q) s
theorem E3{t:Sem Flow}{m:Nat}{Q:Fl→St→Prop}{K:Flow→Shared→Prop}{s':Shared}(h:wpN (model prog wd) A t (eU H0 f e nm G s m Q) s')
  (k:∀v s₁ G₁ a0 x,gi s s₁→G.LeN m G₁→m≤a0.σ.length→Pre H0 f e nm G₁ a0 s₁→Ca G₁.g G₁.k x v→Q x a0→K v s₁):wpN (model prog wd) A t K s':=
 cE h fun v s₁ h=>h.elim fun G₁ h=>h.elim fun a0 h=>h.elim fun x h=>k v s₁ G₁ a0 x h.1 h.2.1 h.2.2.1 h.2.2.2.1 h.2.2.2.2.1 h.2.2.2.2.2
variable {sa sb:S}{x:Stmt}{rest body:List Stmt}
theorem Ay:SJ H0 (model prog wd) A e nm (execs [] e) (wS Pk .skip):=fun f G s st Q m p hm h=>wpN_pure (.now p hm (fl:=.next) rfl h)
theorem CI(ha:SJ H0 (model prog wd) A e nm (exec x e) (wS Pk sa))(hb:SJ H0 (model prog wd) A e nm (execs rest e) (wS Pk sb)) :
  SJ H0 (model prog wd) A e nm (execs (x::rest) e) (wS Pk (.seq sa sb)):=fun f G s st Q m p hm h=>by
 refine dc (execs_cons ..) ?_;refine cy (E3 (ha f G s st _ m p hm h) fun fl s₁ G₁ a0 y a5 a4 n₁ ah b4 ac=>?_)
 cases y with
 |next=>clear ha h hm p st;subst b4;exact cE (hb f G₁ s₁ a0 _ m ah n₁ ac) fun v ar P=>P.step a5 a4
 |brk=>clear hb ha h hm p st;subst b4;exact wpN_pure (eU.step a5 a4 (.now ah n₁ (fl:=.brk) rfl ac))
 |cont=>clear hb ha h hm p st;subst b4;exact wpN_pure (eU.step a5 a4 (.now ah n₁ (fl:=.cont) rfl ac))
 |ret y=>refine e1b b4 fun v a3 hv=>?_;clear b4;clear hb ha h hm p st;subst a3;exact wpN_pure (eU.step a5 a4 (.now ah n₁ (fl:=.ret y) ⟨v,rfl,hv⟩ ac))
theorem AD:SJ H0 (model prog wd) A e nm (exec (.Pass pos) e) (wS Pk .skip):=fun f G s st Q m p hm h=>cC (wpN_pure (.now p hm (fl:=.next) rfl h))
theorem CL:SJ H0 (model prog wd) A e nm (exec (.Break pos) e) (wS Pk .brk):=fun f G s st Q m p hm h=>cC (wpN_pure (.now p hm (fl:=.brk) rfl h))
theorem AF:SJ H0 (model prog wd) A e nm (exec (.Continue pos) e) (wS Pk .cont):=fun f G s st Q m p hm h=>cC (wpN_pure (.now p hm (fl:=.cont) rfl h))
theorem xP{exc cause:Option PySem.Expr}:SJ H0 (model prog wd) A e nm (exec (.Raise exc cause pos) e) (wS Pk .raise):=fun f G s st Q m p hm h=>h.elim
theorem CJ(hl:EJ H0 (model prog wd) A e nm (eval l e) (w Pk cl)):SJ H0 (model prog wd) A e nm (exec (.Return (some l) pos) e) (wS Pk (.ret cl)):=fun f G s st Q m p hm h=>by
 refine dc (exec_Return_some ..) ?_;refine cC (cy (fD (hl f G s st _ p h) fun v s₁ G₁ a0 y a5 a4 n₁ ah b4 ac=>wpN_pure ?_));refine e1d (ah.frz b4) fun d1 ag cc b5 b7=>?_;exact eU.step a5 ((a4.trans ag).toN _) (.now b5 (Gp (Gp hm n₁) cc) (fl:=.ret _) ⟨v,rfl,b7⟩ ac)
theorem AC:SJ H0 (model prog wd) A e nm (exec (.Return none pos) e) (wS Pk (.ret (.lit .none))):=fun f G s st Q m p hm h=>
 cC (wpN_pure (.now p hm (fl:=.ret (.p .none)) ⟨.none,rfl,vp (x:=.none) rfl⟩ h))
theorem oP{v:Value}{Q:Flow→Shared→Prop}(h:Q .next s):wpN (model prog wd) A (dropValue l pos v) Q s:=by
 exact cA (wpAny_dropValue h)
noncomputable def fS(x:PySem.Expr):Bool:=Nat.beq x.ctorIdx 8||Nat.beq x.ctorIdx 9||Nat.beq x.ctorIdx 10
theorem kz{v:PySem.Expr}{t:Option PySem.Expr}{k:Nat}(h:fS v=false):swapsWith v t k e=pure false:=by cases v<;>first|rfl|exact tf h
theorem AE(hc:fS l=false)(hi:e.scope.kind=.function)(hl:EJ H0 (model prog wd) A e nm (eval l e) (w Pk cl)):SJ H0 (model prog wd) A e nm (exec (.Expr l pos) e) (wS Pk (.expr cl)):=fun f G s st Q m p hm h=>by
 rw[exec_Expr e l pos (by unfold interactive;rw[hi];rfl) (kz hc)]
 refine cC (cy (fD (hl f G s st _ p h) fun v s₁ G₁ a0 y a5 a4 n₁ ah b4 ac=>oP ?_));exact eU.step a5 (a4.toN _) (.now ah (Gp hm n₁) (fl:=.next) rfl ac)
noncomputable def tU(x:PySem.Expr):Bool:=Nat.beq x.ctorIdx 24||Nat.beq x.ctorIdx 25
def Cg(e:Env)(nm:List (Option Str))(n:Str)(i:Nat):Prop:=nm[i]?=some (some n)∧(e.kindOf n=some .local∨e.kindOf n=some .cell)
theorem AH{n:Str}{p2:Pos}{i:Nat}(hc:fS l=false)(hn:Cg e nm n i)(hl:EJ H0 (model prog wd) A e nm (eval l e) (w Pk cl)) :
  SJ H0 (model prog wd) A e nm (exec (.Assign [.Name n p2] l pos) e) (wS Pk (.asg (.var i) cl)):=fun f G s st Q m p hm h=>by
 refine dc (exec_Assign_Name e n p2 l pos (kz hc)) ?_;refine cC (cy (fD (hl f G s st _ p h) fun v s₁ G₁ a0 y a5 a4 n₁ ah b4 ac=>cC (cy (cA (wpAny_bindName (ah.store hn.1 hn.2 b4 fun ar aw b5=>wpN_pure ?_))))));exact eU.step (a5.trans aw) (a4.toN _) (.now b5 (Gp hm n₁) (fl:=.next) rfl ac)
theorem CM{n:Str}{p2:Pos}{i:Nat}{op:Operator}(b3:op=.Add∨op=.Sub∨op=.Mult∨op=.BitAnd)(hn:Cg e nm n i)(hd:(n==("__classdict__" : Str))=false)(hl:EJ H0 (model prog wd) A e nm (eval l e) (w Pk cl)) :
  SJ H0 (model prog wd) A e nm (exec (.AugAssign (.Name n p2) op l pos) e) (wS Pk (.aug i op cl)):=fun f G s st Q m p hm h=>by
 refine dc (exec_AugAssign_Name ..) ?_;refine e1b (tc h) fun x hx h=>?_;refine cC (cy (cA (p.load hn.1 hx hd fun a ha=>?_)));refine cy (cB (fD (hl f G s st _ p h) fun v s₁ G₁ a0 y a5 a4 n₁ ah b4 ac=>?_));refine cC (cy (dO ?_));refine e2c (lw (jH ac :)) fun xa xb b6 ck ac=>?_;clear hl hd h hx p;subst b6 ck;refine fD (yw ah (dk.le a4 ha) b4 ac b3 ⟨_,rfl⟩ ⟨_,rfl⟩) fun v ar d1 c0 z aw ag cc b5 b7 bb=>?_;refine cC (cy (cA (wpAny_bindName (b5.store hn.1 hn.2 b7 fun d4 cf d3=>wpN_pure ?_))));exact eU.step ((a5.trans aw).trans cf) ((a4.trans ag).toN _) (.now d3 (Gp hm (Gp n₁ cc)) (fl:=.next) rfl bb)
theorem EU(ht:TJ H0 (model prog wd) A e nm (isTrue t e (eval t e)) (wt Pk ct))(ha:SJ H0 (model prog wd) A e nm (execs body e) (wS Pk sa))(hb:SJ H0 (model prog wd) A e nm (execs rest e) (wS Pk sb)) :
  SJ H0 (model prog wd) A e nm (exec (.If t body rest pos) e) (wS Pk (.ite ct sa sb)):=fun f G s st Q m p hm h=>by
 refine dc (exec_If ..) ?_;refine cC (cy (zx (ht f G s st _ p h) fun b s₁ G₁ a0 a5 a4 n₁ ah ac=>?_));clear ht h p;cases b with
 |true=>exact dE rfl (cE (ha f G₁ s₁ a0 _ m ah (Gp hm n₁) (ac.t rfl)) fun v ar P=>P.step a5 (a4.toN _))
 |false=>exact cF rfl (cE (hb f G₁ s₁ a0 _ m ah (Gp hm n₁) (ac.f rfl)) fun v ar P=>P.step a5 (a4.toN _))
theorem u4{msg:Option PySem.Expr}(ht:TJ H0 (model prog wd) A e nm (isTrue t e (eval t e)) (wt Pk ct)):SJ H0 (model prog wd) A e nm (exec (.Assert t msg pos) e) (wS Pk (.assert ct)):=fun f G s st Q m p hm h=>by
 refine dc (arm_exec_Assert ..) ?_;refine cC (cy (zx (ht f G s st _ p h) fun b s₁ G₁ a0 a5 a4 n₁ ah ac=>?_));revert ac;intro zh;refine e0b zh fun b6 ac=>?_;clear zh;clear ht h p;subst b6;exact dE rfl (wpN_pure (eU.step a5 (a4.toN _) (.now ah (Gp hm n₁) (fl:=.next) rfl ac)))
end
end
section
section
variable {H0:Heap}{e:Env}{nm:List (Option Str)}{f:Gm}{G:Gh}{st:St}{s:Shared}
noncomputable def xn(n:Nat)(G:Gh):Gh:=⟨G.g,⟨fun i=>if i<n then G.k.id i else none,fun i m v=>if i<n then G.k.inn i m v else none⟩,
 fun a=>match G.ow a with|some (i,j)=>if i≤n then some (i,j)else none|none=>none⟩
theorem dk.sub{g:Gm}{k k':lg}{n:Nat}(hk:∀i,i<n→∀a,k.id i=some a→k'.id i=some a)(d4:∀i,i<n→∀m v a,k.inn i m v=some a→k'.inn i m v=some a)(x:V):scp n x=true→∀{v},dk g k x v→dk g k' x v:=by
 refine V.rec (motive_1:=fun x=>scp n x=true→∀{v},dk g k x v→dk g k' x v) (motive_2:=fun xs=>Ex n xs=true→∀{vs},cZ g k xs vs→cZ g k' xs vs) (fun x _ _ h=>h) ?_ ?_ ?_ ?_ (fun _ _ h=>h) ?_ x
 case refine_1=>exact fun i hs _ h=>h.elim fun a h=>⟨a,hk _ (GI hs) _ h.1,h.2⟩
 case refine_2=>exact fun i m n hs _ h=>h.elim fun a h=>⟨a,d4 _ (GI hs) _ _ _ h.1,h.2⟩
 case refine_3=>exact fun l ih hs _ h=>h.elim fun a h=>h.elim fun o h=>h.elim fun vs h=>h.elim fun n h=>⟨a,o,vs,n,h.1,h.2.1,h.2.2.1,ih hs h.2.2.2⟩
 case refine_4=>exact fun c l ih hs _ h=>h.elim fun a h=>h.elim fun o h=>h.elim fun dx h=>h.elim fun vs h=>⟨a,o,dx,vs,h.1,h.2.1,h.2.2.1,h.2.2.2.1,ih hs h.2.2.2.2⟩
 case refine_5=>exact fun x xs i1 i2 hs _ h=>h.elim fun v h=>h.elim fun r h=>⟨v,r,h.1,i1 (Bool.and_eq_true_iff.mp hs).1 h.2.1,i2 (Bool.and_eq_true_iff.mp hs).2 h.2.2⟩
theorem dk.inScope{g:Gm}{k:lg}{n:Nat}{x:V}{v:Value}(h:dk g k x v)(hs:scp n x=true):dk g ⟨fun i=>if i<n then k.id i else none,fun i m v=>if i<n then k.inn i m v else none⟩ x v:=
 dk.sub (fun _ q _ h=>(if_pos q).trans h) (fun _ q _ _ _ h=>(if_pos q).trans h) x hs h
theorem py(n:Nat)(G:Gh):G.LeN n (xn n G):=⟨fun _ _ h=>h,fun i a h x=>(if_pos h).trans x,fun i m v a h x=>(if_pos h).trans x⟩
theorem rX{n i j:Nat}{a:Addr}{G:Gh}(h:G.ow a=some (i,j))(hi:i≤n):(xn n G).ow a=some (i,j):=by simp only[xn,h,if_pos hi]
theorem Inv.cut{σ:List O}{h:Heap}{n:Nat}(I:Inv H0 f G σ h):Inv H0 f (xn n G) (σ.take n) h where
 base:=I.base
 gg:=I.gg
 ff:=I.ff
 fg:=I.fg
 own:=fun a x y=>by
  cases q:G.ow a with
  |none=>simp only[xn,q]at y;exact ns y
  |some z=>exact I.own a z q
 obj:=fun i o x=>by
  by_cases hi:i<n
  ·rw[List.getElem?_take_of_lt hi]at x;exact ny.mono (G:=G) (fun _ _ h=>h) (fun a h=>(if_pos hi).trans h) (fun m v=>if_pos hi) (fun a j h=>⟨rX h hi,fun _ h=>h⟩) (I.obj i o x)
  ·rw[List.getElem?_eq_none (by simp;exact Gp (Nat.min_le_left _ _) (Nat.not_lt.mp hi))]at x;exact ns x
 dom:=fun i hi=>by
  by_cases q:i<n
  ·have:σ.length≤i:=by rw[GW]at hi;lia
   exact⟨(if_pos q).trans (I.dom i this).1,fun m v=>(if_pos q).trans ((I.dom i this).2 m v)⟩
  ·exact⟨if_neg q,fun m v=>if_neg q⟩
theorem Pre.cut(p:Pre H0 f e nm G st s)(n:Nat):Pre H0 f e nm (xn n G) (iu n st) s where
 inv:=p.inv.cut
 fr:={
  kind:=p.fr.kind
  loc:=by
   refine e1b p.fr.loc fun m hm hl=>?_;refine⟨m,hm,fun i n' x h1 h2=>?_⟩;have h3:st.env[i]?=some (some x)∧scp n x=true:=by
    simp only[iu,GZ]at h2
    cases q:st.env[i]? with
    |none=>rw[q]at h2;exact ns h2
    |some y=>
     rw[q]at h2
     cases y with
     |none=>cases h2
     |some y=>
      simp only[Option.map_some,Option.some.injEq]at h2
      split at h2
      ·rename_i hs;obtain rfl:=sj h2;exact⟨rfl,hs⟩
      ·exact ns h2
   rcases hl i n' x h1 h3.1 with⟨z,v,z1,z2⟩|⟨z,c,v,h4,h5,h6⟩
   ·exact .inl ⟨z,v,z1,z2.inScope h3.2⟩
   ·exact .inr ⟨z,c,v,h4,h5,h6.inScope h3.2⟩
  own:=rX p.fr.own (G1 _)
  cells:=fun n' c hc=>⟨rX (p.fr.cells n' c hc).1 (G1 _),(p.fr.cells n' c hc).2⟩
  apart:=p.fr.apart
  cellsAll:=p.fr.cellsAll
  inj:=p.fr.inj}
 len:=by simp[iu,p.len]
end
section
variable {prog:Program}{wd:World}{A:Around}{H0:Heap}{e:Env}{nm:List (Option Str)}{Pk:Pg}{f:Gm}{G:Gh}{st:St}{s:Shared}
variable {l r t:PySem.Expr}{cl cr ct:C}{pos:Pos}{sa sb:S}{body:List Stmt}
theorem qn(A:Around):A.mark none=A:=by cases A;rfl
theorem nU{c:PySem.Code}{Q:Flow→Shared→Prop}(h:eP (model prog wd) A c Q s):wpN (model prog wd) A (runOwn c e) Q s:=by
 unfold runOwn;exact dD (uD (by rw[qn];exact h) (by intro x;cases x))
theorem m9(ht:TJ H0 (model prog wd) A e nm (isTrue t e (eval t e)) (wt Pk ct))(ha:SJ H0 (model prog wd) A e nm (execs body e) (wS Pk sa)) :
  ∀(n:Nat) (f:Gm) (G:Gh) (s:Shared) (st:St) (Q:Fl→St→Prop) (n0 m:Nat),Pre H0 f e nm G st s→m≤n0→n0≤st.σ.length→Ag n0 (wt Pk ct) (wS Pk sa) n st Q→
   eP (model prog wd) A (.whileLoop t body [] e) (eU H0 f e nm G s m Q) s
 |0,_,_,_,_,_,_,_,_,_,_,h=>h.elim
 |n+1,f,G,s,st,Q,n0,m,p,hm,hn,h=>by
  refine cT rfl ?_;refine(?_:wpN _ A ((whileTurn t body [] e).onRaise _) _ s);refine dD ?_;unfold whileTurn;refine cy (zx (ht f G s st _ p h) fun b s₁ G₁ a0 a5 a4 n₁ ah ac=>?_)
  cases b with
  |false=>exact cF rfl (cy (wpN_pure (wpN_pure (eU.step a5 (a4.toN _) (.now ah (Gp (Gp hm hn) n₁) (fl:=.next) rfl (ac.f rfl))))))
  |true=>
   refine dE rfl (cy (E3 (ha f G₁ s₁ a0 _ n0 ah (Gp hn n₁) (ac.t rfl)) fun fl ar d1 c0 y aw ag cc b5 b7 bb=>?_));have go:Ag n0 (wt Pk ct) (wS Pk sa) n (iu n0 c0) Q→eP (model prog wd) A (.whileLoop t body [] e) (eU H0 f e nm G s m Q) ar:=fun z=>
    dJ (m9 ht ha n f (xn n0 d1) ar (iu n0 c0) Q n0 m (b5.cut n0) hm (by simp[iu];exact(GF (Eq.symm (G8 (cc))))) z) fun fl d4 P=>
     P.step (a5.trans aw) (((a4.toN _).trans (ag.mono hm)).trans ((py n0 d1).mono hm))
   cases y with
   |next=>subst b7;exact wpN_pure ⟨rfl,go bb⟩
   |cont=>subst b7;exact wpN_pure ⟨rfl,go bb⟩
   |brk=>subst b7;exact wpN_pure (eU.step (a5.trans aw) ((a4.toN _).trans (ag.mono hm)) (.now b5 (Gp hm cc) (fl:=.next) rfl bb))
   |ret y=>refine e1b b7 fun v a3 hv=>?_;clear b7;subst a3;exact wpN_pure (eU.step (a5.trans aw) ((a4.toN _).trans (ag.mono hm)) (.now b5 (Gp hm cc) (fl:=.ret y) ⟨v,rfl,hv⟩ bb))
theorem xO(ht:TJ H0 (model prog wd) A e nm (isTrue t e (eval t e)) (wt Pk ct))(ha:SJ H0 (model prog wd) A e nm (execs body e) (wS Pk sa)) :
  SJ H0 (model prog wd) A e nm (exec (.While t body [] pos) e) (wS Pk (.whl ct sa)):=fun f G s st Q m p hm h=>by
 refine dc (exec_While ..) ?_;refine e1a h fun n h=>?_;exact cC (nU (m9 ht ha n f G s st Q st.σ.length m p hm (Gw _) h))
end
end
section
structure nS(n:Nat)(A:Around):Prop where
 guards:A.guards=some []
 handled:A.handled=none
 depth:A.depth+n≤900
 units:A.units+8*n≤9000
def zo(g:Gm):List (Str×P)→List (Str×Value)→Prop
 |[],l=>l=[]
 |(n,x)::r,l=>∃v t,l=(n,v)::t∧PRel g x v∧zo g r t
structure oK(H0:Heap)(prog:Program)(wd:World)(n:Nat)(fa:Addr)(ctr:Ctr):Prop where
 keep:∃kp,Looks (model prog wd) H0 (keeperOf (.ref fa)) kp
 call:∀(A:Around) (f:Gm) (G:Gh) (s:Shared) (σ:List O) (args:List V) (kws:List (Str×P)) (vs:List Value) (kvs:List (Str×Value)) (Q:V→List O→Prop),
  nS n A→Inv H0 f G σ s.heap→(∀a j,G.ow a≠some (0,j))→cZ G.g G.k args vs→zo G.g kws kvs→ctr args kws σ Q→
  eP (model prog wd) A (.call (.ref fa) ⟨vs,kvs⟩) (fun fl s'=>∃v,fl=.ret v∧∃G' σ' x,gi s s'∧G.LeN σ.length G'∧σ.length≤σ'.length∧Inv H0 f G' σ' s'.heap∧dk G'.g G'.k x v∧Q x σ') s
theorem nS.mono{n m:Nat}{A:Around}(h:nS n A)(hm:m≤n):nS m A:=⟨h.1,h.2,by have:=h.3;exact(cG [] [_,_,_] bg (.n 900) 1 [.j 1 ae aj,.j 1 bH (.n 900)] rfl hm this),by have:=h.4;exact cG [] [_,_,_] (.a ab (.m 8 ae)) aZ 1 [.j 8 ae aj,.j 1 (.a ab (.m 8 aj)) aZ] rfl hm this⟩
mutual
theorem vi:∀(v:V) (l:List Nat) (i:Nat),i∈l→i∈oZ v l
 |.ref j,l,i,h=>by simp only[oZ];split<;>simp[h]
 |.inn j _ _,l,i,h=>by simp only[oZ];split<;>simp[h]
 |.inst _ fs,l,i,h=>ie fs l i h
 |.tup fs,l,i,h=>ie fs l i h
 |.p _,l,i,h=>h
theorem ie:∀(vs:List V) (l:List Nat) (i:Nat),i∈l→i∈fE vs l
 |[],l,i,h=>h
 |v::vs,l,i,h=>ie vs _ i (vi v l i h)
end
mutual
theorem rB:∀(v:V) (l:List Nat),l.Nodup→(oZ v l).Nodup
 |.ref j,l,h=>by
  simp only[oZ];split
  ·exact h
  ·rename_i q;exact List.nodup_append.mpr ⟨h,by simp,by simp at q ⊢;exact fun a ha e=>q (e▸ha)⟩
 |.inn j _ _,l,h=>by
  simp only[oZ];split
  ·exact h
  ·rename_i q;exact List.nodup_append.mpr ⟨h,by simp,by simp at q ⊢;exact fun a ha e=>q (e▸ha)⟩
 |.inst _ fs,l,h=>gK fs l h
 |.tup fs,l,h=>gK fs l h
 |.p _,l,h=>h
theorem gK:∀(vs:List V) (l:List Nat),l.Nodup→(fE vs l).Nodup
 |[],l,h=>h
 |v::vs,l,h=>gK vs _ (rB v l h)
end
def EH(k k':lg)(φ:Nat→Nat)(L:List Nat):Prop:=∀i,i∈L→(∀a,k.id i=some a→k'.id (φ i)=some a)∧∀m n a,k.inn i m n=some a→k'.inn (φ i) m n=some a
theorem u7(j:Nat)(l:List Nat):j∈(if l.contains j then l else l++[j]):=by split<;>simp_all
theorem dk.ren{g g':Gm}{k k':lg}{φ:Nat→Nat}(hg:∀a o,g a=some o→g' a=some o)(x:V):∀(l:List Nat) {v:Value},EH k k' φ (oZ x l)→dk g k x v→dk g' k' (A3 φ x) v:=
 V.rec (motive_1:=fun x=>∀(l:List Nat) {v:Value},EH k k' φ (oZ x l)→dk g k x v→dk g' k' (A3 φ x) v) (motive_2:=fun xs=>∀(l:List Nat) {vs:List Value},EH k k' φ (fE xs l)→cZ g k xs vs→cZ g' k' (nM φ xs) vs)
  (fun _ _ _ _ h=>PRel.mono hg h) (fun j l _ hk h=>e1b h fun a h1 h2=>⟨a,(hk j (u7 j l)).1 a h1,h2⟩) (fun j _ _ l _ hk h=>e1b h fun a h1 h2=>⟨a,(hk j (u7 j l)).2 _ _ a h1,h2⟩)
  (fun _ ih l _ hk h=>e4d h fun a o vs n h1 h2 h3 h5=>⟨a,o,vs,n,h1,hg _ _ h2,h3,ih l hk h5⟩)
  (fun _ _ ih l _ hk h=>e4e h fun a o dx vs h1 h2 h3 h4 h5=>⟨a,o,dx,vs,h1,hg _ _ h2,h3,hg _ _ h4,ih l hk h5⟩) (fun _ _ _ h=>h)
  (fun x xs i1 i2 l _ hk h=>e2c h fun v r e h1 h2=>⟨v,r,e,i1 l (fun i hi=>hk i (ie xs _ i hi)) h1,i2 _ hk h2⟩) x
theorem cZ.ren{g g':Gm}{k k':lg}{φ:Nat→Nat}(hg:∀a o,g a=some o→g' a=some o)(xs:List V)(l:List Nat){vs:List Value}(hk:EH k k' φ (fE xs l))(h:cZ g k xs vs):cZ g' k' (nM φ xs) vs:=by
 induction xs generalizing l vs with
 |nil=>exact h
 |cons x xs ih=>exact e2c h fun v r e h1 h2=>⟨v,r,e,dk.ren hg x l (fun i hi=>hk i (ie xs _ i hi)) h1,ih _ hk h2⟩
set_option tactic.hygienic true in
theorem ml:∀{ι:List Nat} {σ objs:List O},qy σ ι=some objs→objs.length=ι.length∧∀(j i:Nat),ι[j]?=some i→∃o,objs[j]?=some o∧σ[i]?=some o
 |[],σ,objs,h=>by obtain rfl:=sj h;exact⟨rfl,fun j i h=>by simp at h⟩
 |i::r,σ,objs,h=>by
  simp only[qy]at h
  split at h
  ·rename_i o l h1 h2
   obtain rfl:=sj h;refine e0b (ml h2) fun h3 h4=>?_;refine⟨by simp[h3],fun j i' hj=>?_⟩
   cases j with
   |zero=>simp at hj;subst hj;exact⟨o,rfl,h1⟩
   |succ j=>simp at hj ⊢;exact h4 j i' hj
  ·exact ns h
theorem mf:∀{ι:List Nat} {σ objs:List O},ι.length≤objs.length→(mD σ ι objs).length=σ.length+(objs.length-ι.length)
 |[],σ,objs,h=>by simp[mD]
 |i::r,σ,[],h=>by simp at h
 |i::r,σ,o::os,h=>by simp only[mD];rw[mf (by simpa using h)];simp
theorem sI:∀{ι:List Nat} {σ objs:List O} {k:Nat},ι.length≤objs.length→(∀i∈ι,i<σ.length)→(mD σ ι objs)[σ.length+k]?=objs[ι.length+k]?
 |[],σ,objs,k,h,_=>by simp[mD,List.getElem?_append_right]
 |i::r,σ,[],k,h,_=>by simp at h
 |i::r,σ,o::os,k,h,hi=>by
  simp only[mD];have:=sI (ι:=r) (σ:=σ.set i o) (objs:=os) (k:=k) (by simpa using h) (fun i' h'=>by simp;exact hi i' (GM _ h'))
  simp only[List.length_set]at this;rw[this];simp only[GR];rw[show r.length+1+k=(r.length+k)+1 by exact(jl [] [_,_] (.a bc ae) cw [] rfl),List.getElem?_cons_succ]
theorem lr:∀{ι:List Nat} {σ objs:List O} {i:Nat},i∉ι→i<σ.length→ι.length≤objs.length→(mD σ ι objs)[i]?=σ[i]?
 |[],σ,objs,i,_,h,_=>by simp[mD,G7 h]
 |i'::r,σ,[],i,_,_,h=>by simp at h
 |i'::r,σ,o::os,i,hi,h,hl=>by
  simp only[mD];rw[lr (fun q=>hi (GM _ q)) (by simpa using h) (by simpa using hl)]
  exact GU fun q=>hi (by rw[←q];exact GS)
theorem AK{ι:List Nat}{σ objs:List O}{j i:Nat}(hn:ι.Nodup)(hi:∀i∈ι,i<σ.length)(hl:ι.length≤objs.length)(h:ι[j]?=some i):(mD σ ι objs)[i]?=objs[j]?:=by
 induction ι generalizing σ objs j with
 |nil=>exact ns h
 |cons i' r ih=>cases objs with
  |nil=>exact absurd hl (Nat.not_succ_le_zero _)
  |cons o os=>
   refine(?_:(mD (σ.set i' o) r os)[i]?=(o::os)[j]?);refine e0b (List.nodup_cons.mp hn) fun h1 h2=>?_;have eh:∀i∈r,i<(σ.set i' o).length:=fun x hx=>by simp;exact hi x (GM _ hx)
   cases j with
   |zero=>
    obtain rfl:=sj h;rw[lr h1 (by simp;exact hi _ GS) (by simpa using hl)]
    simp[hi i' GS]
   |succ j=>exact ih h2 eh (by simpa using hl) h
theorem zN{ι:List Nat}(hn:ι.Nodup){j i:Nat}(h:ι[j]?=some i):i∈ι∧ι.idxOf i=j:=by
 refine e1a (List.getElem?_eq_some_iff.mp h) fun hj a3=>?_;subst a3;exact⟨List.getElem_mem hj,hn.idxOf_getElem j hj⟩
theorem oC{ι:List Nat}{i:Nat}(h:i∈ι):ι[ι.idxOf i]?=some i:=by
 rw[GD (List.idxOf_lt_length_of_mem h),List.getElem_idxOf]
noncomputable def uz(ι:List Nat)(G:Gh):Gh:=⟨G.g,⟨fun j=>match ι[j]? with|some i=>G.k.id i|none=>none,fun j m v=>match ι[j]? with|some i=>G.k.inn i m v|none=>none⟩,
 fun a=>match G.ow a with|some (i+1,m)=>if i∈ι then some (ι.idxOf i+1,m)else none|_=>none⟩
noncomputable def rK(ι:List Nat)(G:Gh)(f:Gm)(h:Heap):Gm:=fun a=>match f a with
 |some o=>some o
 |none=>match G.ow a with
  |some (0,_)=>h.get? a
  |some (i+1,_)=>if i∈ι then none else h.get? a
  |none=>none
noncomputable def rc(ι:List Nat)(N i:Nat):Option Nat:=if i∈ι then some (ι.idxOf i)else if i<N then none else some (ι.length+(i-N))
noncomputable def nz(ι:List Nat)(N:Nat)(G G':Gh)(fl:Gm):Gh:=⟨G'.g,⟨fun i=>match rc ι N i with|some j=>G'.k.id j|none=>G.k.id i,fun i m v=>match rc ι N i with|some j=>G'.k.inn j m v|none=>G.k.inn i m v⟩,
 fun a=>match fl a with|some _=>G.ow a|none=>match G'.ow a with|some (j+1,m)=>some (sw ι N j+1,m)|_=>none⟩
theorem ny.ren{G G':Gh}{h h':Heap}{i i':Nat}{o:O}(hg:∀a o,G.g a=some o→G'.g a=some o)
  (c3:∀a,G.k.id i=some a→G'.k.id i'=some a) (hi:∀m v,G'.k.inn i' m v=G.k.inn i m v) (ho:∀a j,G.ow a=some (i+1,j)→G'.ow a=some (i'+1,j)∧∀o,h.get? a=some o→h'.get? a=some o)
  (y:ny G h i o):ny G' h' i' o:=by
 cases o with
 |bx b=>refine e1c y fun a e1 e2 e3=>?_;exact⟨a,c3 _ e1,(ho _ _ e2).1,e3.mono hg (ho _ _ e2).2⟩
 |cinst c fs ver=>
  refine e3f y fun a dx sl e1 e2 e3 e4 e5 e6=>?_;refine⟨a,dx,sl,c3 _ e1,(ho _ _ e2).1,(ho _ _ e2).2 _ e3,hg _ _ e4,fun m x hx=>?_,fun m n a=>by rw[hi];exact e6 m n a⟩
  have:=e5 m x hx;clear y c3 hx e4 e3 e2 e1 dx c e6 e5;cases x with
  |unset=>exact this
  |v p=>refine e1b this fun v e z=>?_;exact⟨v,e,z.mono hg⟩
  |bx b=>refine e1d this fun a e z1 z2 z3=>?_;exact⟨a,e,(hi _ _).trans z1,(ho _ _ z2).1,z3.mono hg (ho _ _ z2).2⟩
 |dead=>trivial
section
variable {H0:Heap}{f:Gm}{e:Env}{nm:List (Option Str)}{G:Gh}{st:St}{s:Shared}
set_option tactic.hygienic true in
theorem Pre.locI(p:Pre H0 f e nm G st s){ι:List Nat}{objs:List O}(hn:ι.Nodup)(hg:qy st.σ ι=some objs):Inv H0 (rK ι G f s.heap) (uz ι G) objs s.heap:=by
 refine e0b (ml hg) fun hl a0=>?_;have lf:∀a o,rK ι G f s.heap a=some o→s.heap.get? a=some o∧G.g a=none:=fun a o h=>by
  unfold rK at h
  split at h
  ·rename_i o' q;clear hg;obtain rfl:=sj h;exact⟨p.inv.ff a _ q,p.inv.fg a _ q⟩
  ·split at h
   ·rename_i q;exact⟨h,(p.inv.own a _ q).1⟩
   ·rename_i q
    split at h
    ·exact ns h
    ·exact⟨h,(p.inv.own a _ q).1⟩
   ·exact ns h
 refine⟨p.inv.base,p.inv.gg,fun a o h=>(lf a o h).1,fun a o h=>(lf a o h).2,fun a x h=>?_,fun j o h=>?_,fun j h=>?_⟩
 ·simp only[uz]at h
  split at h
  ·rename_i i m q
   split at h
   ·rename_i hi
    refine e0c (p.inv.own a _ q) fun h1 h2 h3=>?_;exact⟨h1,by simp only[rK,h2,q,if_pos hi],h3⟩
   ·exact ns h
  ·exact ns h
 ·have hj:j<ι.length:=by rw[←hl];exact(List.getElem?_eq_some_iff.mp h).1
  have hi:=GD hj;refine e1b (a0 j _ hi) fun o' h1 h2=>?_;rw[h]at h1;clear hg lf a0;obtain rfl:=sj h1;refine e0b (zN hn hi) fun hm hx=>?_;refine ny.ren (G:=G) (fun _ _ h=>h) (fun a ha=>by simp only[uz,hi];exact ha) (fun m v=>by simp only[uz,hi]) (fun a j' ha=>⟨?_,fun _ h=>h⟩) (p.inv.obj _ _ h2)
  simp only[uz,ha,if_pos hm,hx]
 ·have:ι[j]?=none:=List.getElem?_eq_none (by exact Gp (GF (Eq.symm hl)) h)
  simp only[uz,this];exact⟨trivial,fun _ _=>trivial⟩
theorem y8{ι:List Nat}{N:Nat}(hn:ι.Nodup)(hi:∀i∈ι,i<N)(j:Nat):rc ι N (sw ι N j)=some j:=by
 unfold sw rc
 cases h:ι[j]? with
 |some i=>refine e0b (zN hn h) fun h1 h2=>?_;simp only[if_pos h1,h2]
 |none=>
  have hl:ι.length≤j:=by
   clear hn;rcases G5 j ι.length with q|q
   ·rw[GD q]at h;exact sn h
   ·exact q
  dsimp only;rw[if_neg (fun q=>by have:=hi _ q;exact v8 [] [_,_] [.j 1 cw ab] rfl this),if_neg (by exact Nat.not_lt.mpr (cG [] [_,_] ab bg 1 [] rfl))]
  congr 1;exact jl [] [_,_,_,_,_] bg aj [.f 1 bV (.a au aB),.f 1 (.a aB ab) aj] rfl (Go (cG [] [_,_] ab bg 1 [] rfl)) (Go (hl))
theorem yf{ι:List Nat}{N i j:Nat}(h:rc ι N i=some j):sw ι N j=i:=by
 unfold rc at h
 split at h
 ·rename_i hi;obtain rfl:=sj h;unfold sw;rw[oC hi]
 ·split at h
  ·exact ns h
  ·obtain rfl:=sj h;unfold sw;rw[List.getElem?_eq_none (by exact cG [] [_,_] ab bg 1 [] rfl)]
   dsimp only;exact jl [] [_,_,_,_,_] bg aj [.f 1 bV (.a au aB),.f 1 (.a aB ab) aj] rfl (Go (cG [] [_,_] ab bg 1 [] rfl)) (Go ((Nat.not_lt.mp (by assumption))))
set_option tactic.hygienic true in
theorem Pre.comeBack(p:Pre H0 f e nm G st s){ι:List Nat}{objs:List O}{G':Gh}{σ':List O}{s':Shared}(hn:ι.Nodup)(hg:qy st.σ ι=some objs)
  (le:(uz ι G).LeN objs.length G') (bh:objs.length≤σ'.length) (I:Inv H0 (rK ι G f s.heap) G' σ' s'.heap) :
  G.Le (nz ι st.σ.length G G' (rK ι G f s.heap))∧Pre H0 f e nm (nz ι st.σ.length G G' (rK ι G f s.heap)) {st with σ:=mD st.σ ι σ'} s'∧
   ∀x v,dk G'.g G'.k x v→dk (nz ι st.σ.length G G' (rK ι G f s.heap)).g (nz ι st.σ.length G G' (rK ι G f s.heap)).k (A3 (sw ι st.σ.length) x) v:=by
 refine e0b (ml hg) fun hl a0=>?_;have a5:∀i∈ι,i<st.σ.length:=fun i hi=>by
  refine e1b (a0 _ _ (oC hi)) fun o _ h=>?_;exact(List.getElem?_eq_some_iff.mp h).1
 clear hg a0;generalize hN:st.σ.length=N at *;generalize a3:rK ι G f s.heap=fl at *;have c4:∀i a,G.k.id i=some a→(nz ι N G G' fl).k.id i=some a:=fun i a h=>by
  have hi:i<N:=by
   rcases G5 i N with q|q
   ·exact q
   ·rw[(p.inv.dom i (hN▸q)).1]at h;exact ns h
  simp only[nz]
  cases q:rc ι N i with
  |none=>exact h
  |some j=>
   unfold rc at q
   split at q
   ·rename_i hm;obtain rfl:=sj q
    exact le.id _ a (by rw[hl];exact List.idxOf_lt_length_of_mem hm) (by simp only[uz,oC hm];exact h)
   ·first|cases q|(rw[if_pos hi]at q;cases q)
 have a4:∀i m v a,G.k.inn i m v=some a→(nz ι N G G' fl).k.inn i m v=some a:=fun i m v a h=>by
  have hi:i<N:=by
   rcases G5 i N with q|q
   ·exact q
   ·rw[(p.inv.dom i (hN▸q)).2]at h;exact ns h
  simp only[nz]
  cases q:rc ι N i with
  |none=>exact h
  |some j=>
   unfold rc at q
   split at q
   ·rename_i hm;obtain rfl:=sj q
    exact le.inn _ m v a (by rw[hl];exact List.idxOf_lt_length_of_mem hm) (by simp only[uz,oC hm];exact h)
   ·first|cases q|(rw[if_pos hi]at q;cases q)
 have ar:G.Le (nz ι N G G' fl):=⟨le.g,c4,a4⟩;have kept:∀a x,G.ow a=some x→(∀i m,x=(i+1,m)→i∉ι)→(∃o,fl a=some o):=fun a x h1 h2=>by
  refine e0c (p.inv.own a x h1) fun _ h3 zr=>e1a zr fun o h4=>?_;refine⟨o,?_⟩;rw[←a3];unfold rK;rw[h3];clear a4 zr;obtain⟨i,m⟩:=x
  cases i with
  |zero=>simp only[h1];exact h4
  |succ i=>simp only[h1,if_neg (h2 i m rfl)];exact h4
 have ah:∀a o,fl a=some o→s.heap.get? a=some o∧G.g a=none∧(f a=none→∃x,G.ow a=some x):=fun a o h=>by
  rw[←a3]at h;unfold rK at h
  split at h
  ·rename_i o' q;clear a4;obtain rfl:=sj h;exact⟨p.inv.ff a _ q,p.inv.fg a _ q,fun q'=>by rw[q]at q';exact sn q'⟩
  ·split at h
   ·rename_i q;exact⟨h,(p.inv.own a _ q).1,fun _=>⟨_,q⟩⟩
   ·rename_i q
    split at h
    ·exact ns h
    ·exact⟨h,(p.inv.own a _ q).1,fun _=>⟨_,q⟩⟩
   ·exact ns h
 have ac:∀a x,G.ow a=some x→(∀i m,x=(i+1,m)→i∉ι)→(nz ι N G G' fl).ow a=some x∧∀o,s.heap.get? a=some o→s'.heap.get? a=some o:=fun a x h1 h2=>by
  refine e1a (kept a x h1 h2) fun o ho=>?_;refine⟨by simp only[nz,ho];exact h1,fun o' h=>?_⟩
  rw[(ah a o ho).1]at h;clear a4 ah kept;obtain rfl:=sj h;exact I.ff a _ ho
 have owN:∀a j m,G'.ow a=some (j+1,m)→(nz ι N G G' fl).ow a=some (sw ι N j+1,m):=fun a j m h=>by
  have:=(I.own a _ h).2.1;simp only[nz,this,h]
 refine⟨ar,⟨⟨fun a o h=>le.g a o (p.inv.base a o h),I.gg,fun a o h=>I.ff a o ?_,fun a o h=>I.fg a o ?_,fun a x h=>?_,fun i o h=>?_,fun i h=>?_⟩,?_,p.len⟩,fun x v h=>?_⟩
 ·rw[←a3];simp only[rK,h]
 ·rw[←a3];simp only[rK,h]
 ·simp only[nz]at h
  split at h
  ·rename_i o q
   exact⟨I.fg a o q,(p.inv.own a x h).2.1,o,I.ff a o q⟩
  ·rename_i q
   split at h
   ·rename_i j m q2
    refine e0c (I.own a _ q2) fun h1 h2 h3=>?_;refine⟨h1,?_,h3⟩;clear h3 h1 a4 ah kept h2;cases q3:f a with
    |none=>rfl
    |some o=>rw[←a3]at q;simp only[rK,q3]at q;exact sn q
   ·exact ns h
 ·dsimp only at h;have hi:i<(mD st.σ ι σ').length:=(List.getElem?_eq_some_iff.mp h).1;rw[mf (by exact Gp (GF (Eq.symm hl)) bh),hN]at hi
  clear a3 a4 ah kept;cases q:Fb.rc ι N i with
  |some j=>
   have hb:=yf q;have hj:σ'[j]?=some o:=by
    unfold Fb.rc at q
    split at q
    ·rename_i hm;obtain rfl:=sj q
     rw[←h,AK hn (fun i hi=>hN▸a5 i hi) (by exact Gp (GF (Eq.symm hl)) bh) (oC hm)]
    ·split at q
     ·exact ns q
     ·obtain rfl:=sj q;rw[←h,←sI (σ:=st.σ) (by exact Gp (GF (Eq.symm hl)) bh) (fun i hi=>hN▸a5 i hi),hN]
      congr 1;exact jl [] [_,_,_] bg aj [.f 1 (.a ae ab) aj] rfl (Go ((Nat.not_lt.mp (by assumption))))
   refine ny.ren (G:=G') (fun _ _ h=>h) (fun a ha=>by simp only[nz,q];exact ha) (fun m v=>by simp only[nz,q]) (fun a j' ha=>⟨?_,fun _ h=>h⟩) (I.obj j o hj)
   rw[owN a j j' ha,hb]
  |none=>
   have hm:i∉ι:=fun hm=>by unfold Fb.rc at q;rw[if_pos hm]at q;exact sn q
   have ag:i<N:=by
    unfold Fb.rc at q;rw[if_neg hm]at q
    split at q
    ·assumption
    ·exact sn q
   rw[lr hm (hN▸ag) (by exact Gp (GF (Eq.symm hl)) bh)]at h
   exact ny.ren (G:=G) le.g (c4 i) (fun m v=>by simp only[nz,q]) (fun a j' ha=>ac a _ ha fun i' m' e=>by clear c4 hi ag;cases e;exact hm) (p.inv.obj i o h)
 ·dsimp only at h;rw[mf (by exact Gp (GF (Eq.symm hl)) bh),hN]at h
  have hm:i∉ι:=fun hm=>by have:=a5 i hm;exact v8 [] [_,_,_] [.j 1 bg aj,.j 1 bf ab] rfl h this
  have q:Fb.rc ι N i=some (ι.length+(i-N)):=by unfold Fb.rc;rw[if_neg hm,if_neg (by exact Nat.not_lt.mpr (cG [] [_,_,_] ab ae 1 [.j 1 bH ae] rfl h))]
  simp only[nz,q];exact I.dom _ (by exact cG [] [_,_,_,_,_,_] ab bz 1 [.j 1 (.a au aB) aM,.f (-1) (.a aB ae) ab,.f (-1) bG aM] rfl h (Go (Gp (GF (Eq.symm hl)) bh)) (Go (cG [] [_,_,_,_,_,_] ab ae 1 [.j 1 aj au,.f (-1) aj aB,.j 1 (.a ab aM) ae,.f (-1) (.a aM aB) au] rfl bh hl h (Go (Gp (GF (Eq.symm hl)) bh)))))
 ·have sS:∀a j,G.ow a=some (0,j)→(nz ι N G G' fl).ow a=some (0,j)∧∀o,s.heap.get? a=some o→s'.heap.get? a=some o:=fun a j h=>ac a _ h fun i m e=>by clear a3 hN I bh σ';cases e
  exact(p.fr.le ar fun a j h=>(sS a j h).1).keep fun a j h=>by
   simp only[nz]at h
   split at h
   ·exact(sS a j h).2
   ·split at h
    ·clear a3 hN I bh le σ' p;cases h
    ·exact ns h
 ·refine dk.ren (fun _ _ h=>h) x [] (fun i _=>?_) h;have:=y8 (N:=N) hn a5 i;exact⟨fun a ha=>by simp only[nz,this];exact ha,fun m n a ha=>by simp only[nz,this];exact ha⟩
end
end
section
def xg(H0:Heap)(prog:Program)(wd:World)(n:Nat)(Pk:Pg):Prop:=∀fa ctr,Pk.Φ fa=some ctr→oK H0 prog wd n fa ctr
section
variable {prog:Program}{wd:World}{A:Around}{H0:Heap}{e:Env}{nm:List (Option Str)}{Pk:Pg}{f:Gm}{G:Gh}{st:St}{s:Shared}{n:Nat}
theorem zo.mono{g g':Gm}(hg:∀a o,g a=some o→g' a=some o){l:List (Str×P)}{k:List (Str×Value)}(h:zo g l k):zo g' l k:=by
 induction l generalizing k with
 |nil=>exact h
 |cons p l ih=>cases p with
  |mk n x=>exact e2c h fun v t h1 h2 h3=>⟨v,t,h1,h2.mono hg,ih h3⟩
theorem oy{fa:Addr}{args:List V}{kws:List (Str×P)}{Q:V→St→Prop}(h:eT Pk fa args kws st Q):∃ctr,Pk.Φ fa=some ctr:=by
 unfold eT at h;refine e1b (dH h) fun ctr hc _=>?_;exact⟨ctr,hc⟩
theorem oz{fa:Addr}{args:List V}{kws:List (Str×P)}{vs:List Value}{kvs:List (Str×Value)}{Q:V→St→Prop}(hP:xg H0 prog wd n Pk)(gd:nS n A)(p:Pre H0 f e nm G st s)
  (hv:cZ G.g G.k args vs) (hk:zo G.g kws kvs) (h:eT Pk fa args kws st Q):eP (model prog wd) A (.call (.ref fa) ⟨vs,kvs⟩) (fun fl s'=>match fl with|.ret v=>dg H0 f e nm G s st.σ.length Q v s'|_=>False) s:=by
 unfold eT at h;refine e1b (dH h) fun ctr hc h=>?_;refine e1b (dH h) fun objs hg h=>?_;have hn:(fE args []).Nodup:=gK args [] List.nodup_nil;have I:=p.locI hn hg;refine dJ ((hP fa ctr hc).call A _ _ s objs _ kws vs kvs _ gd I ?_ ?_ hk h) fun fl s' hh=>?_
 ·intro a j h0;simp only[uz]at h0
  split at h0
  ·split at h0
   ·clear hc;cases h0
   ·exact ns h0
  ·exact ns h0
 ·refine cZ.ren (fun _ _ h=>h) args [] (fun i hi=>?_) hv;have:=oC hi;exact⟨fun a ha=>by simp only[uz,this];exact ha,fun m n a ha=>by simp only[uz,this];exact ha⟩
 ·refine e1b hh fun v a3 zr=>e3f zr fun G' σ' x sm le hl I' hx q=>?_;clear h hk hv gd hP kvs vs I zr hh;subst a3;refine e0b (ml hg) fun c0 b7=>?_;refine e0c (p.comeBack hn hg le hl I') fun h1 h2 h3=>?_;refine⟨_,_,_,sm,h1,?_,h2,h3 _ _ hx,q⟩;dsimp only;rw[mf (by exact Gp (GF (Eq.symm c0)) hl)];exact cG [] [_,_] ab bg 1 [] rfl
theorem tp{fa:Addr}{args:List V}{kws:List (Str×P)}{vs:List Value}{kvs:List (Str×Value)}{Q:V→St→Prop}(hP:xg H0 prog wd n Pk)(gd:nS n A)(p:Pre H0 f e nm G st s)
  (hv:cZ G.g G.k args vs) (hk:zo G.g kws kvs) (h:eT Pk fa args kws st Q):wpN (model prog wd) A (_root_.PySem.call (.ref fa) vs kvs) (dg H0 f e nm G s st.σ.length Q) s:=
 wpN_call (oz hP gd p hv hk h)
theorem fk{pos:Pos}{fv:Value}{first:List Value}{args:List (Bool×Sem Value)}{keywords:List (Option Str×Sem Value)}{Q:Value→Shared→Prop}{R:Args→Shared→Prop}
  (ha:wpN (model prog wd) A (evalArgs fv true args keywords) R s)
  (hk:∀a s',R a s'→(∃kp,Looks (model prog wd) s'.heap (keeperOf fv) kp)∧wpN (model prog wd) A (_root_.PySem.call fv (first++a.pos) a.kw) Q s') :
  wpN (model prog wd) A (callWith pos fv first args keywords) Q s:=by
 unfold callWith;refine cy (cB (cE ha fun a s' hR=>?_));refine e0b (hk a s' hR) fun ct hc=>?_;refine e1a ct fun kp a5=>?_;refine cC ?_;dsimp only;refine cH (a5.here ?_);have tail:∀{t:Sem Value},wpN (model prog wd) A t Q s'→wpN (model prog wd) A (t>>=fun r=>holding [r] point>>=fun _=>pure r) Q s':=
  fun ht=>cy (cE ht fun r ar hr=>cy (cB (cA (wpAny_point (wpN_pure hr)))))
 clear hk ha pos a5 ct hR;split
 ·exact tail (oM hc)
 ·clear R;split
  ·exact tail hc
  ·exact tail (oM hc)
 ·clear R;split
  ·exact tail hc
  ·exact tail (oM hc)
 ·exact tail hc
 ·exact tail (dO hc)
theorem fM{fv:Value}{args:List (Bool×Sem Value)}{R:Args→Shared→Prop}(bb:∀x,args≠[(true,x)])(h:wpN (model prog wd) A (spliced args) (fun vs s'=>R ⟨vs,[]⟩ s') s) :
  wpN (model prog wd) A (evalArgs fv true args []) R s:=by
 have go:∀vs s',R ⟨vs,[]⟩ s'→wpN (model prog wd) A (holding (vs++(none:Option Value).toList) (do
   if([]:List (Option Str×Sem Value)).all (·.1.isSome)then
    let kw:=(([]:List (Option Str×Sem Value)).filterMap (·.1)).zip (←evalAll (([]:List (Option Str×Sem Value)).map (·.2)))
    return ⟨←(pure vs:Sem (List Value)),kw⟩
   let d ←mergedKeywords fv []
   let pos ←(pure vs:Sem (List Value))
   return ⟨pos,←holding (.ref d::pos) (keywordsIn fv d)⟩)) R s':=fun vs s' hR=>cB (dE rfl (cy (wpN_pure (cy (wpN_pure (wpN_pure hR))))))
 unfold evalArgs
 cases args with
 |nil=>exact cy (m:=spliced []) (cE h fun vs s' hR=>go vs s' hR)
 |cons a r=>
  obtain⟨b,x⟩:=a
  cases b with
  |false=>exact cy (m:=spliced ((false,x)::r)) (cE h fun vs s' hR=>go vs s' hR)
  |true=>
   cases r with
   |nil=>exact absurd rfl (bb x)
   |cons b r=>exact cy (m:=spliced ((true,x)::b::r)) (cE h fun vs s' hR=>go vs s' hR)
theorem oN{fv:Value}{args:List (Bool×Sem Value)}{kn:Str}{kt:Sem Value}{R:Args→Shared→Prop}(bb:∀x,args≠[(true,x)])
  (h:wpN (model prog wd) A (spliced args) (fun vs s'=>wpN (model prog wd) A kt (fun k a3=>R ⟨vs,[(kn,k)]⟩ a3) s') s) :
  wpN (model prog wd) A (evalArgs fv true args [(some kn,kt)]) R s:=by
 have go:∀vs s',wpN (model prog wd) A kt (fun k a3=>R ⟨vs,[(kn,k)]⟩ a3) s'→wpN (model prog wd) A (holding (vs++(none:Option Value).toList) (do
   if([(some kn,kt)]:List (Option Str×Sem Value)).all (·.1.isSome)then
    let kw:=(([(some kn,kt)]:List (Option Str×Sem Value)).filterMap (·.1)).zip (←evalAll (([(some kn,kt)]:List (Option Str×Sem Value)).map (·.2)))
    return ⟨←(pure vs:Sem (List Value)),kw⟩
   let d ←mergedKeywords fv [(some kn,kt)]
   let pos ←(pure vs:Sem (List Value))
   return ⟨pos,←holding (.ref d::pos) (keywordsIn fv d)⟩)) R s':=fun vs s' hR=>cB (dE rfl (by
  refine cy ?_;refine(?_:wpN _ _ (kt>>=fun v=>holding [v] (evalAll [])>>=fun r=>pure (v::r)) _ _);refine cy (cE hR fun k a3 hK=>?_);exact cy (cB (wpN_pure (wpN_pure (cy (wpN_pure (wpN_pure hK))))))))
 unfold evalArgs
 cases args with
 |nil=>exact cy (m:=spliced []) (cE h fun vs s' hR=>go vs s' hR)
 |cons a r=>
  obtain⟨b,x⟩:=a
  cases b with
  |false=>exact cy (m:=spliced ((false,x)::r)) (cE h fun vs s' hR=>go vs s' hR)
  |true=>
   cases r with
   |nil=>exact absurd rfl (bb x)
   |cons b r=>exact cy (m:=spliced ((true,x)::b::r)) (cE h fun vs s' hR=>go vs s' hR)
end
end
section
open Builtin Builtin.Bytes
section
variable {prog:Program}{wd:World}{A:Around}{s:Shared}
theorem rp:typeLookup (.type "bytearray") "__bytes__" = pure none:=by rw[GO,GH];kernel_rfl
theorem nG:typeLookup (.type "bytes") "__bytes__" = pure (some (.builtin "bytes.__bytes__")):=by rw[GO,GH];kernel_rfl
theorem vI{v:Value}{b:Array UInt8}{Q:Value→Shared→Prop}(hv:iF s.heap v b)(hz:b.size≤sizeLine)
  (hQ:∀t k,Q (.bytes b t) {s with toks:=k}) :
  codeAny (model prog wd) A (.call (.builtin "bytes.__new__") ⟨[.type "bytes",v],[]⟩) (wants Q noE) s:=by
 refine codeAny_of_tree ?_;refine(?_:wpAny _ A.in1 (do checkBuiltinCall "bytes.__new__" ⟨[.type "bytes",v],[]⟩;again (.builtin "bytes.__new__" ⟨[.type "bytes",v],[]⟩)) _ _ s)
 refine Gn (wpAny_of_eq (F.bm_newCall _) (Gq ⟨plainId_quiet F.bm_plain _,codeAny_builtin F.bm_entry ?_⟩));rw[Around.under_plainId F.bm_plain _];unfold Builtin.«bytes.__new__»;refine Gn (wpAny_of_eq (a:=true) rfl ?_);refine bm_if_false rfl ?_;refine Gn (wpAny_of_eq F.bm_sub ?_);refine bm_if_false rfl ?_;refine Gn (wpAny_of_eq (F.bm_bind _) ?_);refine Gn (wpAny_of_eq (a:=()) rfl ?_);refine Gn (wpAny_of_eq (a:=()) rfl ?_);refine bm_if_false rfl ?_;rcases hv with⟨t,rfl⟩|⟨a,rfl,ha⟩
 ·have T:Looks (model prog wd) s.heap (typeOf (.bytes b t)) (.type "bytes"):=Looks.of_pure rfl;refine Gn ((c6 T nG).here ?_);refine Gn (wpAny_rule ?_);refine Gn (T.here ?_);refine bm_if_true rfl ?_;exact Gq (by have:=hQ t s.toks;exact this)
 ·have T:Looks (model prog wd) s.heap (typeOf (.ref a)) (.type "bytearray"):=er ha rfl;refine Gn ((c6 T rp).here ?_);refine Gn (Gn ?_);refine(?_:wpAny _ _ (load a>>=_) _ _ _);refine Gn (wpAny_load ha ?_);refine Gq (Gq ?_);refine bm_if_false rfl ?_;refine Gn ((c6 T mz).here ?_);refine bm_if_true rfl ?_;refine Gn (m:=Builtin.Bytes.buffer? "bytes.__new__" (.ref a) true) (qV (.inr ⟨a,rfl,ha⟩) ?_);refine Gn (wpAny_rule ?_);refine Gn (m:=mkBytes b) ?_;unfold mkBytes;rw[if_neg (by exact Nat.not_lt.mpr (hz))]
  refine Gn (m:=fresh) (fun _ _ _=>?_);exact Gq (Gq (hQ _ _))
theorem ue{v:Value}{b:Array UInt8}{Q:Value→Shared→Prop}(hv:iF s.heap v b)(hz:b.size≤sizeLine)
  (hQ:∀t k,Q (.bytes b t) {s with toks:=k}):wpAny (model prog wd) A (PySem.call (.type "bytes") [v]) Q noE s:=by
 refine callType_codes (Q₁:=fun obj s₁=>s₁.TypeIs obj "bytes"∧Q obj s₁) F.bm_called (F.bm_typeCall _) F.entry_object_init
  (vI hv hz fun t k=>⟨PySem.W.typeIs_bytes _ _ _,hQ t k⟩) fun obj s₁ ag=>?_
 exact⟨ag.1,F.args_object_init_2 obj _,object_init_meets F.bm_called.init.lookup F.bm_called.made (by decide) prog wd A.in1 _ s₁ ⟨ag.1,rfl,ag.2⟩⟩
theorem mB:Slot "bytearray" "__len__" "bytearray.__len__":=
 .of (owner:="bytearray") (n:="__len__") (by rw[GO,GH];kernel_rfl) (by decide +kernel) (by decide +kernel) (by decide +kernel)
  (by first|exact .inl (by decide +kernel)|exact .inr (by decide +kernel)) (by rw[isSubtype_type];kernel_rfl)
theorem qE:entryFor table "bytearray.__len__" = some Builtin.«bytearray.__len__»:=entryFor_of_tree (by kernel_rfl)
theorem sC(a:Value):argsOk "bytearray.__len__" ⟨[a],[]⟩:=by unfold argsOk;kernel_rfl
theorem r9{a:Addr}{b:Array UInt8}{Q:Value→Shared→Prop}(ha:s.heap.get? a=some (eJ b))(hz:b.size<2 ^ 63)
  (h:Q (.int b.size (s.toks+1)) {s with toks:=s.toks+1+1}):wpAny (model prog wd) A (PySem.call (.builtin "len") [.ref a]) Q noE s:=by
 have hT:s.TypeIs (.ref a) "bytearray":=⟨_,ha,rfl⟩;refine Calls.call_function_entry kind_len plain_len entry_len (args_len1 _) ?_;unfold Builtin.«len»;refine Gn (m:=oneArg "len" _) (Gq ?_);refine Gn (m:=callSpecial? _ (Str.ofString "__len__")) (wpAny_callSpecial?_slot (name:=Str.ofString "__len__") hT mB
  (GY mB hT qE ?_ (sC _)))
 unfold Builtin.«bytearray.__len__»;refine Gn (Gq ?_);refine Gn (m:=payload (.ref a)) ?_;unfold payload;refine Gn (m:=payload? (.ref a)) ?_;unfold payload?;refine Gn (wpAny_load ha ?_);refine Gq (Gq ?_);refine Gn (wpAny_mkInt (Gq ⟨_,rfl,?_⟩));refine(?_:wpAny _ _ _ _ _ {s with toks:=s.toks+1});refine Gn (wpAny_holding (Gq ?_));refine Gn (wpAny_letGo ?_);refine(?_:wpAny _ _ (if(b.size:Int)<0 then _ else _) _ _ _)
 rw[if_neg (by exact Int.not_lt.mpr (lin [] [_] an af 1 [] rfl))]
 refine(?_:wpAny _ _ (if(b.size:Int)≥2 ^ 63 then _ else _) _ _ _)
 rw[if_neg (by exact Int.not_le.mpr (lin [] [_] bv aA 1 [.j 1 bc (.n 9223372036854775808)] rfl hz))]
 exact Gn (wpAny_mkInt (Gq ⟨_,rfl,h⟩))
end
end
section
section
variable {prog:Program}{wd:World}{A:Around}{H0:Heap}{e:Env}{nm:List (Option Str)}{Pk:Pg}{f:Gm}{G:Gh}{st:St}{s:Shared}{n:Nat}
theorem dM{h:Heap}{a:Addr}{vs:List Value}{k:Nat}(x:h.get? a=some (nA vs k)):h.IsList a vs.toArray:=⟨_,x,rfl,k,rfl⟩
theorem A9{x:V}{a:Value}{Q:V→St→Prop}(p:Pre H0 f e nm G st s)(hx:dk G.g G.k x a)(h:F8 x st Q) :
  wpN (model prog wd) A (_root_.PySem.call (.builtin "len") [a]) (dg H0 f e nm G s st.σ.length Q) s:=by
 have key:dK st.σ x (fun b=>F9 b st Q)→wpN (model prog wd) A (_root_.PySem.call (.builtin "len") [a]) (dg H0 f e nm G s st.σ.length Q) s:=fun hw=>by
  refine e3e (p.box hx hw) fun ad b key ck _ hb hr _=>?_;subst ck;clear hw h
  cases b with
  |lst l=>
   refine e2b hr fun vs k ho hv=>?_;have hl:=hv.length;refine cA (call_len_list (dM ho) (by rw[Gx,hl];have:=hb.1;exact lin [] [_] bv aA 1 [.j 1 ab aq] rfl this) ?_)
   rw[Gx,hl];exact .tok p mx hb.2
  |ba l=>exact cA (r9 hr (by rw[Gx];have:=hb.1;exact cG [] [_] bc (.n 9223372036854775808) 1 [.j 1 ab aq] rfl this) (by rw[Gx];exact .tok p mx hb.2))
  |dict l=>exact hb.elim
 cases x with
 |p x=>
  clear key
  cases x with
  |lst l=>
   refine e4d hx fun ad o vs k c1 ho c2 hv=>?_;clear hx;subst c1 c2;have hl:=hv.length;refine cA (call_len_list (dM (p.inv.gg _ _ ho)) (by rw[Gx,hl];have:=h.1;exact lin [] [_] bv aA 1 [.j 1 ab aq] rfl this) ?_)
   rw[Gx,hl];exact .tok p mx h.2
  |tup l=>
   refine e4d hx fun ad o vs k c1 ho c2 hv=>?_;clear hx;subst c1 c2;have hl:=hv.length;refine cA (PySem.P.len_tuple (p.inv.gg _ _ ho) (by rw[Gx,hl];have:=h.1;exact Int.not_le.mpr (lin [] [_] bv aA 1 [.j 1 ab aq] rfl this)) ?_)
   rw[Gx,hl];exact .tok p mx h.2
  |bytes l=>
   refine e1a hx fun t a3=>?_;clear hx;subst a3;exact cA (PySem.W.len_bytes (by rw[Gx];have:=h.1;exact cG [] [_] ab (.n 1099511627776) 1 [.j 1 ab aq] rfl this) (by rw[Gx];exact .tok p mx h.2))
  |_=>exact h.elim
 |_=>exact key h
theorem mw{v:V}{x:Value}{K:List UInt8→Prop}(p:Pre H0 f e nm G st s)(hv:dk G.g G.k v x)(h:xp st.σ v K):∃b,iF s.heap x b.toArray∧K b:=by
 have key:dK st.σ v (fun b=>baB b K)→∃b,iF s.heap x b.toArray∧K b:=fun h=>by
  refine e3e (p.box hv h) fun a b key ck _ hb hr _=>?_;subst ck;clear h hv p;cases b with
  |ba l=>exact⟨l, .inr ⟨a,rfl,hr⟩,hb⟩
  |_=>exact hb.elim
 cases v with
 |p y=>cases y with
  |bytes l=>refine e1a hv fun t a3=>?_;clear hv;subst a3;exact⟨_, .inl ⟨t,rfl⟩,h⟩
  |_=>exact h.elim
 |_=>exact key h
theorem Pre.vJ(p:Pre H0 f e nm G st s){h':Heap}{b:List UInt8}{Q:V→St→Prop}(hk:∀x o,s.heap.get? x=some o→h'.get? x=some o)(hn:h'.get? s.heap.objs.size=some (eJ b.toArray))
  (q:Q (.ref st.σ.length) {st with σ:=st.σ++[.bx (.ba b)]}) {t:Nat}:dg H0 f e nm G s st.σ.length Q (.ref s.heap.objs.size) {s with heap:=h',toks:=t}:=by
 refine e0c (p.fresh (Gw _)) fun f1 f2 f3=>?_;refine e1d ((p.keeps (s':={s with heap:=h',toks:=t}) hk).adopt (b:=.ba b) (a:=s.heap.objs.size) hn f1 f2 f3) fun G' le p' i' g'=>?_;exact⟨G',_, .ref st.σ.length,⟨rfl,rfl,rfl⟩,le,by simp,p',⟨_,i',rfl⟩,q⟩
theorem r8{a b:Int}{t u:Tok}{Q:V→St→Prop}(hA:A.handled=none)(p:Pre H0 f e nm G st s)(h:Q (.p (.int (min a b))) st) :
  wpN (model prog wd) A (_root_.PySem.call (.builtin "min") [.int a t, .int b u]) (dg H0 f e nm G s st.σ.length Q) s:=by
 refine cA (min_two_ints hA fun h' tk hk=>?_);refine .leaf (p.keeps hk) ⟨rfl,rfl,rfl⟩ (x:=.p (.int (min a b))) ?_ h;by_cases q:b<a
 ·rw[if_pos q,show min a b=b by exact(Int.min_eq_right (lin [_,_] [] aa am 1 [.i 1 bi am] rfl q))];exact mx
 ·rw[if_neg q,show min a b=a by exact(Int.min_eq_left ((Int.not_lt.mp q)))];exact mx
theorem yu{g:Gm}{b:List UInt8}{acc:Array Value}(h:ItemsOf (fun i v=>∃(c:UInt8) (u:Tok),b.toArray[i]?=some c∧v=Value.int (c.toNat:Int) u) acc b.toArray.size):cV g (b.map fun c=>P.int c.toNat) acc.toList:=by
 have key:∀(b:List UInt8) (l:List Value),l.length=b.length→(∀(j:Nat) (v:Value),l[j]?=some v→∃(c:UInt8) (u:Tok),b[j]?=some c∧v=Value.int (c.toNat:Int) u)→cV g (b.map fun c=>P.int c.toNat) l:=by
  intro b
  induction b with
  |nil=>intro l hl _;cases l with|nil=>rfl|cons x l=>cases hl
  |cons x b ih=>
   intro l hl hi
   cases l with
   |nil=>cases hl
   |cons v l=>
    refine e2b (hi 0 v rfl) fun c u e1 ck=>?_;subst ck;obtain rfl:=sj e1;exact⟨_,l,rfl,⟨u,rfl⟩,ih l (by simpa using hl) fun j w hw=>hi (j+1) w hw⟩
 refine key b acc.toList (by have:=h.1;simpa using this) fun j v hv=>?_
 refine e2b (h.2 j v (by simpa using hv)) fun c u e1 e2=>?_
 exact⟨c,u,by simpa using e1,e2⟩
theorem cZ.cons{g:Gm}{k:lg}{x:V}{xs:List V}{vs:List Value}(h:cZ g k (x::xs) vs):∃v r,vs=v::r∧dk g k x v∧cZ g k xs r:=h
theorem cZ.head{g:Gm}{k:lg}{x:V}{r:List V}{vs:List Value}(h:cZ g k (x::r) vs):∃v ws,vs=v::ws∧dk g k x v∧cZ g k r ws:=h
theorem cZ.only{g:Gm}{k:lg}{x:V}{vs:List Value}(h:cZ g k [x] vs):∃v,vs=[v]∧dk g k x v:=by
 refine e2c h fun v ws b6 hx hr=>?_;clear h;subst b6;subst hr;exact⟨v,rfl,hx⟩
theorem cZ.two{g:Gm}{k:lg}{x y:V}{vs:List Value}(h:cZ g k [x,y] vs):∃v w,vs=[v,w]∧dk g k x v∧dk g k y w:=by
 refine e2c h fun v ws b6 hx hr=>?_;clear h;subst b6;refine e1b hr.only fun w a3 hy=>?_;subst a3;exact⟨v,w,rfl,hx,hy⟩
theorem uG{b:List UInt8}{K:P→Prop}(h:Ep b K):∃b0 b1 b2 b3,b=[b0,b1,b2,b3]∧K (.tup [.int b0.toNat, .int b1.toNat, .int b2.toNat, .int b3.toNat]):=by
 cases b with
 |nil=>exact h.elim
 |cons b0 b=>cases b with
  |nil=>exact h.elim
  |cons b1 b=>cases b with
   |nil=>exact h.elim
   |cons b2 b=>cases b with
    |nil=>exact h.elim
    |cons b3 b=>cases b with
     |nil=>exact⟨b0,b1,b2,b3,rfl,h⟩
     |cons _ _=>exact h.elim
theorem Cp{b:List UInt8}{Q:V→St→Prop}{t u:Tok}(p:Pre H0 f e nm G st s)(h:Ep b fun z=>Q (.p z) st):wpN (model prog wd) A (_root_.PySem.call (.builtin "_struct.unpack") [.str ">BBBB" t, .bytes b.toArray u]) (dg H0 f e nm G s st.σ.length Q) s:=by
 refine e4b (uG h) fun b0 b1 b2 b3 e h=>?_;subst e;refine cA (pL ?_);clear u t;obtain⟨G',le,p',g',k',_⟩:=(p.keeps (s':={s with heap:=s.heap.push {cls:=.type "tuple",data:=.seq #[.int (b0.toNat:Int) s.toks, .int (b1.toNat:Int) (s.toks+1), .int (b2.toNat:Int) (s.toks+1+1), .int (b3.toNat:Int) (s.toks+1+1+1)]},toks:=s.toks+1+1+1+1})
  fun a o h=>Gy _ h).freeze (GG _ rfl) (p.fresh (Gw _)).2.2 (p.fresh (Gw _)).2.1
 exact⟨G',st,_,⟨rfl,rfl,rfl⟩,le,Gw _,p',vp (x:=.tup [.int b0.toNat, .int b1.toNat, .int b2.toNat, .int b3.toNat]) ⟨_,_,[_,_,_,_],0,rfl,g',rfl,_,_,rfl,⟨_,rfl⟩,_,_,rfl,⟨_,rfl⟩,_,_,rfl,⟨_,rfl⟩,_,_,rfl,⟨_,rfl⟩,rfl⟩,h⟩
theorem yi{x:V}{v:Value}{Q:V→St→Prop}(gd:nS n A)(p:Pre H0 f e nm G st s)(hx:dk G.g G.k x v)(h:vJ x st Q):wpN (model prog wd) A (_root_.PySem.call (.type "bytearray") [v]) (dg H0 f e nm G s st.σ.length Q) s:=by
 cases x with
 |p x=>cases x with
  |int i=>
   refine e1a hx fun t a3=>?_;clear hx;subst a3;refine se gd.guards h.1.1 h.1.2 fun h' e1 e2=>?_;exact p.vJ (t:=s.toks) (qg e2) e1 h.2
  |_=>exact h.elim
 |_=>exact h.elim
theorem Am{x:V}{v:Value}{Q:V→St→Prop}(gd:nS n A)(p:Pre H0 f e nm G st s)(hx:dk G.g G.k x v)(h:FX x st Q):wpN (model prog wd) A (_root_.PySem.call (.type "tuple") [v]) (dg H0 f e nm G s st.σ.length Q) s:=by
 have go:(dI st.σ x fun l=>(nL x∧l.length≤16777216)∧Q (.p (.tup l)) st)→wpN (model prog wd) A (_root_.PySem.call (.type "tuple") [v]) (dg H0 f e nm G s st.σ.length Q) s:=fun h=>by
  refine e4d (vY p hx (K:=fun l=>l.length≤16777216∧Q (.p (.tup l)) st) (fN h fun l hl=>⟨hl.1.1,hl.1.2,hl.2⟩)) fun ad l vs k c1 h1 h2 q=>?_;subst c1;refine cA (call_tuple_list (dM h1) (fun h' hk=>?_) (by rw[Gx,h2.length,GJ];exact q.1))
  have ah:Pre H0 f e nm G st {s with heap:=h'}:=p.keeps hk;refine e1e (ah.pushG {cls:=.type "tuple",data:=.seq vs.toArray} rfl) fun G' le p' g' k' _=>?_;exact⟨G',st,_,⟨rfl,rfl,rfl⟩,le,Gw _,p',vp (x:=.tup l) ⟨_,_,vs,0,rfl,g',rfl,h2.mono le.g⟩,q.2⟩
 cases x with
 |p x=>
  cases x with
  |bytes b=>
   refine e1a hx fun t a3=>?_;subst a3;refine cA (l6 gd.handled (by rw[Gx,GJ];exact h.1) fun s' acc hk e1 e2 e3 hi=>?_)
   refine e1e ((p.keeps (s':=s') hk).pushG {cls:=.type "tuple",data:=.seq acc} rfl) fun G' le p' g' k' _=>?_;exact⟨G',st,_,⟨e1,e2,e3⟩,le,Gw _,p',vp (x:=.tup (b.map fun c=>.int c.toNat)) ⟨_,_,acc.toList,0,rfl,by rw[Array.toArray_toList];exact g',rfl,yu hi⟩,h.2⟩
  |_=>exact go h
 |_=>exact go h
theorem uT{x:V}{v:Value}{Q:V→St→Prop}(gd:nS n A)(p:Pre H0 f e nm G st s)(hx:dk G.g G.k x v)(h:th st x fun es=>CG (es.map (·.1)) fun z=>Q (.p z) st):wpN (model prog wd) A (_root_.PySem.call (.builtin "sorted") [v]) (dg H0 f e nm G s st.σ.length Q) s:=by
 refine e2c (wH p hx h) fun ad es b6 hb q=>?_;subst b6;refine q.elim fun t q=>q.elim fun ks q=>?_;refine e0b q fun hc q=>?_;refine e0c hc fun he ac hl=>?_;refine e0c (yN prog wd hb he hl) fun lo hn hr=>?_;refine e2b hr fun raw ep hm hk=>?_;refine cA (rt lo gd.handled (by have:=gd.units;have:cLine=9900:=rfl;exact cG [] [_,_] (.a (.a ab (.n 80)) ai) aT 1 [.j 1 (.a ab (.m 8 ae)) aZ] rfl (by assumption)) hm (wa p.inv.gg hk hl) hn ac fun r out h' tk D c hs hp hg hD a0=>?_)
 refine e1e ((p.keeps (s':={s with heap:=h',toks:=tk}) a0).freeze hg (p.freshN hD).2.2 (p.freshN hD).2.1) fun G' le p' g' k' _=>?_;exact⟨G',st,_,⟨rfl,rfl,rfl⟩,le,Gw _,p',vp (x:=.lst (r.map (kP t))) ⟨_,_,out,c,rfl,g',rfl,(hk.pick hp).mono le.g⟩,q r hs⟩
theorem DU{b:Bi}{args:List V}{vs:List Value}{Q:V→St→Prop}(gd:nS n A)(p:Pre H0 f e nm G st s)(hv:cZ G.g G.k args vs)(h:biV b args st Q) :
  wpN (model prog wd) A (_root_.PySem.call b.val vs) (dg H0 f e nm G s st.σ.length Q) s:=by
 cases b with
 |len=>
  refine e1b (fP h) fun x a3 h=>?_;subst a3;refine e1b hv.only fun v a3 hx=>?_;subst a3;exact A9 p hx h
 |int=>
  refine e1b (fP h) fun x a3 h=>?_;subst a3;refine e1b (eu h) fun i a3 h=>?_;subst a3;refine e1b hv.only fun v a3 zr=>e1a zr fun t ck=>?_;subst a3 ck;exact cA (call_int_int (.now p mx h))
 |min=>
  refine e2b (jc h) fun x r b6 h=>?_;subst b6;refine e1b (fP h) fun y a3 h=>?_;subst a3;refine e2c (lw h) fun i j b6 ck h=>?_;subst b6 ck;refine e2c hv.two fun v w b6 ct zr=>e1a zr fun u a4=>?_;subst b6 a4;refine e1a ct fun t a3=>?_;clear ct;subst a3;exact r8 gd.handled p h
 |bytes=>
  refine e1b (fP h) fun x a3 h=>?_;subst a3;refine e1b hv.only fun v a3 hx=>?_;subst a3;refine e1c (mw p hx h) fun b hb hl q=>?_;exact cA (ue hb (by rw[Gx,GJ];exact hl) fun t k=>.tok p sE q)
 |bytearray=>
  refine e1b (fP h) fun x a3 h=>?_;subst a3;refine e1b hv.only fun v a3 hx=>?_;subst a3;exact yi gd p hx h
 |tuple=>
  refine e1b (fP h) fun x a3 h=>?_;subst a3;refine e1b hv.only fun v a3 hx=>?_;subst a3;exact Am gd p hx h
 |unpack=>
  refine e2b (jc h) fun x r b6 h=>?_;subst b6;refine e1b (fP h) fun y a3 h=>?_;subst a3;refine e1b (gx h) fun x a3 h=>?_;subst a3;refine e1b (gx h) fun y a3 h=>?_;subst a3;refine e2c hv.two fun v w b6 hx hy=>?_;subst b6
  cases x with
  |str g=>cases y with
   |bytes b=>
    refine e1a hx fun t a3=>?_;clear hx;subst a3;refine e1a hy fun u a3=>?_;clear hy;subst a3;have h:Ep b fun z=>g=(">BBBB" : Str)∧Q (.p z) st:=h;refine e4b (uG h) fun b0 b1 b2 b3 e h2=>?_;clear h;have e2:g=(">BBBB" : Str):=h2.1;subst e e2;exact Cp (b:=[b0,b1,b2,b3]) p h2.2
   |_=>exact h.elim
  |_=>exact h.elim
 |isinstance=>
  refine e2b (jc h) fun x r b6 h=>?_;subst b6;refine e1b (fP h) fun y a3 h=>?_;subst a3;refine e1c (uO h) fun x a3 hy' q=>?_;subst a3;subst hy';refine e2c hv.two fun v w b6 hx hy=>?_;subst b6;refine e1a hx fun t a3=>?_;subst a3;refine e4d hy fun a o vs n c1 h1 c2 h2=>?_;subst c1 c2;refine e2c h2 fun v r e1 e2 e3=>?_;subst e1 e2;rw[show r=[]from e3]at h1
  exact cA (Bh (p.inv.gg _ _ h1) fun k=>.tok p gQ q)
 |sorted=>
  refine e1b (fP h) fun x a3 h=>?_;subst a3;refine e1b hv.only fun v a3 hx=>?_;subst a3;exact uT gd p hx h
 |_=>exact h.elim
theorem tm{fx:V}{fv:Value}{args:List V}{vs:List Value}{Q:V→St→Prop}(hP:xg H0 prog wd n Pk)(gd:nS n A)(p:Pre H0 f e nm G st s)(hf:dk G.g G.k fx fv)(hv:cZ G.g G.k args vs)(h:wO Pk fx args st Q) :
  (∃kp,Looks (model prog wd) s.heap (keeperOf fv) kp)∧wpN (model prog wd) A (_root_.PySem.call fv vs) (dg H0 f e nm G s st.σ.length Q) s:=by
 refine e1b (gx h) fun g a3 h=>?_;subst a3
 cases g with
 |st fa=>
  subst hf;refine e1a (oy h) fun ctr hc=>?_;refine e1a ((hP fa ctr hc).keep) fun kp a5=>?_;exact⟨⟨kp,a5.keeps p.h0⟩,tp hP gd p hv (kws:=[]) (kvs:=[]) rfl h⟩
 |fn b=>
  subst hf;refine⟨?_,DU gd p hv h⟩;clear hv p gd hP vs;cases b<;>first|exact h.elim|exact⟨_,Looks.of_pure rfl⟩
 |_=>exact h.elim
end
end
section
section
variable {prog:Program}{wd:World}{A:Around}{s:Shared}
theorem ud{body:List Stmt}{e:Env}{R:Flow→Shared→Prop}(h:wpN (model prog wd) (A.deeper e) (execs body e) (fun f s'=>R (.ret (match f with|.ret v=>v|_=>.none)) s') s) :
  eP (model prog wd) A (.func body e) R s:=by
 refine cT rfl ?_;refine(?_:wpN _ (A.deeper e) (do point;match ←(execs body e).onRaise (leaving e)with|.ret v=>ret v|_=>ret .none) _ s)
 refine cH (wpAny_point (cy (dD (cE h fun f s' h'=>?_))))
 cases f<;>exact wpN_pure h'
theorem nP{a:Addr}{o:Obj}{fd:FuncData}{body:List Stmt}{args:Args}{R:Flow→Shared→Prop}{B:List (Str×Value)→Shared→Prop}
  (a3:A.depth<recursionLimit) (ho:s.heap.get? a=some o) (a4:o.data=.func fd) (ah:s.heap.CodeRec fd.code fd.qualname) (a5:fd.body=.stmts body) (b3:fd.closure=[])
  (hco:fd.scope.isCoroutine=false) (aw:fd.scope.isGenerator=false)
  (hb:wpN (model prog wd) A.in1 (bindArgs fd args) B s)
  (a0:∀binds s₁,B binds s₁→wpN (model prog wd) A.in1 (newFunctionEnv fd.scope fd.globals [] binds (fd.qualname ++ ".<locals>.") (some a) fd.code none fd.builtins)
   (fun env ar=>ar.heap.NoLimit∧eP (model prog wd) A (.func body env) R ar) s₁) :
  eP (model prog wd) A (.call (.ref a) args) R s:=by
 refine cT rfl ?_;refine(?_:wpN _ A.in1 (callAny (.ref a) args) _ s);refine cH (wpAny_load ho ?_);refine e4d ah fun c oc vs tq hc hoc hdc hq=>?_;simp only[a4,callFunction,hco,aw,a5,hc,b3];rw[hc]at a0;refine cH (m:=field (.ref c) 1) (wpAny_field hoc hdc hq (cy (wpN_pure ?_)));exact cy (cE hb fun binds s₁ ag=>cy (cE (a0 binds s₁ ag) fun env ar ac=>cH (wpAny_enterFrame ac.1 a3 (wpN_pure ⟨rfl,ac.2⟩))))
theorem gf{name:Str}:∀(names:List (Str×NameKind)) (k:Nat) (acc:List (Str×Addr)),(names.lookup name=some .cell∨(acc.lookup name).isSome=true)→((cellsFrom k names acc).lookup name).isSome=true
 |[],k,acc,h=>by
  rcases h with h|h
  ·exact ns h
  ·exact h
 |(n,kind)::r,k,acc,h=>by
  unfold cellsFrom;by_cases hk:(kind==NameKind.cell)=true
  ·rw[if_pos hk];refine gf r _ _ ?_;rcases h with h|h
   ·rw[List.lookup_cons]at h
    cases q:name==n with
    |true=>exact .inr (by rw[List.lookup_cons,q];rfl)
    |false=>rw[q]at h;exact .inl h
   ·refine .inr ?_;rw[List.lookup_cons]
    cases q:name==n with
    |true=>rfl
    |false=>exact h
  ·rw[if_neg hk];refine gf r _ _ ?_;rcases h with h|h
   ·rw[List.lookup_cons]at h
    cases q:name==n with
    |true=>rw[q]at h;obtain rfl:=sj h;exact absurd rfl hk
    |false=>rw[q]at h;exact .inl h
   ·exact .inr h
theorem nn(kof:Str→Option NameKind){n:Str}:∀(b:List (Str×Value)) (m:Str→Option Value),n∉b.map (·.1)→bindL kof b m n=m n
 |[],m,h=>rfl
 |(n',v)::r,m,h=>by
  unfold bindL;rw[nn kof r _ (fun q=>h (GM _ q))]
  split
  ·exact if_neg fun q=>h (by subst q;simp)
  ·rfl
theorem np(kof:Str→Option NameKind){n:Str}:∀(b:List (Str×Value)) (m:Str→Option Value),n∉b.map (·.1)→bindC kof b m n=m n
 |[],m,h=>rfl
 |(n',v)::r,m,h=>by
  unfold bindC;rw[np kof r _ (fun q=>h (GM _ q))]
  split
  ·rfl
  ·exact if_neg fun q=>h (by subst q;simp)
theorem tv(kof:Str→Option NameKind){n:Str}{v:Value}(hk:kof n=some .local):∀(b:List (Str×Value)) (m:Str→Option Value) (i:Nat),(b.map (·.1)).Nodup→b[i]?=some (n,v)→bindL kof b m n=some v
 |[],m,i,_,h=>by simp at h
 |(n',v')::r,m,i,hn,h=>by
  refine e0b (List.nodup_cons.mp (by simpa using hn:(n'::r.map (·.1)).Nodup)) fun h1 h2=>?_
  unfold bindL
  cases i with
  |zero=>
   simp at h;refine e0b h fun b6 a3=>?_;clear h;subst b6 a3;rw[nn kof r _ (by simpa using h1),if_pos hk]
   exact if_pos rfl
  |succ i=>exact tv kof hk r _ i h2 (by simpa using h)
theorem tw(kof:Str→Option NameKind){n:Str}{v:Value}(hk:kof n≠some .local):∀(b:List (Str×Value)) (m:Str→Option Value) (i:Nat),(b.map (·.1)).Nodup→b[i]?=some (n,v)→bindC kof b m n=some v
 |[],m,i,_,h=>by simp at h
 |(n',v')::r,m,i,hn,h=>by
  refine e0b (List.nodup_cons.mp (by simpa using hn:(n'::r.map (·.1)).Nodup)) fun h1 h2=>?_
  unfold bindC
  cases i with
  |zero=>
   simp at h;refine e0b h fun b6 a3=>?_;clear h;subst b6 a3;rw[np kof r _ (by simpa using h1),if_neg hk]
   exact if_pos rfl
  |succ i=>exact tw kof hk r _ i h2 (by simpa using h)
end
open Classical in
noncomputable def lM(G:Gh)(e:Env):Gh:=⟨G.g,G.k,fun a=>if a=e.locals then some (0,0)else if ∃n,e.cells.lookup n=some a then some (0,a+1)else G.ow a⟩
section
variable {H0:Heap}{f:Gm}{G:Gh}{σ:List O}{e:Env}{s s':Shared}{binds:List (Str×Value)}{env:List V}{pn ln:List Str}
theorem cZ.at{g:Gm}{k:lg}{xs:List V}{vs:List Value}{i:Nat}{x:V}(h:cZ g k xs vs)(hx:xs[i]?=some x):∃v,vs[i]?=some v∧dk g k x v:=by
 induction xs generalizing vs i with
 |nil=>exact ns hx
 |cons y ys ih=>
  refine e2c h fun v r e h1 h2=>?_;clear h;subst e
  cases i with
  |zero=>exact⟨v,rfl,sj hx▸h1⟩
  |succ i=>exact(ih h2 hx :)
theorem Pre.ofCall(I:Inv H0 f G σ s.heap)(b4:∀a j,G.ow a≠some (0,j))(hk:e.scope.kind=.function)(hL:e.locals=s.heap.objs.size)(a5:∀n,e.kindOf n=some .cell→(e.cells.lookup n).isSome=true)
  (x:InCallC s e.locals (bindL e.kindOf binds fun _=>none) e.cells (bindC e.kindOf binds fun _=>none) s') (b7:binds.map (·.1)=pn) (hv:cZ G.g G.k env (binds.map (·.2)))
  (aw:(pn++ln).Nodup) (ah:∀n∈pn,e.kindOf n=some .local∨e.kindOf n=some .cell) :
  Pre H0 f e ((pn++ln).map some) (lM G e) ⟨env.map some++List.replicate ln.length none,σ⟩ s'∧G.Le (lM G e):=by
 have ag:∀a,(a=e.locals∨∃n,e.cells.lookup n=some a)→s.heap.objs.size≤a:=fun a h=>by
  rcases h with rfl|h
  ·exact GF hL.symm
  ·refine e1a h fun n h1=>?_;have:=x.above n a (mem_of_lookup h1);rw[hL]at this;exact Nat.le_of_lt this
 have b6:∀a,s.heap.objs.size≤a→G.g a=none∧f a=none∧G.ow a=none:=fun a h=>by
  refine⟨?_,?_,?_⟩
  ·cases q:G.g a with
   |none=>rfl
   |some o=>exact absurd (GT (I.gg _ _ q)) (Nat.not_lt.mpr h)
  ·cases q:f a with
   |none=>rfl
   |some o=>exact absurd (GT (I.ff _ _ q)) (Nat.not_lt.mpr h)
  ·cases q:G.ow a with
   |none=>rfl
   |some o=>refine e1a ((I.own _ _ q).2.2) fun y hy=>?_;exact absurd (GT hy) (Nat.not_lt.mpr h)
 have how:∀a y,G.ow a=some y→(lM G e).ow a=some y:=fun a y h=>by
  have h1:a≠e.locals:=fun q=>by rw[(b6 a (ag a (.inl q))).2.2]at h;exact ns h
  have h2:¬∃n,e.cells.lookup n=some a:=fun q=>by rw[(b6 a (ag a (.inr q))).2.2]at h;exact ns h
  simp only[lM,if_neg h1,if_neg h2,h]
 have a0:=x.toInCall.keep;have b5:∀n c,e.cells.lookup n=some c→(lM G e).ow c=some (0,c+1):=fun n c h=>by
  have hm:=mem_of_lookup h;have h1:c≠e.locals:=fun q=>Nat.lt_irrefl _ (q▸x.above n c hm);simp only[lM,if_neg h1];exact if_pos ⟨n,h⟩
 have bh:binds.length=pn.length:=by rw[←b7,GA]
 have a4:env.length=pn.length:=by rw[←bh,←hv.length,GA]
 refine⟨⟨⟨I.base,fun a o h=>a0 _ _ (I.gg a o h),fun a o h=>a0 _ _ (I.ff a o h),I.fg,fun a y h=>?_,fun i o h=>?_,I.dom⟩,⟨hk,⟨_,x.toInCall.ns,fun i n y h1 h2=>?_⟩,by simp[lM],fun n c hc=>⟨b5 n c hc,_,x.cell n c hc⟩,x.apart,a5,fun i j n h1 h2=>?_⟩,by simp[a4]⟩,⟨fun _ _ h=>h,fun _ _ h=>h,fun _ _ _ _ h=>h⟩⟩
 ·simp only[lM]at h
  split at h
  ·rename_i q
   refine e0c (b6 a (ag a (.inl q))) fun a1 a2 _=>?_;refine e3b x.toInCall.ns fun o _ _ ho _=>?_;exact⟨a1,a2,o,q▸ho⟩
  ·split at h
   ·rename_i q
    refine e0c (b6 a (ag a (.inr q))) fun a1 a2 _=>?_;refine e1a q fun n h1=>?_;refine e1b (x.cell n a h1) fun o ho _=>?_;exact⟨a1,a2,o,ho⟩
   ·refine e0c (I.own a y h) fun a1 a2 zr=>e1a zr fun o a3=>?_;exact⟨a1,a2,o,a0 _ _ a3⟩
 ·exact ny.mono (G:=G) (fun _ _ h=>h) (fun _ h=>h) (fun _ _=>rfl) (fun a j h=>⟨how _ _ h,a0 a⟩) (I.obj i o h)
 ·dsimp only at h2;have hi:i<env.length:=by
   rcases G5 i env.length with q|q
   ·exact q
   ·rw[List.getElem?_append_right (by simpa using q)]at h2
    simp[List.getElem?_replicate]at h2
  rw[G7 (by simpa using hi),GZ]at h2
  have h2:env[i]?=some y:=by
   cases q:env[i]? with
   |none=>rw[q]at h2;exact ns h2
   |some z=>rw[q]at h2;cases h2;rfl
  refine e1b (hv.at h2) fun v cc ac=>?_;have h1:pn[i]?=some n:=by
   rw[GZ,G7 (by exact Gp hi (GF a4))]at h1
   cases q:pn[i]? with
   |none=>rw[q]at h1;exact ns h1
   |some z=>rw[q]at h1;cases h1;rfl
  have hb:binds[i]?=some (n,v):=by
   rw[←b7,GZ]at h1;rw[GZ]at cc
   cases q:binds[i]? with
   |none=>rw[q]at h1;exact ns h1
   |some z=>rw[q]at h1 cc;obtain⟨z1,z2⟩:=z;simp at h1 cc;rw[h1,cc]
  have b3:(binds.map (·.1)).Nodup:=by rw[b7];exact(List.nodup_append.mp aw).1
  rcases ah n (GV h1)with ar|ar
  ·exact .inl ⟨ar,v,tv _ ar binds _ i b3 hb,ac⟩
  ·refine e1a (Option.isSome_iff_exists.mp (a5 n ar)) fun c hc=>?_;have:=x.cell n c hc;rw[tw _ (by rw[ar];decide) binds _ i b3 hb]at this
   exact .inr ⟨.inl ar,c,v,hc,this,ac⟩
 ·have e1:(pn++ln)[i]?=some n:=by
   rw[GZ]at h1
   cases q:(pn++ln)[i]? with
   |none=>rw[q]at h1;exact ns h1
   |some z=>rw[q]at h1;cases h1;rfl
  have e2:(pn++ln)[j]?=some n:=by
   rw[GZ]at h2
   cases q:(pn++ln)[j]? with
   |none=>rw[q]at h2;exact ns h2
   |some z=>rw[q]at h2;cases h2;rfl
  refine e1a (List.getElem?_eq_some_iff.mp e1) fun l1 e1=>?_;refine e1a (List.getElem?_eq_some_iff.mp e2) fun l2 e2=>?_;rw[←aw.idxOf_getElem i l1,←aw.idxOf_getElem j l2,e1,e2]
end
end
section
noncomputable def retF:Flow→Value|.ret v=>v|_=>.none
noncomputable def uy:Fl→V|.ret v=>v|_=>.p .none
noncomputable def ez(ac:List V→List (Str×P)→Option (List V))(k:Nat)(S:S)(G:Pg):Ctr:=fun args kws objs Q=>match ac args kws with
 |some env=>wS G S ⟨env.map some++List.replicate k none,objs⟩ fun fl st=>∃m,(objs.length≤m∧m≤st.σ.length∧scp m (uy fl)=true)∧Q (uy fl) (st.σ.take m)
 |none=>False
structure Gk(H0:Heap)(fa:Addr)(fd:FuncData)(body:List Stmt)(pn ln:List Str):Prop where
 obj:∃o,H0.get? fa=some o∧o.data=.func fd
 body:fd.body=.stmts body
 clo:fd.closure=[]
 cd:H0.CodeRec fd.code fd.qualname
 globals:fd.globals=mainGlobals
 builtins:fd.builtins=builtinsNs
 co:fd.scope.isCoroutine=false
 gen:fd.scope.isGenerator=false
 kind:fd.scope.kind=.function
 nd:(pn++ln).Nodup
 kinds:∀n∈pn,fd.scope.names.lookup n=some .local∨fd.scope.names.lookup n=some .cell
def oL(H0:Heap)(prog:Program)(wd:World)(fd:FuncData)(pn:List Str)(ac:List V→List (Str×P)→Option (List V)):Prop:=
 ∀(A:Around) (f:Gm) (G:Gh) (s:Shared) (σ:List O) (args:List V) (kws:List (Str×P)) (vs:List Value) (kvs:List (Str×Value)) (env:List V),
  Inv H0 f G σ s.heap→(∀a j,G.ow a≠some (0,j))→cZ G.g G.k args vs→zo G.g kws kvs→ac args kws=some env→
  wpN (model prog wd) A (bindArgs fd ⟨vs,kvs⟩) (fun binds s'=>∃G',gi s s'∧G.Le G'∧Inv H0 f G' σ s'.heap∧(∀a j,G'.ow a≠some (0,j))∧binds.map (·.1)=pn∧cZ G'.g G'.k env (binds.map (·.2))) s
set_option tactic.hygienic true in
theorem oK.of_body{H0:Heap}{prog:Program}{wd:World}{n:Nat}{fa:Addr}{fd:FuncData}{body:List Stmt}{pn ln:List Str}{ac:List V→List (Str×P)→Option (List V)}{S:S}{Pk:Pg}
  (b5:H0.NoLimit) (F:Gk H0 fa fd body pn ln) (hb:oL H0 prog wd fd pn ac)
  (hS:∀A e,nS n A→e.scope=fd.scope→e.globals=mainGlobals→e.builtins=builtinsNs→SJ H0 (model prog wd) A e ((pn++ln).map some) (execs body e) (wS Pk S)) :
  oK H0 prog wd (n+1) fa (ez ac ln.length S Pk):=by
 refine e1b F.obj fun o ho hd=>?_;refine⟨⟨.frame,?_⟩,fun A f G s σ args kws vs kvs Q gd I b4 hv hk h=>?_⟩
 ·unfold keeperOf;refine(Looks.ld ho).andThen ?_;rw[hd];exact .now
 ·unfold ez at h
  split at h
  ·rename_i env a0
   have h0:∀b o,H0.get? b=some o→s.heap.get? b=some o:=fun b o h=>I.gg b o (I.base b o h);refine(nP (by have:=gd.depth;have:recursionLimit=1000:=rfl;exact cG [] [_,_] bc aJ 1 [.j 1 cp (.n 900)] rfl (by assumption)) (h0 _ _ ho) hd (F.cd.keeps h0) F.body F.clo F.co F.gen (hb A.in1 f G s σ args kws vs kvs env I b4 hv hk a0) fun binds s₁ zp=>e1f zp fun G₁ a5 a4 b3 ah b7 bb=>?_)
   have h1:∀b o,H0.get? b=some o→s₁.heap.get? b=some o:=fun b o h=>b3.gg b o (b3.base b o h);have c0:∀x∈binds,fd.scope.names.lookup x.1=some .local∨(fd.scope.names.lookup x.1=some .cell∧((cellsFrom (s₁.heap.objs.size+1) fd.scope.names []).lookup x.1).isSome=true):=fun x hx=>by
    rcases F.kinds x.1 (b7▸List.mem_map.mpr ⟨x,hx,rfl⟩)with q|q
    ·exact .inl q
    ·exact .inr ⟨q,gf _ _ _ (.inl q)⟩
   refine cA (wpAny_newFunctionEnv_cells F.kind c0 fun e he ar x=>?_);have hsc:e.scope=fd.scope:=by rw[he];rfl
   have hL:e.locals=s₁.heap.objs.size:=by rw[he];rfl
   obtain⟨p,ag⟩:=Pre.ofCall (ln:=ln) (e:=e) b3 ah (by rw[hsc];exact F.kind) hL (fun n hn=>by
    rw[he];exact gf _ _ _ (.inl (by unfold Env.kindOf at hn;rw[hsc]at hn;exact hn))) x b7 bb F.nd (fun n hn=>by unfold Env.kindOf;rw[hsc];exact F.kinds n hn)
   have aw:gi s₁ ar:=by refine e2a x.toInCall.same fun h' tk b6=>?_;subst b6;exact⟨rfl,rfl,rfl⟩
   refine⟨(b5.keeps h1).keeps x.toInCall.keep,ud ?_⟩;refine cE (hS (A.deeper e) e ⟨gd.guards,gd.handled,by have:=gd.depth;refine(?_:A.depth+1+n≤900);exact(cG [] [_,_] (.a bc ae) (.n 900) 1 [.j 1 cp (.n 900)] rfl this),by have:=gd.units;refine(?_:A.units+3+8*n≤9000);exact cG [] [_,_] (.a (.a ab a6) (.m 8 ae)) aZ 1 [.j 1 (.a ab (.m 8 be)) aZ] rfl this⟩ hsc (by rw[he];exact F.globals) (by rw[he];exact F.builtins) f _ ar _ _ σ.length p (Gw _) h)
    fun fl d4 zp=>e3f zp fun e4 d2 y cf ce e3 d3 dh ⟨m,⟨m1,m2,m3⟩,q⟩=>?_
   have bh:dk e4.g e4.k (uy y) (retF fl):=by
    cases y with
    |next=>subst dh;exact vp (x:=.none) rfl
    |brk=>subst dh;exact vp (x:=.none) rfl
    |cont=>subst dh;exact vp (x:=.none) rfl
    |ret y=>refine e1b dh fun v a3 hv=>?_;clear dh;subst a3;exact hv
   refine⟨_,rfl,xn m e4,d2.σ.take m,uy y,(a5.trans aw).trans cf,(((a4.toN _).trans (ag.toN _)).trans ce).trans ((py m e4).mono m1),?_,d3.inv.cut,by cases fl<;>exact bh.inScope m3,q⟩
   rw[GW];exact Gp m1 (GF (Eq.symm (G8 (m2))))
  ·exact h.elim
theorem oK.weaken{H0:Heap}{prog:Program}{wd:World}{n m:Nat}{fa:Addr}{c c':Ctr}(h:oK H0 prog wd n fa c)(hm:n≤m)(hc:∀args kws objs Q,c' args kws objs Q→c args kws objs Q):oK H0 prog wd m fa c':=
 ⟨h.keep,fun A f G s σ args kws vs kvs Q gd I b4 hv hk hq=>h.call A f G s σ args kws vs kvs Q (gd.mono hm) I b4 hv hk (hc _ _ _ _ hq)⟩
end
section
section
variable {prog:Program}{wd:World}{A:Around}{H0:Heap}{e:Env}{nm:List (Option Str)}{Pk:Pg}{f:Gm}{G:Gh}{st:St}{s:Shared}{n:Nat}
variable {o fe:PySem.Expr}{cf ca co:C}{pos apos p2:Pos}{args:List PySem.Expr}{name:Str}
noncomputable def eB(x:PySem.Expr):Bool:=Nat.beq x.ctorIdx 22
theorem rr{x:PySem.Expr}{xs:List PySem.Expr}{e:Env}(h:eB x=false):starEach (x::xs) e=(false,eval x e)::starEach xs e:=by cases x<;>first|rfl|exact tf h
theorem xI{x:PySem.Expr}{xs:List PySem.Expr}{e:Env}(h:eB x=true):∃t r,starEach (x::xs) e=(true,t)::r:=by
 cases x<;>first|exact ft h|exact⟨_,_,rfl⟩
noncomputable def dj(xs:List PySem.Expr):Bool:=xs.all fun x=>!eB x
theorem nJ(h:dj args=true):starEach args e=args.map fun x=>(false,eval x e):=by
 induction args with
 |nil=>rfl
 |cons x r ih=>exact(rr ((Bool.not_eq_true' _).mp (Bool.and_eq_true_iff.mp h).1)).trans (congrArg _ (ih (Bool.and_eq_true_iff.mp h).2))
theorem jC(h:dj args=true):backTo pos (starEach args e)=args.map fun x=>(false,eval x e):=by
 rw[nJ h];unfold backTo;rw[List.map_map];rfl
theorem kI(h:dj args=true)(x:Sem Value):backTo pos (starEach args e)≠[(true,x)]:=by
 rw[jC h];clear h;cases args with
 |nil=>intro q;exact nc q
 |cons a r=>intro q;simp at q
theorem BG{id:Str}(hP:xg H0 prog wd n Pk)(gd:nS n A)(c2:dj args=true)(hf:EJ H0 (model prog wd) A e nm (eval (.Name id p2) e) (w Pk cf))(ha:LJ H0 (model prog wd) A e nm (spliced (backTo pos (starEach args e))) (w Pk ca)) :
  EJ H0 (model prog wd) A e nm (eval (.Call (.Name id p2) args [] pos) e) (w Pk (.call cf ca)):=fun f G s st Q p h=>by
 refine dc (arm_eval_Call_Name' ..) ?_;refine cy (fD (hf f G s st _ p h) fun fv s₁ G₁ a0 fx a5 a4 n₁ ah b4 ac=>?_);refine fk (fM (R:=fun a s'=>a.kw=[]∧zn H0 f e nm G₁ s₁ a0.σ.length (fun xs st=>wO Pk fx xs st fun v st=>Q [v] st) a.pos s') (kI c2) (cE (ha f G₁ s₁ a0 _ ah ac) fun vs ar P=>⟨rfl,P⟩)) ?_;refine fun as ar hh=>e0b hh fun ck hh=>hh.el fun d1 c0 xs aw ag cc b5 b7 bb=>?_;obtain⟨vs,kw⟩:=as;have ck:kw=[]:=ck;have b7:cZ d1.g d1.k xs vs:=b7;clear ha hf c2 id hh ac ah h p;subst ck;refine e0b (tm hP gd b5 (b4.le ag) b7 bb) fun h1 h2=>?_;exact⟨h1,cE h2 fun v d4 P=>P.step (a5.trans aw) (a4.trans ag) (Gp n₁ cc)⟩
def xj(H0:Heap)(prog:Program)(wd:World)(nme:Str)(c:Addr)(k:Nat):Prop:=∀(A:Around) (s:Shared) (a dx:Addr) (sl:Array (Option Value)) (v:Value) (Q:Value→Shared→Prop),
 (∀b o,H0.get? b=some o→s.heap.get? b=some o)→s.heap.get? a=some (kL c dx sl)→s.heap.get? dx=some emptyDict→(sl[k]?).join=some v→handedIn v=true→
 (∀t,Q v {s with toks:=t})→wpN (model prog wd) A (getAttr (.ref a) nme true) Q s
def xi(H0:Heap)(prog:Program)(wd:World)(nme:Str)(c:Addr)(x:P):Prop:=∀(A:Around) (s:Shared) (Q:Value→Shared→Prop),
 (∀b o,H0.get? b=some o→s.heap.get? b=some o)→(∀v t,PRel H0.get? x v→Q v {s with toks:=t})→wpN (model prog wd) A (getAttr (.ref c) nme true) Q s
structure xm(H0:Heap)(prog:Program)(wd:World)(nme:Str)(i:AI):Prop where
 slot:∀c k,i.slots.lookup c=some k→xj H0 prog wd nme c k
 stat:∀c x,i.stat.lookup c=some x→xi H0 prog wd nme c x
noncomputable def eV(x:PySem.Expr):Bool:=!(Nat.beq x.ctorIdx 16)
theorem pF(h:eV o=true)(whole:Sem Value):attributeBase o name e whole=whole:=by cases o<;>first|rfl|exact ft h
theorem s8{l:List PySem.Expr}{φ:PySem.Expr→Sem Value}:(l.map fun x=>(false,φ x)).all (!·.1)=true:=by
 induction l with
 |nil=>rfl
 |cons _ _ ih=>exact ih
theorem PRel.handed{g:Gm}{x:P}{v:Value}(h:PRel g x v):handedIn v=true:=by
 cases x with
 |none=>subst h;rfl
 |bool b=>subst h;rfl
 |int i=>refine e1a h fun t a3=>?_;clear h;clear g;subst a3;rfl
 |str i=>refine e1a h fun t a3=>?_;clear h;clear g;subst a3;rfl
 |bytes i=>refine e1a h fun t a3=>?_;clear h;clear g;subst a3;rfl
 |fn b=>subst h;clear g;cases b<;>first|rfl|decide +kernel
 |st a=>subst h;rfl
 |tup l=>refine e4b h fun a _ _ _ c1 _=>?_;clear h;subst c1;rfl
 |lst l=>refine e4b h fun a _ _ _ c1 _=>?_;clear h;subst c1;rfl
theorem dk.handed{g:Gm}{k:lg}{x:V}{v:Value}(h:dk g k x v):handedIn v=true:=by
 cases x with
 |p x=>exact PRel.handed h
 |ref i=>refine e1b h fun a _ b6=>?_;clear h;clear g;subst b6;rfl
 |inn i=>refine e1b h fun a _ b6=>?_;clear h;clear g;subst b6;rfl
 |tup l=>refine e4b h fun a _ _ _ c1 _=>?_;clear h;subst c1;rfl
 |inst c l=>refine e4b h fun a _ _ _ c1 _=>?_;clear h;subst c1;rfl
theorem zf{i:AI}{x:V}{a:Value}{Q:V→St→Prop}(hA:xm H0 prog wd name i)(p:Pre H0 f e nm G st s)(hx:dk G.g G.k x a)(h:B2 i x st Q) :
  wpN (model prog wd) A (getAttr a name true) (dg H0 f e nm G s st.σ.length Q) s:=by
 cases x with
 |ref j=>
  refine e1b (dH h) fun o hj h=>?_;refine e3b (kN h) fun c fs ver ck h=>?_;subst ck;refine e1b (dH h) fun k hk h=>?_;refine e1b (dH h) fun y hy h=>?_;refine e3f (p.inv.obj j _ hj) fun ad dx sl h1 h2 h3 h4 h5 h6=>?_;refine e1b hx fun d4 h7 b6=>?_;clear hx;clear h6 hj;subst b6;rw[h1]at h7;obtain rfl:=sj h7;clear h7;cases y with
  |v y=>
   refine e1b (h5 k _ hy) fun v e1 e2=>?_;exact hA.slot c k hk A s ad dx sl v _ p.h0 h3 (p.inv.gg _ _ h4) e1 e2.handed fun t=>.tok p (vp e2) h
  |bx b=>
   refine e1d (h5 k _ hy) fun v e1 e2 e3 e4=>?_;exact hA.slot c k hk A s ad dx sl _ _ p.h0 h3 (p.inv.gg _ _ h4) e1 rfl fun t=>.tok (x:=.inn j k ver) p ⟨_,e2,rfl⟩ h
  |unset=>exact h.elim
 |inst c fs=>
  refine e1b (dH h) fun k hk h=>?_;refine e1b (dH h) fun y hy h=>?_;refine e4e hx fun ad ob dx vs c1 h1 c2 h2 h3=>?_;clear hx;subst c1 c2;refine e1b (h3.at hy) fun v h4 h5=>?_;exact hA.slot c k hk A s ad dx _ v _ p.h0 (p.inv.gg _ _ h1) (p.inv.gg _ _ h2) (by simp[h4]) h5.handed fun t=>.tok p h5 h
 |p x=>
  refine e1b (CE h) fun c a3 h=>?_;subst a3;refine e1b (xH h) fun y hy h=>?_;subst hx;exact hA.stat c y hy A s _ p.h0 fun v t hv=>.tok p (vp (p.prel hv)) h
 |_=>exact h.elim
theorem BH{i:AI}(hA:xm H0 prog wd name i)(hb:eV o=true)(hl:EJ H0 (model prog wd) A e nm (eval o e) (w Pk co)) :
  EJ H0 (model prog wd) A e nm (eval (.Attribute o name pos) e) (w Pk (.attr co i)):=fun f G s st Q p h=>by
 refine dc (arm_eval_Attribute ..) ?_;rw[pF hb];refine cy (fD (hl f G s st _ p h) fun a s₁ G₁ a0 x a5 a4 n₁ ah b4 ac=>?_);refine cC (cy (cB (cE (zf hA ah b4 (jH ac :)) fun v ar P=>?_)));exact cy (cA (wpAny_letTemporaryGo (wpN_pure (P.step a5 a4 n₁))))
def z5(H0:Heap)(prog:Program)(wd:World)(nme:Str)(c fa:Addr):Prop:=∀(A:Around) (s:Shared) (a dx:Addr) (sl:Array (Option Value)) (pl:Sem Bool) (Q:Value×List Value→Shared→Prop),
 (∀b o,H0.get? b=some o→s.heap.get? b=some o)→s.heap.get? a=some (kL c dx sl)→s.heap.get? dx=some emptyDict→Q (.ref fa,[.ref a]) s→wpN (model prog wd) A (getMethod (.ref a) nme pl) Q s
noncomputable def tu:Bm→Str
 |.none=>"" | .append=>"append" | .get=>"get" | .encode=>"encode" | .pack_into=>"pack_into" | .unpack_from=>"unpack_from"
def xh(H0:Heap)(prog:Program)(wd:World)(nme:Str)(c:Addr)(x:P):Prop:=∀(A:Around) (s:Shared) (pl:Sem Bool) (Q:Value×List Value→Shared→Prop),
 (∀b o,H0.get? b=some o→s.heap.get? b=some o)→(∀v t,PRel H0.get? x v→Q (v,[]) {s with toks:=t})→wpN (model prog wd) A (getMethod (.ref c) nme pl) Q s
def Em(H0:Heap)(prog:Program)(wd:World)(nme:Str)(c fa:Addr):Prop:=∀(A:Around) (s:Shared) (a dx:Addr) (sl:Array (Option Value)) (Q:Value→Shared→Prop),
 (∀b o,H0.get? b=some o→s.heap.get? b=some o)→s.heap.get? a=some (kL c dx sl)→s.heap.get? dx=some emptyDict→
 (∀t,Q (.ref s.heap.objs.size) {s with heap:=s.heap.push (methodObj (.ref fa) (.ref a)),toks:=t})→wpN (model prog wd) A (getAttr (.ref a) nme true) Q s
structure oJ(H0:Heap)(prog:Program)(wd:World)(nme:Str)(m:MI):Prop where
 fn:∀c fa,m.fn.lookup c=some fa→z5 H0 prog wd nme c fa
 val:∀c x,m.val.lookup c=some x→xh H0 prog wd nme c x
 bnd:m.bd=true→∀c fa,m.fn.lookup c=some fa→Em H0 prog wd nme c fa∧∃o fd,H0.get? fa=some o∧o.data=.func fd
 bm:m.bm≠.none→nme=tu m.bm
end
end
section
section
variable {prog:Program}{wd:World}{A:Around}{H0:Heap}{e:Env}{nm:List (Option Str)}{Pk:Pg}{f:Gm}{G:Gh}{st:St}{s:Shared}{n:Nat}
variable {o fe:PySem.Expr}{cf ca co:C}{pos apos p2:Pos}{args:List PySem.Expr}{name:Str}
theorem ig:PlainAttrs "_struct.Struct":=
 ⟨⟨"_struct.Struct.__getattribute__",by rw[GO,GH];kernel_rfl,by decide +kernel⟩,by rw[GO,GH];kernel_rfl⟩
theorem pM:typeOf (.builtin "_struct.Struct.pack_into")=pure (.type "method_descriptor"):=by refine(?_:builtinType _=_);rw[builtinType_eq_fast];kernel_rfl
theorem pN:typeOf (.builtin "_struct.Struct.unpack_from")=pure (.type "method_descriptor"):=by refine(?_:builtinType _=_);rw[builtinType_eq_fast];kernel_rfl
theorem lL{l:Addr}{vs:List Value}{k:Nat}{x:Value}{E:Value→Shared→Prop}{Q:Value→Shared→Prop}(ho:s.heap.get? l=some (nA vs k))(b7:vs.length<sizeLine)
  (hQ:∀h' k',h'.get? l=some (nA (vs++[x]) k')→Heap.SameBut l s.heap h'→Q .none {s with heap:=h'}) :
  wpAny (model prog wd) A (_root_.PySem.call (.builtin "list.append") [.ref l,x]) Q E s:=by
 refine GY slot_list_append (dM ho).typeIs entry_list_append ?_ (args_list_append _ _);refine(?_:wpAny _ _ (updateSeq l (·.push x)>>=fun _=>ret .none) _ _ s);refine Gn ?_;refine wpAny_updateSeq ho rfl (Gq ⟨.none,rfl,?_⟩) (by rw[Gx];exact cG [] [_] ab aq 1 [.j 1 bc aq] rfl b7)
 have h1:=Heap.get?_update_self (Obj.mapSeq (·.push x)) ho rfl;refine hQ _ (if(vs.toArray.push x).size==vs.toArray.size then k else k+1) (h1.trans ?_) (Heap.SameBut.update ..)
 refine(?_:some _=some _);simp only[Obj.mapSeq,nA];simp
theorem i6(σ:List O)(v:V)(b:Bx):(kg σ v b).length=σ.length:=by
 unfold kg
 split
 ·simp
 ·split<;>simp
 ·rfl
def ms(H0:Heap)(S:Addr)(F:Fm):Prop:=∃t,H0.get? S=some (ia F t)
def uw(H0:Heap)(Pk:Pg):Prop:=∀S F,Pk.fmt S=some F→ms H0 S F
def ra(H0:Heap)(c:Cal)(a fv:Value)(first:List Value):Prop:=match c with
 |.fn fa=>fv=.ref fa∧first=[a]
 |.app=>fv=.builtin "list.append"∧first=[a]
 |.get=>fv=.builtin "dict.get"∧first=[a]
 |.into F=>fv=.builtin "_struct.Struct.pack_into"∧first=[a]∧∃S,a=.ref S∧ms H0 S F
 |.frm F=>fv=.builtin "_struct.Struct.unpack_from"∧first=[a]∧∃S,a=.ref S∧ms H0 S F
 |.val x=>first=[]∧PRel H0.get? x fv
 |.enc z=>fv=.builtin "str.encode"∧first=[a]∧∃t,a=.str z t
theorem pj{g:Gm}{d:Addr}{es:List (P×P)}{pl:Sem Bool}{R:Value×List Value→Shared→Prop}(hb:lj g s.heap d (.dict es))(h:R (.builtin "dict.get",[.ref d]) s):wpN (model prog wd) A (getMethod (.ref d) "get" pl) R s:=by
 refine e0b hb fun _ zr=>e1b zr fun o h1 h2=>?_;have hx:o.ExactDict:=by
  clear hb pl zr;rcases h2 with⟨kvs,h3,_⟩|⟨xs,a0,ep,h3,_⟩
  ·refine e2b (h3 prog wd) fun _ _ h4 _=>?_;exact h4
  ·exact h3
 exact cA (getMethod_builtin (T:="dict") ⟨o,h1,hx.1⟩ PySem.F.plainAttrs_dict PySem.F.slot_dict_get PySem.F.type_dict_get (fun b e=>by injection e with e;subst e;exact⟨o,h1,hx.2.1⟩) h)
theorem nl{m:MI}{b:Bm}(hm:oJ H0 prog wd name m)(h:m.bm=b)(hb:b≠.none):name=tu b:=by
 have:=hm.bm (by rw[h];exact hb)
 rw[h]at this;exact this
theorem sV{m:MI}{x:V}{a:Value}{K:Cal→Prop}{pl:Sem Bool}{R:Value×List Value→Shared→Prop}(hF:uw H0 Pk)(hm:oJ H0 prog wd name m)(p:Pre H0 f e nm G st s)(hx:dk G.g G.k x a)(h:methK Pk m x st K)
  (hR:∀c fv first t,ra H0 c a fv first→K c→R (fv,first) {s with toks:=t}):wpN (model prog wd) A (getMethod a name pl) R s:=by
 have get:∀{d:Addr} {es:List (P×P)},a=.ref d→lj G.g s.heap d (.dict es)→m.bm=.get→K .get→wpN (model prog wd) A (getMethod a name pl) R s:=fun{d es} ha hb hbm h=>by
  subst ha;have hn:=nl hm hbm (fun q=>nomatch q)
  subst hn;exact pj hb (hR .get _ _ s.toks ⟨rfl,rfl⟩ h)
 cases x with
 |ref j=>
  refine e1b hx fun ad h7 b6=>?_;clear hx;subst b6;refine e1b (dH h) fun o hj h=>?_
  cases o with
  |cinst c fs ver=>
   clear get;refine e1b (dH h) fun fa e5 h=>?_;refine e3f (p.inv.obj j _ hj) fun d4 dx sl h1 h2 h3 h4 h5 h6=>?_;rw[h1]at h7;clear h6 h5;cases h7;exact hm.fn c fa e5 A s ad dx sl pl R p.h0 h3 (p.inv.gg _ _ h4) (hR (.fn fa) _ _ s.toks ⟨rfl,rfl⟩ h)
  |bx b=>
   refine e1c (p.inv.obj j _ hj) fun d4 h1 h2 hb=>?_;rw[h1]at h7;obtain rfl:=sj h7;unfold C5 bmB at h;dsimp only at h
   cases b with
   |lst l=>
    clear get;refine e2b hb fun vs k ho hv=>?_
    cases hbm:m.bm with
    |append=>
     rw[hbm]at h;have hn:=nl hm hbm (fun q=>nomatch q)
     clear hj h7;subst hn;exact cA (getMethod_list_append ho rfl rfl (hR .app _ _ s.toks ⟨rfl,rfl⟩ h))
    |_=>rw[hbm]at h;exact h.elim
   |dict es=>
    dsimp only at h;clear hj h7;cases hbm:m.bm with
    |get=>rw[hbm]at h;exact get rfl hb hbm h
    |_=>rw[hbm]at h;exact h.elim
   |ba l=>exact h.elim
  |dead=>exact h.elim
 |inn j k n=>
  refine e3e (p.box hx h) fun ad b key ck _ hb hr _=>?_;subst ck;unfold inD at hb
  cases b with
  |dict es=>
   dsimp only at hb
   cases hbm:m.bm with
   |get=>rw[hbm]at hb;exact get rfl hr hbm hb
   |_=>rw[hbm]at hb;exact hb.elim
  |_=>exact hb.elim
 |inst c fs=>
  clear get;refine e1b (dH h) fun fa e5 h=>?_;refine e4e hx fun ad ob dx vs c1 h1 c2 h2 h3=>?_;clear hx;clear h3;subst c1 c2;exact hm.fn c fa e5 A s ad dx _ pl R p.h0 (p.inv.gg _ _ h1) (p.inv.gg _ _ h2) (hR (.fn fa) _ _ s.toks ⟨rfl,rfl⟩ h)
 |p y=>
  clear get
  cases y with
  |st S=>
   subst hx
   change vN Pk m S K at h
   unfold vN at h
   cases hS:Pk.fmt S with
   |some F=>
    rw[hS]at h;unfold fmM at h;dsimp only at h;have hs:=hF S F hS;refine e1a hs fun t ht=>?_;have a0:=p.h0 _ _ ht;clear hs;cases hbm:m.bm with
    |pack_into=>
     rw[hbm]at h;have hn:=nl hm hbm (fun q=>nomatch q)
     clear hF;subst hn;exact cA (getMethod_builtin (T:="_struct.Struct") ⟨_,a0,rfl⟩ ig iV pM (fun a q=>by cases q;exact⟨_,a0,rfl⟩) (hR (.into F) _ _ s.toks ⟨rfl,rfl,S,rfl,t,ht⟩ h))
    |unpack_from=>
     rw[hbm]at h;have hn:=nl hm hbm (fun q=>nomatch q)
     clear hF;subst hn;exact cA (getMethod_builtin (T:="_struct.Struct") ⟨_,a0,rfl⟩ ig iW pN (fun a q=>by cases q;exact⟨_,a0,rfl⟩) (hR (.frm F) _ _ s.toks ⟨rfl,rfl,S,rfl,t,ht⟩ h))
    |_=>rw[hbm]at h;exact h.elim
   |none=>
    rw[hS]at h;refine e1b (dH h) fun x hx h=>?_;exact hm.val S x hx A s pl R p.h0 fun v t hv=>hR (.val x) v [] t ⟨rfl,hv⟩ h
  |str z=>
   refine e1a hx fun t a3=>?_;subst a3
   change (match m.bm with|.encode=>K (.enc z)|_=>False)at h
   cases hbm:m.bm with
   |encode=>
    rw[hbm]at h;have hn:=nl hm hbm (fun q=>nomatch q)
    clear hF;subst hn;exact cA (getMethod_builtin (T:="str") (typeIs_str s z t) PySem.F.plainAttrs_str PySem.F.slot_str_encode PySem.F.type_str_encode (fun _ e=>nomatch e) (hR (.enc z) _ _ s.toks ⟨rfl,rfl,t,rfl⟩ h))
   |_=>rw[hbm]at h;exact h.elim
  |_=>exact h.elim
 |_=>exact h.elim
theorem Ei{x:V}{a:Value}{args:List V}{vs:List Value}{Q:V→St→Prop}(p:Pre H0 f e nm G st s)(hx:dk G.g G.k x a)(hv:cZ G.g G.k args vs)(h:yW Pk .app x args [] st Q) :
  wpN (model prog wd) A (_root_.PySem.call (.builtin "list.append") (a::vs)) (dg H0 f e nm G s st.σ.length Q) s:=by
 refine e1b (fP h) fun y a3 h=>?_;subst a3;refine e1b hv.only fun v a3 hy=>?_;clear hv;subst a3;refine e1d (p.frz hy) fun G₁ a4 n₁ ah a0=>?_;refine e1b (gx h) fun c1 ey h=>?_;rw[ey]at a0;generalize (po y st.σ).2=c4 at h n₁ ah;refine e3e (ah.box (hx.le a4) h) fun ad b key ck _ hb hr e0=>?_;clear h hx p ey ah hy;subst ck;clear h;cases b with
 |lst l=>
  refine e2b hr fun us k ho hl=>?_;refine cA (lL ho (by rw[hl.length,GJ];exact hb.1) fun h' k' e1 e2=>?_)
  have fin:=dg.leaf (Q:=Q) (st:={st with σ:=kg c4 x (.lst (l++[c1]))}) (s:=s) (e0 h' (.lst (l++[c1])) e2.extBut ⟨_,k',e1,hl.append ⟨v,[],rfl,a0,rfl⟩⟩) ⟨rfl,rfl,rfl⟩ (vp (x:=.none) rfl) hb.2;exact dg.step (.refl _) a4 (by rw[i6];exact n₁) fin
 |_=>exact hb.elim
theorem Dp{x:V}{a:Value}{args:List V}{vs:List Value}{Q:V→St→Prop}(gd:nS n A)(p:Pre H0 f e nm G st s)(hx:dk G.g G.k x a)(hv:cZ G.g G.k args vs)(h:yW Pk .get x args [] st Q) :
  wpN (model prog wd) A (_root_.PySem.call (.builtin "dict.get") (a::vs)) (dg H0 f e nm G s st.σ.length Q) s:=by
 refine e1b (fP h) fun y a3 h=>?_;subst a3;refine e1b (gx h) fun y a3 h=>?_;subst a3;refine e1b hv.only fun v a3 hy=>?_;clear hv;subst a3;refine e3e (p.box hx h) fun ad b key ck _ hb hr e0=>?_;clear h hx e0;subst ck;clear h;cases b with
 |dict es=>exact yO (by have:=gd.units;have:cLine=9900:=rfl;exact cG [] [_,_] (.a (.a ab (.n 80)) ai) aT 1 [.j 1 (.a ab (.m 8 ae)) aZ] rfl (by assumption)) p.inv.gg hr hb.1 hy fun z t hz=>.tok p (vp hz) hb.2
 |_=>exact hb.elim
theorem Bk{x:V}{F:Fm}{S:Addr}{t:Tok}{args:List V}{vs:List Value}{Q:V→St→Prop}(p:Pre H0 f e nm G st s)(ht:H0.get? S=some (ia F t))(hv:cZ G.g G.k args vs)(h:yW Pk (.into F) x args [] st Q) :
  wpN (model prog wd) A (_root_.PySem.call (.builtin "_struct.Struct.pack_into") (.ref S::vs)) (dg H0 f e nm G s st.σ.length Q) s:=by
 refine e2b (jc h) fun buf r b6 h=>?_;subst b6;refine e2b (jc h) fun off r b6 h=>?_;subst b6;refine e1b (fP h) fun m a3 h=>?_;subst a3;refine e1b (eu h) fun off a3 h=>?_;subst a3;refine e1b (eu h) fun m a3 h=>?_;subst a3;refine e2c hv.head fun vb r q ea cc=>e2c cc.two fun v w q1 A B=>e1a A fun ot q2=>e1a B fun nt q3=>?_;clear hv cc A B;subst q q1 q2 q3;refine e3e (p.box ea h) fun ad b key q _ hb hr e0=>?_;clear h ea;subst q;clear h;cases b with
 |ba l=>
  refine e0b hb fun ct q=>e0e ct fun b1 b2 b3 b4 b5=>?_;refine cA (nK (p.h0 _ _ ht) hr b1 b2 (by rw[GJ];exact b3) b4 b5 fun h' e1 e2=>?_)
  have fin:=dg.leaf (Q:=Q) (st:={st with σ:=kg st.σ buf (.ba (put l off.toNat (le F.w m)))}) (s:=s) (e0 h' (.ba (put l off.toNat (le F.w m))) e2.extBut e1) ⟨rfl,rfl,rfl⟩ (vp (x:=.none) rfl) q;exact dg.step (.refl _) (.refl _) (by rw[i6];exact Gw _) fin
 |_=>exact hb.elim
theorem Dq{x:V}{F:Fm}{S:Addr}{t:Tok}{args:List V}{vs:List Value}{Q:V→St→Prop}(p:Pre H0 f e nm G st s)(ht:H0.get? S=some (ia F t))(hv:cZ G.g G.k args vs)(h:yW Pk (.frm F) x args [] st Q) :
  wpN (model prog wd) A (_root_.PySem.call (.builtin "_struct.Struct.unpack_from") (.ref S::vs)) (dg H0 f e nm G s st.σ.length Q) s:=by
 refine e2b (jc h) fun buf r b6 h=>?_;subst b6;refine e1b (fP h) fun off a3 h=>?_;subst a3;refine e1b (eu h) fun off a3 h=>?_;subst a3;refine e2c hv.two fun vb w b6 ea zr=>e1a zr fun ot a4=>?_;clear hv zr;subst b6 a4;refine e1c (mw p ea h) fun l hb ct q=>?_;refine e0c ct fun b1 b2 b3=>?_;refine cA (lU (p.h0 _ _ ht) hb b1 b2 (by rw[GJ];exact b3) ?_)
 refine e1e (p.pushG {cls:=.type "tuple",data:=.seq #[.int (F.rd ((l.drop off.toNat).take F.w)) s.toks]} rfl) fun G' le p' g' k' _=>?_;exact⟨G',st,_,⟨rfl,rfl,rfl⟩,le,Gw _,p'.toks rfl,vp (x:=.tup [.int _]) ⟨_,_,[.int _ _],0,rfl,g',rfl,_,_,rfl,⟨_,rfl⟩,rfl⟩,q⟩
theorem wP{c:Cal}{x:V}{a fv:Value}{first vs:List Value}{args:List V}{kws:List (Str×P)}{kvs:List (Str×Value)}{Q:V→St→Prop}(hP:xg H0 prog wd n Pk)(gd:nS n A)(p:Pre H0 f e nm G st s)
  (hc:ra H0 c a fv first) (hx:dk G.g G.k x a) (hv:cZ G.g G.k args vs) (hk:zo G.g kws kvs) (a0:(∃fa,c=.fn fa)∨(kws=[]∧kvs=[])) (h:yW Pk c x args kws st Q) :
  (∃kp,Looks (model prog wd) s.heap (keeperOf fv) kp)∧wpN (model prog wd) A (_root_.PySem.call fv (first++vs) kvs) (dg H0 f e nm G s st.σ.length Q) s:=by
 cases c with
 |fn fa=>
  refine e0b hc fun b6 a3=>?_;clear hc;subst b6 a3;refine e1a (oy h) fun ctr a4=>?_;refine e1a ((hP fa ctr a4).keep) fun kp a5=>?_;exact⟨⟨kp,a5.keeps p.h0⟩,tp hP gd p (args:=x::args) (vs:=a::vs) ⟨a,vs,rfl,hx,hv⟩ hk h⟩
 |app=>
  refine e0b (a0.resolve_left fun q=>q.elim fun _ q=>nomatch q) fun b6 a3=>?_;clear hk;subst b6 a3
  refine e0b hc fun b6 a3=>?_;clear hc;subst b6 a3;exact⟨⟨_,Looks.of_pure rfl⟩,Ei p hx hv h⟩
 |get=>
  refine e0b (a0.resolve_left fun q=>q.elim fun _ q=>nomatch q) fun b6 a3=>?_;clear hk;subst b6 a3
  refine e0b hc fun b6 a3=>?_;clear hc;subst b6 a3;exact⟨⟨_,Looks.of_pure rfl⟩,Dp gd p hx hv h⟩
 |into F=>
  refine e0b (a0.resolve_left fun q=>q.elim fun _ q=>nomatch q) fun b6 a3=>?_;clear hk hx;subst b6 a3
  obtain⟨rfl,rfl,S,rfl,t,ht⟩:=hc;exact⟨⟨_,Looks.of_pure rfl⟩,Bk p ht hv h⟩
 |frm F=>
  refine e0b (a0.resolve_left fun q=>q.elim fun _ q=>nomatch q) fun b6 a3=>?_;clear hk hx;subst b6 a3
  obtain⟨rfl,rfl,S,rfl,t,ht⟩:=hc;exact⟨⟨_,Looks.of_pure rfl⟩,Dq p ht hv h⟩
 |val y=>
  refine e0b (a0.resolve_left fun q=>q.elim fun _ q=>nomatch q) fun b6 a3=>?_;clear a0 hk hx;subst b6 a3
  refine e0b hc fun b6 hy=>?_;clear hc;clear a;subst b6;exact tm hP gd p (fx:=.p y) (hy.mono p.inv.base) hv h
 |enc z=>
  refine e0b (a0.resolve_left fun q=>q.elim fun _ q=>nomatch q) fun b6 a3=>?_;clear a0 hk hx;subst b6 a3
  obtain⟨rfl,rfl,t,rfl⟩:=hc;refine⟨⟨_,Looks.of_pure rfl⟩,?_⟩;refine e1c (fP h) fun y a3 hc q=>?_;subst a3;refine e0c hc fun h1 h2 h3=>?_;subst h1;refine e1b hv.only fun v a3 hy=>?_;subst a3;refine e1a hy fun u a3=>?_;subst a3;exact cA (sd h3 h2 fun t' k=>.tok p sE q)
end
end
section
section
variable {prog:Program}{wd:World}{A:Around}{H0:Heap}{e:Env}{nm:List (Option Str)}{Pk:Pg}{f:Gm}{G:Gh}{st:St}{s:Shared}{n:Nat}
variable {o fe k:PySem.Expr}{cf ca co ck:C}{pos apos p2:Pos}{args:List PySem.Expr}{name kn:Str}{m:MI}
theorem ra.le{c:Cal}{a fv:Value}{first:List Value}(h:ra H0 c a fv first):ra H0 c a fv first:=h
theorem BE(hP:xg H0 prog wd n Pk)(hF:uw H0 Pk)(gd:nS n A)(hm:oJ H0 prog wd name m)(hb:eV o=true)(c2:dj args=true)(bh:decide (args.length<29)=true)(c4:(apos.endLine==pos.line)=true)
  (ho:EJ H0 (model prog wd) A e nm (eval o e) (w Pk co)) (ha:LJ H0 (model prog wd) A e nm (spliced (backTo pos (starEach args e))) (w Pk ca)) :
  EJ H0 (model prog wd) A e nm (eval (.Call (.Attribute o name apos) args [] pos) e) (w Pk (.meth co m ca)):=fun f G s st Q p h=>by
 refine dc (arm_eval_Call ..) ?_;rw[pF hb];refine cy (fD (ho f G s st _ p h) fun a s₁ G₁ a0 x a5 a4 n₁ ah b4 ac=>?_);refine cC ?_;have c1:methodCallForm (args.length+([]:List Keyword).length) (backTo pos (starEach args e)) (backToKw pos (keywordEach [] e))=true:=by
  unfold methodCallForm;rw[jC c2,s8];exact decide_eq_true (Nat.lt_succ_of_lt (GI bh))
 have c3:methodCallPos true o e apos pos=pure pos:=by unfold methodCallPos;simp[c4]
 unfold methodCall;rw[c1];refine(?_:wpN _ _ (holding [a] (getMethod a name _)>>=_) _ _);refine cy (cB (sV hF hm ah b4 (jH ac :) fun c fv first t hc hq=>?_))
 refine cH (wpAny_of_eq c3 ?_);refine fk (fM (R:=fun as s'=>as.kw=[]∧zn H0 f e nm G₁ {s₁ with toks:=t} a0.σ.length (fun xs st=>yW Pk c x xs [] st fun v st=>Q [v] st) as.pos s') (kI c2) (cE (ha f G₁ {s₁ with toks:=t} a0 _ (ah.toks rfl) hq) fun vs ar P=>⟨rfl,P⟩)) ?_;intro as ar hh;clear ah h p;obtain⟨vs,kw⟩:=as;refine e0b hh fun b6 zr=>e3f zr fun d1 c0 xs ct ag cc b5 b7 bb=>?_;clear hh;clear ac ha ho c4 bh c2 hb hm hF c3 c1 zr hq;subst b6;have aw:gi s₁ ar:=(show gi s₁ {s₁ with toks:=t}from⟨rfl,rfl,rfl⟩).trans ct
 refine e0b (wP hP gd b5 hc (b4.le ag) b7 (kws:=[]) (kvs:=[]) rfl (.inr ⟨rfl,rfl⟩) bb) fun h1 h2=>?_;exact⟨h1,cE h2 fun v d4 P=>P.step (a5.trans aw) (a4.trans ag) (Gp n₁ cc)⟩
theorem yK{kp:Pos}(hP:xg H0 prog wd n Pk)(hF:uw H0 Pk)(gd:nS n A)(hm:oJ H0 prog wd name m)(hb:eV o=true)(c2:dj args=true)(bh:decide (args.length<28)=true)(c4:(apos.endLine==pos.line)=true)
  (ho:EJ H0 (model prog wd) A e nm (eval o e) (w Pk co)) (ha:LJ H0 (model prog wd) A e nm (spliced (backTo pos (starEach args e))) (w Pk ca)) (hk:EJ H0 (model prog wd) A e nm (eval k e) (w Pk ck)) :
  EJ H0 (model prog wd) A e nm (eval (.Call (.Attribute o name apos) args [⟨some kn,k,kp⟩] pos) e) (w Pk (.methK co m ca kn ck)):=fun f G s st Q p h=>by
 refine dc (arm_eval_Call ..) ?_;rw[pF hb];refine cy (fD (ho f G s st _ p h) fun a s₁ G₁ a0 x a5 a4 n₁ ah b4 ac=>?_);refine cC ?_;have c1:methodCallForm (args.length+([⟨some kn,k,kp⟩]:List Keyword).length) (backTo pos (starEach args e)) (backToKw pos (keywordEach [⟨some kn,k,kp⟩] e))=true:=by
  unfold methodCallForm;rw[jC c2,s8];exact decide_eq_true (Nat.succ_lt_succ (Nat.succ_lt_succ (GI bh)))
 have c3:methodCallPos true o e apos pos=pure pos:=by unfold methodCallPos;simp[c4]
 unfold methodCall;rw[c1];refine(?_:wpN _ _ (holding [a] (getMethod a name _)>>=_) _ _);refine cy (cB (sV (K:=fun c=>∃fa,c=.fn fa∧w Pk ca a0 fun xs st=>w Pk ck st fun k st=>one k fun k=>p1 k fun k=>eT Pk fa (x::xs) [(kn,k)] st fun v st=>Q [v] st) hF hm ah b4 (A0 (jH ac :) fun fa h=>⟨fa,rfl,h⟩) fun c fv first t hc hq=>?_))
 refine cH (wpAny_of_eq c3 ?_);revert hq;intro zh;refine e1b zh fun fa a3 hq=>?_;clear zh;clear ac ho c4 bh hb hm hF h c3 c1 p;subst a3;refine e0b hc fun b6 a3=>?_;clear hc;subst b6 a3;refine fk (oN (R:=fun as s'=>∃kv,as.kw=[(kn,kv)]∧∃G' b3 xs kx,gi {s₁ with toks:=t} s'∧G₁.Le G'∧a0.σ.length≤b3.σ.length∧Pre H0 f e nm G' b3 s'∧cZ G'.g G'.k xs as.pos∧dk G'.g G'.k kx kv∧
   p1 kx fun k=>eT Pk fa (x::xs) [(kn,k)] b3 fun v st=>Q [v] st) (kI c2) (CW (ha f G₁ {s₁ with toks:=t} a0 _ (ah.toks rfl) hq) fun vs ar d1 c0 xs aw ag cc b5 b7 bb=>?_)) ?_
 ·refine(?_:wpN _ _ (eval k e>>=fun v=>standAt pos>>=fun _=>pure v) _ _);refine cy (fD (hk f d1 ar c0 _ b5 bb) fun kv d4 e4 d2 kx cf ce e3 d3 dh df=>?_);exact cC (wpN_pure ⟨kv,rfl,e4,d2,xs,kx,aw.trans cf,ag.trans ce,Gp cc e3,d3,b7.le ce,dh,df⟩)
 ·intro as ar hh;clear hq;obtain⟨vs,kw⟩:=as;refine e1b hh fun kv a3 zr=>e4g zr fun d1 c0 xs kx ct ag cc b5 b7 d5 bb=>?_;clear hh;clear hk ha c2 kp;subst a3;refine e1b (gx bb) fun dd a3 bb=>?_;subst a3;have aw:gi s₁ ar:=(show gi s₁ {s₁ with toks:=t}from⟨rfl,rfl,rfl⟩).trans ct
  refine e0b (wP hP gd b5 (c:=.fn fa) ⟨rfl,rfl⟩ (b4.le ag) b7 (kws:=[(kn,dd)]) ⟨kv,[],rfl,d5,rfl⟩ (.inl ⟨fa,rfl⟩) (show yW Pk (.fn fa) x xs [(kn,dd)] c0 (fun v st=>Q [v] st)from bb)) fun h1 h2=>?_
  exact⟨h1,cE h2 fun v d4 P=>P.step (a5.trans aw) (a4.trans ag) (Gp n₁ cc)⟩
theorem cV.toV0{g:Gm}{k:lg}:∀{l:List P} {vs:List Value},cV g l vs→cZ g k (l.map .p) vs
 |[],_,h=>h
 |_::_,_,⟨v,r,e,h1,h2⟩=>⟨v,r,e,h1,h2.toV0⟩
theorem cZ.app{g:Gm}{k:lg}{xs ys:List V}{vs us:List Value}(h:cZ g k xs vs)(h':cZ g k ys us):cZ g k (xs++ys) (vs++us):=by
 induction xs generalizing vs with
 |nil=>subst h;exact h'
 |cons x xs ih=>exact e2c h fun v r e h1 h2=>⟨v,r++us,congrArg (·++us) e,h1,ih h2⟩
theorem A7{rest:List PySem.Expr}{ps:Pos}{cx cr:C}(hx:EJ H0 (model prog wd) A e nm (eval k e) (w Pk cx))(hr:LJ H0 (model prog wd) A e nm (spliced (backTo pos (starEach rest e))) (w Pk cr)) :
  LJ H0 (model prog wd) A e nm (spliced (backTo pos (starEach (.Starred k ps::rest) e))) (w Pk (.cons (.star cx) cr)):=fun f G s st Q p h=>by
 refine(?_:wpN _ _ (spliced ((true,(do let v ←eval k e;standAt pos;pure v))::backTo pos (starEach rest e))) _ _)
 rw[spliced];refine cy (cy (fD (hx f G s st _ p h) fun v s₁ G₁ a0 x a5 a4 n₁ ah b4 ac=>cC (wpN_pure ?_)));refine e1b (ro (jH ac :)) fun l a3 ac=>?_;clear hx ps h;subst a3;refine e4d b4 fun ad o vs n c1 h1 c2 h2=>?_;clear b4;clear cx;subst c1 c2;have hT:s₁.TypeIs (.ref ad) "tuple":=⟨_,ah.inv.gg _ _ h1,rfl⟩;refine cy ?_;unfold notIterableAtAll;refine cH (wpAny_specialOf hT PySem.F.slot_tuple_iter.lookup (dE rfl (wpN_pure ?_)));refine cF rfl ?_;refine cy ?_;refine cA (wpAny_collect_seq ad (.inr rfl) (ah.inv.gg _ _ h1) rfl rfl (fun h' hk=>?_) (by rw[Gx,h2.length,GJ];exact ac.1))
 have b5:Pre H0 f e nm G₁ a0 {s₁ with heap:=h'}:=ah.keeps hk;refine cy (cB (CW (hr f G₁ {s₁ with heap:=h'} a0 _ b5 ac.2) fun vs' ar d1 c0 xs aw ag cc d3 b7 bb=>wpN_pure ?_));refine⟨d1,c0,l.map .p++xs,⟨aw.1.trans a5.1,aw.2.trans a5.2,aw.3.trans a5.3⟩,a4.trans ag,Gp n₁ cc,d3,?_,bb⟩;exact cZ.app (by simpa using(h2.mono ag.g).toV0) b7
theorem xJ(h:args.any eB=true):(backTo pos (starEach args e)).all (!·.1)=false:=by
 induction args with
 |nil=>exact ft h
 |cons x r ih=>
  cases hx:eB x with
  |true=>exact(xI (xs:=r) (e:=e) hx).elim fun t q=>q.elim fun z q=>by rw[q];rfl
  |false=>rw[rr hx];exact ih (by rw[List.any_cons,hx]at h;exact h)
noncomputable def l8:List PySem.Expr→Bool
 |[]=>false
 |x::r=>!eB x&&r.any eB
theorem l5{b fa:Addr}{x:Value}{a:Args}{R:Flow→Shared→Prop}(hb:s.heap.get? b=some (methodObj (.ref fa) x))
  (hq:eP (model prog wd) A (.call (.ref fa) {a with pos:=x::a.pos}) R s):eP (model prog wd) A (.call (.ref b) a) R s:=by
 refine cT rfl ?_;refine(?_:wpN _ A.in1 (callAny (.ref b) a) _ _);refine cH (wpAny_load hb ?_);exact wpN_pure ⟨rfl,hq⟩
theorem yJ(hP:xg H0 prog wd n Pk)(gd:nS n A)(hm:oJ H0 prog wd name m)(b7:m.bd=true)(hb:eV o=true)(dr:l8 args=true)
  (ho:EJ H0 (model prog wd) A e nm (eval o e) (w Pk co)) (ha:LJ H0 (model prog wd) A e nm (spliced (backTo pos (starEach args e))) (w Pk ca)) :
  EJ H0 (model prog wd) A e nm (eval (.Call (.Attribute o name apos) args [] pos) e) (w Pk (.methS co m ca)):=fun f G s st Q p h=>by
 cases args with
 |nil=>exact ft dr
 |cons x0 rest=>
 have bh:eB x0=false∧rest.any eB=true:=by
  unfold l8 at dr;simpa using dr
 have b3:(x0::rest).any eB=true:=by rw[List.any_cons,bh.2,Bool.or_true]
 refine dc (arm_eval_Call ..) ?_;rw[pF hb];refine cy (fD (ho f G s st _ p h) fun a s₁ G₁ a0 x a5 a4 n₁ ah b4 ac=>?_);refine cC ?_;have c1:methodCallForm ((x0::rest).length+([]:List Keyword).length) (backTo pos (starEach (x0::rest) e)) (backToKw pos (keywordEach [] e))=false:=by
  unfold methodCallForm;rw[xJ b3];rfl
 have c3:methodCallPos false o e apos pos=pure pos:=by unfold methodCallPos;rfl
 unfold methodCall;rw[c1];have key:∀(ad fa:Addr) (c dx:Addr) (sl:Array (Option Value)),a=.ref ad→s₁.heap.get? ad=some (kL c dx sl)→s₁.heap.get? dx=some emptyDict→m.fn.lookup c=some fa→
   w Pk ca a0 (fun xs st=>eT Pk fa (x::xs) [] st fun v st=>Q [v] st)→
   wpN (model prog wd) A (do
    let (f,first) ←holding [a] (calleeOf false o e a name)
    let callPos ←methodCallPos false o e apos pos
    callWith callPos f first (backTo pos (starEach (x0::rest) e)) (backToKw pos (keywordEach [] e))) (dg H0 f e nm G s st.σ.length fun x st=>Q [x] st) s₁:=fun ad fa c dx sl ea h1 h2 h3 h4=>by
  clear ho dr hb c1 b3 h p;subst ea;refine e0b (hm.bnd b7 c fa h3) fun hB zr=>e2b zr fun of fd hf1 hf2=>?_;refine cy (cB ?_);refine(?_:wpN _ _ (getAttr (.ref ad) name true>>=fun v=>pure (v,[])) _ _);refine cy (hB A s₁ ad dx sl _ ah.h0 h1 h2 fun t=>wpN_pure ?_);refine e1e (ah.pushG (methodObj (.ref fa) (.ref ad)) rfl) fun d1 ag b5 c0 bb _=>?_;have d3:Pre H0 f e nm d1 a0 {s₁ with heap:=s₁.heap.push (methodObj (.ref fa) (.ref ad)),toks:=t}:=b5.toks rfl;refine cH (wpAny_of_eq c3 ?_);refine fk (fM (R:=fun as s'=>as.kw=[]∧zn H0 f e nm d1 {s₁ with heap:=s₁.heap.push (methodObj (.ref fa) (.ref ad)),toks:=t} a0.σ.length (fun xs st=>eT Pk fa (x::xs) [] st fun v st=>Q [v] st) as.pos s')
   (fun y hy=>?_) (cE (ha f d1 _ a0 _ d3 h4) fun vs ar P=>⟨rfl,P⟩)) ?_
  ·have e1:starEach (x0::rest) e=(false,eval x0 e)::starEach rest e:=by clear bb b5 hB;cases x0<;>first|rfl|exact tf bh.1
   rw[e1]at hy;clear e1 bb b5 hB;cases (List.cons.inj hy).1
  ·intro as ar hh;clear bb b5 hB;obtain⟨vs,kw⟩:=as;refine e0b hh fun b6 zr=>e3f zr fun e4 d2 xs cf ce e3 dd dh df=>?_;clear hh;clear ha b7 hm bh rest d3 c3;subst b6;have hq:=dd.inv.gg _ _ (ce.g _ _ c0);refine⟨⟨.boundFrame,?_⟩,?_⟩
   ·unfold keeperOf;refine(Looks.ld hq).andThen ?_;refine(Looks.ld (dd.h0 _ _ hf1)).andThen ?_;rw[hf2];exact .now
   ·have aw:=oz hP gd dd (args:=x::xs) (vs:=.ref ad::vs) (kws:=[]) (kvs:=[]) ⟨.ref ad,vs,rfl,b4.le (ag.trans ce),dh⟩ rfl df;refine wpN_call (dJ (l5 hq aw) fun fl s' a3=>?_);clear x0 df dh aw hq;cases fl with
    |ret v=>exact dg.step ⟨cf.1.trans a5.1,cf.2.trans a5.2,cf.3.trans a5.3⟩ (a4.trans (ag.trans ce)) (Gp n₁ e3) a3
    |_=>exact a3.elim
 have ac:=jH ac;clear a4 a5;cases x with
 |ref j=>
  refine e1b (dH ac) fun o hj ac=>?_;refine e3b (kN ac) fun c fs ver ck ac=>?_;clear ha ho dr hb b7 hm gd hP n₁;subst ck;refine e1b (dH ac) fun fa e5 ac=>?_;refine e3f (ah.inv.obj j _ hj) fun d4 dx sl h1 h2 h3 h4 h5 h6=>?_;refine e1b (id b4) fun ad h7 ea=>?_;rw[h1]at h7;obtain rfl:=sj h7;exact key d4 fa c dx sl ea h3 (ah.inv.gg _ _ h4) e5 ac
 |inst c fs=>
  refine e1b (dH ac) fun fa e5 ac=>?_;refine e4e (id b4) fun ad ob dx vs ea h1 c2 h2 h3=>?_;clear ha ho dr hb b7 hm gd hP;subst c2;exact key ad fa c dx _ ea (ah.inv.gg _ _ h1) (ah.inv.gg _ _ h2) e5 ac
 |_=>exact ac.elim
def xe(H0:Heap)(prog:Program)(wd:World)(nme:Str)(c:Addr)(k:Nat):Prop:=∀(A:Around) (s:Shared) (a dx:Addr) (sl:Array (Option Value)) (v:Value) (Q:Unit→Shared→Prop),
 (∀b o,H0.get? b=some o→s.heap.get? b=some o)→s.heap.get? a=some (kL c dx sl)→s.heap.get? dx=some emptyDict→
 (∀h' t,h'.get? a=some (kL c dx ((sl++Array.replicate (k+1-sl.size) none).setIfInBounds k (some v)))→Heap.SameBut a s.heap h'→Q () {s with heap:=h',toks:=t})→wpN (model prog wd) A (setAttr (.ref a) nme v) Q s
structure B5(H0:Heap)(prog:Program)(wd:World)(nme:Str)(i:AI):Prop where
 slot:∀c k,i.slots.lookup c=some k→xe H0 prog wd nme c k
theorem uX{sl:Array (Option Value)}{k:Nat}{v:Value}:(((sl++Array.replicate (k+1-sl.size) none).setIfInBounds k (some v))[k]?).join=some v:=by
 rw[Array.getElem?_setIfInBounds_self_of_lt (by simp;lia)];rfl
theorem tJ{sl:Array (Option Value)}{k j:Nat}{v:Value}(h:j≠k):(((sl++Array.replicate (k+1-sl.size) none).setIfInBounds k (some v))[j]?).join=(sl[j]?).join:=by
 rw[Array.getElem?_setIfInBounds_ne (Ne.symm h),Array.getElem?_append];clear h;split
 ·rfl
 ·rename_i q
  rw[Array.getElem?_eq_none (by exact((Nat.not_lt.mp q)):sl.size≤j)]
  clear v;cases hq:(Array.replicate (k+1-sl.size) (none:Option Value))[j-sl.size]? with
  |none=>rfl
  |some y=>rw[Array.getElem?_replicate]at hq;split at hq<;>cases hq;rfl
noncomputable def rb(G:Gh)(j k ver:Nat)(t:Option Addr):Gh:=⟨G.g,⟨G.k.id,fun i m v=>if i=j∧v=ver+1 then(if m=k then t else G.k.inn j m ver)else G.k.inn i m v⟩,fun a=>if t=some a then some (j+1,k+1)else G.ow a⟩
theorem Pre.setSlot(p:Pre H0 f e nm G st s){j k ver:Nat}{c:Addr}{fs:List Sl}{ne:Sl}{a dx:Addr}{sl:Array (Option Value)}{v:Value}{t:Option Addr}{h':Heap}{tk:Nat}{σ':List O}
  (hj:st.σ[j]?=some (.cinst c fs ver)) (ha:G.k.id j=some a) (hg:h'.get? a=some (kL c dx ((sl++Array.replicate (k+1-sl.size) none).setIfInBounds k (some v)))) (hs:Heap.SameBut a s.heap h')
  (h0:s.heap.get? a=some (kL c dx sl)) (ht:∀x,t=some x→∃r,G.ow x=some (r+1,0)∧r≠j∧σ'[r]?=some .dead)
  (hn:Ch (rb G j k ver t) h' j (ver+1) k (some v) ne) (ag:σ'.length=st.σ.length) (a0:σ'[j]?=some (.cinst c (fs.set k ne) (ver+1))) (a4:∀i o,i≠j→σ'[i]?=some o→o=.dead∨(st.σ[i]?=some o∧∀x,t=some x→G.ow x≠some (i+1,0))) :
  G.Le (rb G j k ver t)∧Pre H0 f e nm (rb G j k ver t) {st with σ:=σ'} {s with heap:=h',toks:=tk}:=by
 refine e3f (p.inv.obj j _ hj) fun a' dx' sl' h1 h2 h3 h4 h5 h6=>?_;rw[ha]at h1;cases h1;rw[h0]at h3;cases h3;have ah:j<st.σ.length:=(List.getElem?_eq_some_iff.mp hj).1;have le:G.Le (rb G j k ver t):=⟨fun _ _ h=>h,fun _ _ h=>h,fun i m v x h=>by
  simp only[rb]
  split
  ·rename_i q;refine e0b q fun b6 a3=>?_;clear q;clear h0 hj tk;subst b6 a3;have:=h6 m _ x h;lia
  ·exact h⟩
 have how:∀x y,G.ow x=some y→(∀z,t=some z→x≠z)→(rb G j k ver t).ow x=some y:=fun x y h q=>by
  simp only[rb]
  split
  ·rename_i q';exact absurd rfl (q _ q')
  ·exact h
 have bb:∀x y,G.ow x=some y→y≠(j+1,0)→∀o,s.heap.get? x=some o→h'.get? x=some o:=fun x y h1 h3 o ho=>(hs.2 x fun q=>by clear h0 hj tk;subst q;rw[h2]at h1;cases h1;exact h3 rfl).trans ho
 have ar:∀b,G.ow b=none→∀o,s.heap.get? b=some o→h'.get? b=some o:=fun b hb o ho=>(hs.2 b fun q=>by clear h0 hj tk;subst q;rw[h2]at hb;exact sn hb).trans ho
 have a5:∀b o,G.g b=some o→G.ow b=none:=fun b o hb=>by
  cases q:G.ow b with
  |none=>rfl
  |some y=>rw[(p.inv.own b y q).1]at hb;exact ns hb
 have ac:∀b o,f b=some o→G.ow b=none:=fun b o hb=>by
  cases q:G.ow b with
  |none=>rfl
  |some y=>rw[(p.inv.own b y q).2.1]at hb;exact ns hb
 have aw:∀b y,G.ow b=some y→(∀r,y≠(r+1,0))→∀z,t=some z→b≠z:=fun b y h q z hz hb=>by
  clear h0 hj tk;subst hb;refine e1b (ht _ hz) fun r h3 _=>?_;rw[h]at h3;obtain rfl:=sj h3;exact q r rfl
 refine⟨le,⟨p.inv.base,fun b o h=>ar b (a5 b o h) o (p.inv.gg b o h),fun b o h=>ar b (ac b o h) o (p.inv.ff b o h),p.inv.fg,fun b y h=>?_,fun i o h=>?_,fun i h=>?_⟩,?_,p.len⟩
 ·have:∃y,G.ow b=some y:=by
   simp only[rb]at h
   split at h
   ·rename_i q;refine e1b (ht b q) fun r h3 _=>?_;exact⟨_,h3⟩
   ·exact⟨_,h⟩
  refine e1a this fun y' hy=>?_;refine e0c (p.inv.own b y' hy) fun g1 g2 zr=>e1a zr fun o g3=>?_;refine⟨g1,g2,?_⟩;by_cases q:b=a
  ·clear h0 hj g2 g1 ac a5 ar zr;subst q;exact⟨_,hg⟩
  ·exact⟨o,(hs.2 b q).trans g3⟩
 ·dsimp only at h;by_cases q:i=j
  ·clear h0 hs hj ac a5 ar;subst q;rw[a0]at h;obtain rfl:=sj h;refine⟨a,dx,_,ha,how a _ h2 fun z hz hb=>?_,hg,h4,fun m y hy=>?_,fun m n' x hx=>?_⟩
   ·clear a0 hg ha tk;subst hb;refine e1c (ht _ hz) fun r h3 h7 _=>?_;rw[h2]at h3;clear h4;cases h3;exact h7 rfl
   ·by_cases qm:m=k
    ·clear a0 hg ha h2;subst qm;rw[uX];rw[List.getElem?_set]at hy
     split at hy
     ·split at hy
      ·clear h4;obtain rfl:=sj hy;exact hn
      ·exact ns hy
     ·rename_i q';exact absurd rfl q'
    ·rw[GU (Ne.symm qm)]at hy;rw[tJ qm];have:=h5 m y hy;clear h2 hy;cases y with
     |unset=>exact this
     |v px=>exact this
     |bx b=>
      refine e1d this fun x e1 e2 e3 e4=>?_;refine⟨x,e1,by simp only[rb];rw[if_pos ⟨trivial,trivial⟩,if_neg qm];exact e2,how x _ e3 (aw x _ e3 fun r q'=>by clear e2 qm e1;cases q'),e4.mono (fun _ _ h=>h) (bb x _ e3 fun q'=>by clear e3 e2 qm e1;cases q')⟩
   ·simp only[rb]at hx
    split at hx
    ·rename_i q';exact(GF (Gu q'))
    ·have:=h6 m n' x hx;exact cG [] [_,_] ab be 1 [.j 1 ab ae] rfl this
  ·clear h2;rcases a4 i o q h with rfl|⟨h7,h8⟩
   ·trivial
   ·refine ny.mono (G:=G) (fun _ _ h=>h) (fun _ h=>h) (fun m v=>by simp only[rb];rw[if_neg fun q'=>q q'.1]) (fun b j' hb=>⟨how b _ hb fun z hz hbz=>?_,bb b _ hb fun q'=>by cases q';exact q rfl⟩) (p.inv.obj i o h7)
    clear a4 a0 hn h0 hs hg ha hj tk ne c h7;subst hbz;refine e1b (ht _ hz) fun r h9 _=>?_;rw[hb]at h9;clear ht;cases h9;exact h8 _ hz hb
 ·dsimp only at h;have:=p.inv.dom i (by exact Gp (GF (Eq.symm ag)) h)
  exact⟨this.1,fun m v=>by simp only[rb];rw[if_neg fun q=>by exact(v8 [] [_,_,_,_] [.f (-1) ae ab,.j 1 bf ab,.j 1 ae au,.f 1 au aj] rfl ag ah h (Gz q))];exact this.2 m v⟩
 ·have fr0:∀b j',G.ow b=some (0,j')→(rb G j k ver t).ow b=some (0,j'):=fun b j' hb=>how b _ hb (aw b _ hb fun r q=>by clear a4 a0 ag hn ht h0 hs hg ha hj σ' tk v ne c;cases q)
  refine(p.fr.le le fr0).keep fun b j' hb o ho=>?_;simp only[rb]at hb
  split at hb
  ·clear a4 a0 ag hn ht h0 hs hg ha hj σ' v ne c;cases hb
  ·exact bb b _ hb (fun q=>by clear a4 a0 ag hn ht h0 hs hg ha hj σ' tk v ne c;cases q) o ho
theorem xU{i:AI}{x y:V}{a v:Value}{Q:St→Prop}(hA:B5 H0 prog wd name i)(p:Pre H0 f e nm G st s)(hx:dk G.g G.k x a)(hy:dk G.g G.k y v)(h:CN Pk i x y st Q){R:Unit→Shared→Prop}
  (hR:∀G' b3 s',gi s s'→G.Le G'→b3.σ.length=st.σ.length→Pre H0 f e nm G' b3 s'→Q b3→R () s') :
  wpN (model prog wd) A (setAttr a name v) R s:=by
 cases x with
 |ref j=>
  refine e1b (dH h) fun o hj h=>?_;refine e3b (kN h) fun c fs ver ck h=>?_;subst ck;refine e1b (dH h) fun k hk h=>?_;refine e1b (dH h) fun old hold h=>?_;refine e3f (p.inv.obj j _ hj) fun ad dx sl h1 h2 h3 h4 h5 h6=>?_;refine e1b hx fun d4 h7 b6=>?_;clear hx;clear h6 h5 hold old;subst b6;rw[h1]at h7;obtain rfl:=sj h7;have ah:j<st.σ.length:=(List.getElem?_eq_some_iff.mp hj).1;refine hA.slot c k hk A s ad dx sl v _ p.h0 h3 (p.inv.gg _ _ h4) fun h' t e1 e2=>?_
  cases y with
  |p px=>
   refine e0b (p.setSlot (ne:=.v px) (t:=none) (tk:=t) (σ':=st.σ.set j (.cinst c (fs.set k (.v px)) (ver+1))) hj h1 e1 e2 h3 (fun x q=>by exact ns q) ⟨v,rfl,hy⟩ (by simp) (by simp[ah]) (fun i o q ho=>.inr ⟨by rwa [GU (Ne.symm q)]at ho,fun x q'=>by exact ns q'⟩)) fun le p'=>?_
   exact hR _ _ _ ⟨rfl,rfl,rfl⟩ le (by simp) p' h
  |ref r=>
   refine e0b (show _∧_ from h) fun a4 h=>?_
   refine e1b (dH h) fun o hr h=>?_
   cases o with
   |bx b=>
    have a5:r≠j:=fun q=>by clear hA a4 h7 h4 hk;subst q;rw[hj]at hr;cases hr
    refine e1c (p.inv.obj r _ hr) fun ar g1 g2 g3=>?_;refine e1b hy fun ar' g4 b6=>?_;clear hy;clear hA a4 h7 h4 hk;subst b6;rw[g1]at g4;obtain rfl:=sj g4;have a3:r<st.σ.length:=(List.getElem?_eq_some_iff.mp hr).1;clear hr;obtain⟨le,p'⟩:=p.setSlot (ne:=.bx b) (t:=some ar) (tk:=t) (σ':=(st.σ.set j (.cinst c (fs.set k (.bx b)) (ver+1))).set r .dead) hj h1 e1 e2 h3
     (fun x q=>by clear e1;obtain rfl:=sj q;exact⟨r,g2,a5,by simp[a3]⟩)
     ⟨ar,rfl,by simp[rb],by simp[rb],g3.mono (fun _ _ h=>h) fun o ho=>(e2.2 ar fun q=>by clear t p g3 g4 g1;subst q;rw[h2]at g2;clear e2;cases g2;exact a5 rfl).trans ho⟩ (by simp) (by rw[GU a5];simp[ah])
     (fun i o q ho=>by
      by_cases qr:i=r
      ·clear t p g3 a5 ah;subst qr;rw[List.getElem?_set_self (by simpa using a3)]at ho;clear a3;obtain rfl:=sj ho;exact .inl rfl
      ·rw[GU (Ne.symm qr),GU (Ne.symm q)]at ho;exact .inr ⟨ho,fun x q' hx=>by clear t p;obtain rfl:=sj q';rw[g2]at hx;cases hx;exact qr rfl⟩)
    exact hR _ _ _ ⟨rfl,rfl,rfl⟩ le (by simp) p' h
   |_=>exact h.elim
  |_=>exact h.elim
 |_=>exact h.elim
theorem AB{i:AI}{l:PySem.Expr}{cl:C}(hA:B5 H0 prog wd name i)(hc:fS l=false)(ht:tU l=false)(hl:EJ H0 (model prog wd) A e nm (eval l e) (w Pk cl))(ho:EJ H0 (model prog wd) A e nm (eval o e) (w Pk co)) :
  SJ H0 (model prog wd) A e nm (exec (.Assign [.Attribute o name p2] l pos) e) (wS Pk (.setA co i cl)):=fun f G s st Q m p hm h=>by
 have e0:exec (.Assign [.Attribute o name p2] l pos) e=(do
   standAt pos
   if ←swapsWith l (some (.Attribute o name p2)) pos.line e then do
    evalThenUse l e fun v=>assignAll v ((assignEach [.Attribute o name p2] e).map (·.2))
    pure .next
   else do
    let v ←eval l e
    assignStores e v (←swappedStores [.Attribute o name p2] l e) [assign (.Attribute o name p2) e]):=rfl
 refine dc e0 ?_;rw[kz hc];refine cC (cy (wpN_pure (cF rfl ?_)));refine cy (fD (hl f G s st _ p h) fun v s₁ G₁ a0 y a5 a4 n₁ ah b4 ac=>?_);have bh:swappedStores [.Attribute o name p2] l e=pure none:=rfl;rw[bh];refine cy (wpN_pure ?_)
 show wpN _ _ (assign (.Attribute o name p2) e v>>=fun _=>pure Flow.next) _ _
 rw[arm_assign_Attribute];refine cy (cy (cB (fD (ho f G₁ s₁ a0 _ ah ac) fun a ar d1 c0 x aw ag cc b5 b7 bb=>?_)));refine cC (cy (cB (xU hA b5 b7 (b4.le ag) (jH (jH bb :) :) fun e4 d2 d4 cf ce e3 d3 df=>?_)));refine(fun Γ p hΓ hc=>by rw[Sem.wp_release];exact wpN_pure (eU.step ((a5.trans aw).trans cf) (((a4.trans ag).trans ce).toN _) (.now d3 (by rw[e3];exact Gp hm (Gp n₁ cc)) (fl:=.next) rfl df)))
end
end
section
open Builtin Builtin.Bytes PySem.W.KBy
section
variable {prog:Program}{wd:World}{A:Around}{E:Value→Shared→Prop}{s:Shared}
theorem gr:Slot "bytearray" "__getitem__" "bytearray.__getitem__":=
 .of (owner:="bytearray") (n:="__getitem__") (by rw[GO,GH];kernel_rfl) (by decide +kernel) (by decide +kernel) (by decide +kernel)
  (by first|exact .inl (by decide +kernel)|exact .inr (by decide +kernel)) (by rw[isSubtype_type];kernel_rfl)
theorem gq:Slot "bytearray" "__setitem__" "bytearray.__setitem__":=
 .of (owner:="bytearray") (n:="__setitem__") (by rw[GO,GH];kernel_rfl) (by decide +kernel) (by decide +kernel) (by decide +kernel)
  (by first|exact .inl (by decide +kernel)|exact .inr (by decide +kernel)) (by rw[isSubtype_type];kernel_rfl)
theorem l4:entryFor table "bytearray.__getitem__" = some Builtin.«bytearray.__getitem__»:=entryFor_of_tree (by kernel_rfl)
theorem lZ:entryFor table "bytearray.__setitem__" = some Builtin.«bytearray.__setitem__»:=entryFor_of_tree (by kernel_rfl)
theorem nu(a b:Value):argsOk "bytearray.__getitem__" ⟨[a,b],[]⟩:=by unfold argsOk;kernel_rfl
theorem nq(a b c:Value):argsOk "bytearray.__setitem__" ⟨[a,b,c],[]⟩:=by unfold argsOk;kernel_rfl
theorem o7{a:Addr}{l u:Value}{lo hi:Option Int}{Q:Value×Value×Value→Shared→Prop}(hS:s.heap.IsSliceOf a l u .none)(hl:IsPart l lo)(hu:IsPart u hi)(h:Q (rawPart lo,rawPart hi, .none) s) :
  wpAny (model prog wd) A (Bytes.sliceParts (.ref a)) Q E s:=by
 refine e1c hS fun o ho hc hd=>?_;unfold Bytes.sliceParts;refine Gn (wpAny_field (x:=.none) ho hd rfl ?_)
 kby_none
 refine wpAny_ite (KBy.ite_no (show ¬((Value.none==rawInt 0)=true)from Bool.false_ne_true) ?_)
 refine Gn (wpAny_field (x:=l) ho hd rfl ?_);clear hS hc;cases hl<;>cases hu<;>(first
  |(kby_none;(refine Gn (wpAny_field (x:=.none) ho hd rfl ?_));kby_none)
  |(kby_none;(refine Gn (wpAny_field (x:=.int _ _) ho hd rfl ?_));kby_int)
  |(kby_int;(refine Gn (wpAny_field (x:=.none) ho hd rfl ?_));kby_none)
  |(kby_int;(refine Gn (wpAny_field (x:=.int _ _) ho hd rfl ?_));kby_int))<;>exact Gq h
theorem sB{b a:Addr}{bs:List UInt8}{l u:Value}{lo hi:Option Int}{Q:Value→Shared→Prop}(hb:s.heap.get? b=some (eJ bs.toArray))(hz:bs.length≤sizeLine)(hS:s.heap.IsSliceOf a l u .none)(hl:IsPart l lo)(hu:IsPart u hi)
  (h:Q (.ref s.heap.objs.size) {s with heap:=s.heap.push (eJ (((bs.drop (lo.elim 0 (clipAt bs.length))).take (hi.elim bs.length (clipAt bs.length)-lo.elim 0 (clipAt bs.length))).toArray))}) :
  wpAny (model prog wd) A (getItem (.ref b) (.ref a)) Q E s:=by
 have hT:s.TypeIs (.ref b) "bytearray":=⟨_,hb,rfl⟩;refine e1c (id hS) fun o ho hc hd=>?_;have a3:s.TypeIs (.ref a) "slice":=⟨o,ho,hc⟩;refine wpAny_getItem_slot hT (by decide) gr (GY gr hT l4 ?_ (nu _ _))
 unfold Builtin.«bytearray.__getitem__»;refine Gn (Gq ?_);refine Gn (m:=Bytes.subscript? (.ref a)) ?_;unfold Bytes.subscript?;refine Gn (wpAny_specialOf a3 slice_no_index (Gq ?_));refine Gn (wpAny_typeOf a3 ?_);refine bm_if_false rfl ?_;refine Gn (o7 hS hl hu ?_);refine Gn (m:=payload (.ref b)) ?_;unfold payload;refine Gn (m:=payload? (.ref b)) ?_;unfold payload?;refine Gn (wpAny_load hb ?_);refine Gq (Gq ?_);refine Gn (wpAny_of_eq (sliceIndices_raw lo hi none bs.toArray.size (fun e=>ns e)) ?_);rw[sliceBounds_plain];refine Gn ?_;unfold Builtin.Bytes.newBytearray;have e:Bytes.sliced bs.toArray ((lo.elim 0 (clipAt bs.toArray.size):Nat):Int) ((hi.elim bs.toArray.size (clipAt bs.toArray.size):Nat):Int) 1=((bs.drop (lo.elim 0 (clipAt bs.length))).take (hi.elim bs.length (clipAt bs.length)-lo.elim 0 (clipAt bs.length))).toArray:=by
  unfold Bytes.sliced;simp only[sliceRange_one,pick_run,Gx]
 rw[e];refine wpAny_newObj_type (Gq ⟨_,rfl,h⟩) ?_;refine(?_:(List.toArray _).size≤sizeLine);rw[Gx,GW,GX];lia
theorem xM(bs:List UInt8)(new:List UInt8)(l h:Nat)(hl:l≤h)(hh:h≤bs.length) :
  bs.toArray.extract 0 l++new.toArray++bs.toArray.extract h bs.toArray.size=(bs.take l++new++bs.drop h).toArray:=by
 apply Array.toList_inj.mp;simp;rw[List.take_of_length_le (by simp)]
theorem qN(n:Nat)(i:Int):clipAt n i≤n:=by
 have:=clipAt_cast n i
 lia
end
section
variable {prog:Program}{wd:World}{A:Around}{s:Shared}
theorem pO:typeLookup (.type "bytes") "__int__" = pure none:=by rw[GO,GH];kernel_rfl
theorem nF:typeLookup (.type "bytes") "__float__" = pure none:=by rw[GO,GH];kernel_rfl
theorem pR:isSubtype (.type "bytes") (.type "bytearray")=pure false:=by rw[isSubtype_type];kernel_rfl
theorem pQ:isSubtype (.type "bytes") (.type "complex")=pure false:=by rw[isSubtype_type];kernel_rfl
theorem rY{T name id:String}{B:Builtin}{a:Value}{rest:List Value}{Q:Value→Shared→Prop}(slot:Slot T name id)(hT:s.TypeIs a T)(entry:entryFor table id=some B)(hd:Builtin.Bytes.decodersThatHold.contains id=false)
  (args:argsOk id ⟨a::rest,[]⟩) (h:wpN (model prog wd) A.in1 (B ⟨a::rest,[]⟩) (fun fin s'=>∃v,fin=.done (.ret v)∧Q v s') s):wpN (model prog wd) A (_root_.PySem.call (.builtin id) (a::rest)) Q s:=by
 refine wpN_call (gM slot.plain entry hd (cA (slot.check _ _ _ _ _ _ _ _ hT args (cE h fun fin s' hf=>?_))));refine e1b hf fun v a3 hq=>?_;clear hf;clear h args hd entry hT slot rest B id name T;subst a3;exact hq
theorem sx{b a:Addr}{bs new:List UInt8}{v l u:Value}{lo hi:Option Int}{Q:Unit→Shared→Prop}(hg:A.guards=some [])(hb:s.heap.get? b=some (eJ bs.toArray))(hv:iF s.heap v new.toArray)(ey:v≠.ref b)
  (hz:bs.length≤sizeLine) (hzn:new.length≤sizeLine) (hS:s.heap.IsSliceOf a l u .none) (hl:IsPart l lo) (hu:IsPart u hi)
  (c4:lo.elim 0 (clipAt bs.length)≤hi.elim bs.length (clipAt bs.length)) (hn:new.length=hi.elim bs.length (clipAt bs.length)-lo.elim 0 (clipAt bs.length))
  (h:∀h' t,h'.get? b=some (eJ (bs.take (lo.elim 0 (clipAt bs.length))++new++bs.drop (hi.elim bs.length (clipAt bs.length))).toArray)→(∀x o,x≠b→s.heap.get? x=some o→h'.get? x=some o)→Q () {s with heap:=h',toks:=t}) :
  wpN (model prog wd) A (setItem (.ref b) (.ref a) v) Q s:=by
 have hT:s.TypeIs (.ref b) "bytearray":=⟨_,hb,rfl⟩;have a3:s.TypeIs (.ref a) "slice":=by refine e1c hS fun o ho hc hd=>?_;exact⟨o,ho,hc⟩
 have e9:hi.elim bs.length (clipAt bs.length)≤bs.length:=by cases hi with|none=>exact Gw _|some i=>exact qN _ _
 unfold setItem;refine cB ?_;refine cH (wpAny_sequenceKey hT (by decide) ?_)
 unfold callSpecial?;refine cy ?_;refine cH (wpAny_specialOf hT gq.lookup ?_);dsimp only;refine cB ?_;rw[gq.bind];refine cy (wpN_pure ?_);refine cy ?_;refine rY gq hT lZ (by decide +kernel) (nq _ _ _) ?_
 unfold Builtin.«bytearray.__setitem__»;refine cF rfl ?_;dsimp only;refine cy (m:=Bytes.subscript? (.ref a)) ?_;unfold Bytes.subscript?;refine cH (wpAny_specialOf a3 slice_no_index (wpN_pure ?_));dsimp only;refine cH (wpAny_typeOf a3 ?_);refine cF rfl ?_;refine cH (o7 hS hl hu ?_);have a4:∀{s₁:Shared} {src:Value} {bb:Array UInt8} {Q':Array UInt8→Shared→Prop},iF s₁.heap src bb→Q' bb s₁→wpN (model prog wd) A.in1 (payload src) Q' s₁:=fun{s₁ src bb Q'} hb hq=>by
  refine cA ?_;unfold payload;refine Gn (m:=payload? src) ?_;rcases hb with⟨t,rfl⟩|⟨a',rfl,ag⟩
  ·exact Gq (Gq hq)
  ·unfold payload?;exact Gn (wpAny_load ag (Gq (Gq hq)))
 have b7:(bs.take (lo.elim 0 (clipAt bs.length))++new++bs.drop (hi.elim bs.length (clipAt bs.length))).length=bs.length:=by
  simp only[Gr,GW,GX,hn];lia
 have ups:∀s₁:Shared,s₁.heap.get? b=some (eJ bs.toArray)→s₁.gens=s.gens→s₁.drawn=s.drawn→s₁.os=s.os→(∀x o,s.heap.get? x=some o→s₁.heap.get? x=some o)→
   wpAny (model prog wd) A.in1 (updateBytearray b fun b=>b.extract 0 ((lo.elim 0 (clipAt bs.length):Nat):Int).toNat++new.toArray++b.extract (max ((lo.elim 0 (clipAt bs.length):Nat):Int) ((hi.elim bs.length (clipAt bs.length):Nat):Int)).toNat b.size) (fun _ s'=>Q () s') noE s₁:=fun s₁ a0 e1 e2 e3 hk=>by
  have ee:(max ((lo.elim 0 (clipAt bs.length):Nat):Int) ((hi.elim bs.length (clipAt bs.length):Nat):Int)).toNat=hi.elim bs.length (clipAt bs.length):=by lia
  have e4:=xM bs new _ _ c4 e9;rw[ee,Int.toNat_natCast];refine cW a0 (by rw[e4,Gx,b7];exact hz) ?_
  obtain⟨hh,g,d,tk,os⟩:=s₁;dsimp only at e1 e2 e3;clear hn c4 hz ee b7 e9 a3 hT;subst e1 e2 e3;refine h _ _ ((fJ _ a0).trans (by rw[e4])) fun x o hx ho=>(Heap.get?_update_other _ _ (Ne.symm hx)).trans (hk x o ho)
 rcases hv with⟨t,rfl⟩|⟨a',rfl,ag⟩
 ·refine cF rfl ?_;have T:Looks (model prog wd) s.heap (typeOf (.bytes new.toArray t)) (.type "bytes"):=Looks.of_pure rfl;refine cH ((dZ T pR).here ?_);refine dE rfl ?_;refine cy ?_;refine cy (cH ((c6 T jU).here (wpN_pure ?_)));refine cy (cH ((c6 T pO).here (wpN_pure ?_)));refine cy (cH ((c6 T nF).here (wpN_pure ?_)));refine cA ((dZ T pQ).here ?_);refine cy (wpN_pure ?_);refine cF rfl ?_;refine cH (wpAny_rule ?_);refine cy (sf (b:=new.toArray) hg (.inl ⟨t,rfl⟩) (by rw[Gx];exact hzn) fun h' e1 e2=>?_)
  have hk:∀x o,s.heap.get? x=some o→h'.get? x=some o:=qg e2;have ac:h'.IsSliceOf a l u .none:=e1b hS fun o ho r=>⟨o,hk _ _ ho,r⟩;refine cy (cB (cA (o7 (s:={s with heap:=h'}) ac hl hu ?_)));refine cy (a4 (s₁:={s with heap:=h'}) (.inr ⟨_,rfl,e1⟩) ?_);refine cy (a4 (s₁:={s with heap:=h'}) (.inr ⟨b,rfl,hk _ _ hb⟩) ?_);refine cH (wpAny_of_eq (sliceIndices_raw lo hi none bs.toArray.size (fun e=>ns e)) ?_);rw[sliceBounds_plain];refine dE rfl ?_;refine cH (wpAny_rule ?_);refine cF (by simp only[Gx,bne_eq_false_iff_eq];lia) ?_
  refine cy (m:=write (.ref b) _) (cA (wpAny_mono (by simp only[Gx];exact ups {s with heap:=h'} (hk _ _ hb) rfl rfl rfl hk) (fun _ s' q=>?_) fun _ _ e=>e))
  exact wpN_pure ⟨.none,rfl,wpN_pure (wpN_pure q)⟩
 ·have hab:a'≠b:=fun q=>ey (by rw[q])
  refine cF (by refine(?_:(b==a')=false);exact beq_eq_false_iff_ne.mpr (Ne.symm hab)) ?_
  have T:Looks (model prog wd) s.heap (typeOf (.ref a')) (.type "bytearray"):=er ag rfl;refine cH ((dZ T lC).here ?_);refine cF rfl ?_;refine cy (a4 (.inr ⟨a',rfl,ag⟩) ?_);refine cy (a4 (.inr ⟨b,rfl,hb⟩) ?_);refine cH (wpAny_of_eq (sliceIndices_raw lo hi none bs.toArray.size (fun e=>ns e)) ?_);rw[sliceBounds_plain];refine dE rfl ?_;refine cH (wpAny_rule ?_);refine cF (by simp only[Gx,bne_eq_false_iff_eq];lia) ?_
  refine cy (m:=write (.ref b) _) (cA (wpAny_mono (by simp only[Gx];exact ups s hb rfl rfl rfl fun _ _ h=>h) (fun _ s' q=>?_) fun _ _ e=>e))
  exact wpN_pure ⟨.none,rfl,wpN_pure (wpN_pure q)⟩
end
end
section
section
variable {prog:Program}{wd:World}{A:Around}{H0:Heap}{e:Env}{nm:List (Option Str)}{Pk:Pg}{f:Gm}{G:Gh}{st:St}{s:Shared}{n:Nat}
variable {o l r:PySem.Expr}{co cl cr:C}{pos p2:Pos}
noncomputable def jI(x:PySem.Expr):Bool:=!(Nat.beq x.ctorIdx 26)
theorem tI{x i:Value}(h:jI r=true):subscripted r false x i=operate [x,i] (getItem x i):=by
 cases r<;>first|rfl|exact ft h
theorem Bn{T id:String}{x:Value}{Q:Bool→Shared→Prop}(hT:s.TypeIs x T)(slot:Slot T "__getitem__" id)(hx:x≠.builtin "sys.modules#opaque")(h:Q false s):wpN (model prog wd) A (getitemInPython x) Q s:=by
 rw[getitemInPython_of_ne hx];refine cH (wpAny_specialOf hT slot.lookup ?_);exact wpN_pure h
theorem mF{x:V}{a:Value}{K:List P→Prop}(p:Pre H0 f e nm G st s)(hx:dk G.g G.k x a)(h:dI st.σ x K) :
  ∃ad ps vs k,a=.ref ad∧K ps∧cV G.g ps vs∧(x=.p (.tup ps)∧s.heap.get? ad=some (Et vs k)∨nL x∧s.heap.get? ad=some (nA vs k)):=by
 have fin:dK st.σ x (fun b=>match b with|.lst l=>K l|_=>False)→∃ad ps vs k,a=.ref ad∧K ps∧cV G.g ps vs∧s.heap.get? ad=some (nA vs k):=fun h=>by
  refine e3e (p.box hx h) fun ad b key ck _ hb hr _=>?_;subst ck
  cases b with
  |lst l=>refine e2b hr fun vs k ho hv=>?_;exact⟨ad,l,vs,k,rfl,hb,hv,ho⟩
  |_=>exact hb.elim
 cases x with
 |p x=>
  cases x with
  |lst l=>refine e4d hx fun ad o vs k c1 ho c2 hv=>?_;clear hx;subst c1 c2;exact⟨ad,_,vs,k,rfl,h,hv, .inr ⟨trivial,p.inv.gg _ _ ho⟩⟩
  |tup l=>refine e4d hx fun ad o vs k c1 ho c2 hv=>?_;clear hx;subst c1 c2;exact⟨ad,_,vs,0,rfl,h,hv, .inl ⟨rfl,p.inv.gg _ _ ho⟩⟩
  |_=>exact h.elim
 |ref i=>refine e4d (fin h) fun ad ps vs k e1 h1 h2 h3=>?_;exact⟨ad,ps,vs,k,e1,h1,h2, .inr ⟨trivial,h3⟩⟩
 |inn i k n=>refine e4d (fin h) fun ad ps vs k e1 h1 h2 h3=>?_;exact⟨ad,ps,vs,k,e1,h1,h2, .inr ⟨trivial,h3⟩⟩
 |_=>exact h.elim
theorem cV.at{g:Gm}{xs:List P}{vs:List Value}{i:Nat}{x:P}(h:cV g xs vs)(hx:xs[i]?=some x):∃v,vs[i]?=some v∧PRel g x v:=by
 induction xs generalizing vs i with
 |nil=>exact ns hx
 |cons y ys ih=>
  refine e2c h fun v r e h1 h2=>?_;clear h;subst e
  cases i with
  |zero=>exact⟨v,rfl,sj hx▸h1⟩
  |succ i=>exact(ih h2 hx :)
theorem rQ{x:V}{i:Int}{t:Tok}{a:Value}{Q:V→St→Prop}(p:Pre H0 f e nm G st s)(hx:dk G.g G.k x a)(h:dI st.σ x fun l=>uA l i st Q) :
  wpN (model prog wd) A (getitemInPython a) (fun t s'=>t=false∧s'=s) s∧wpN (model prog wd) A (getItem a (.int i t)) (dg H0 f e nm G s st.σ.length Q) s:=by
 refine e4d (mF p hx h) fun ad ps vs k c1 q hv ho=>?_;clear h hx;subst c1;unfold uA at q;refine e0b q fun ct zr=>e1b zr fun z a0 q=>?_;refine e0b ct fun h0 hz=>?_;have bh:=hv.length;refine e1b (hv.at a0) fun v cc ac=>?_;have a5:(at_ i ps.length).toNat<ps.length:=(List.getElem?_eq_some_iff.mp a0).1;clear hz a0 zr ct hv;rcases ho with⟨_,ho⟩|⟨_,ho⟩
 ·refine⟨Bn ⟨_,ho,rfl⟩ F.slot_tuple_getitem (fun q=>nomatch q) ⟨rfl,rfl⟩,cA (PySem.P.getItem_tuple (k:=(at_ i ps.length).toNat) ho (by unfold at_ at h0 a5;split at h0<;>(first|exact(lin [_] [_] aL aa 1 [.j 1 ab aq,.i 1 an bI] rfl (Gu (Gz (by assumption))) h0)|exact lin [_] [] aL aa 1 [.i 1 an aa] rfl (Int.not_lt.mp (by assumption)))) (by unfold at_ at h0 a5;split at a5<;>(first|exact(lin [_] [] bi aA 1 [.i 1 bi an] rfl (by assumption))|exact lin [_] [_,_] bi aA 1 [.j 1 ab aq,.j 1 be ab,.e (-1) ak aa] rfl (Gu (Gz (by assumption))) a5 (Gl ((Int.not_lt.mp (by assumption)))))) ?_ (by simpa using cc) (.now p (vp ac) q))⟩
  unfold seqIndex?;simp only[Gx,bh];refine(?_:(if(decide (0≤at_ i ps.length)&&decide (at_ i ps.length<ps.length))=true then some (at_ i ps.length).toNat else none)=_)
  rw[if_pos (by simp;exact GK (h0) (lin [_] [_,_] bi af 1 [.j 1 be ab,.e (-1) ak aa] rfl a5 (Gl (h0))))]
 ·refine⟨Bn ⟨_,ho,rfl⟩ slot_list_getitem (fun q=>nomatch q) ⟨rfl,rfl⟩,?_⟩
  by_cases hi:i<0
  ·have e1:at_ i ps.length=i+ps.length:=if_pos hi;refine cA (wpAny_getItem_list_neg (dM ho) hi (by rw[Gx];exact lin [_,_] [_,_] (.g af) aa 1 [.i 1 an am,.f (-1) ab ae,.e 1 am bN] rfl h0 bh e1) (by exact lin [_,_] [_] aL aa 1 [.i 1 an am,.j 1 ab aq,.e 1 am bI] rfl (Gz (Gz (by assumption))) (Gu (Gz (by assumption))) e1) (x:=v) ?_ (.now p (vp ac) q))
   rw[Gx,bh,←e1];simpa using cc
  ·have e1:at_ i ps.length=i:=if_neg hi;refine cA (wpAny_getItem_list (dM ho) (by exact(Int.not_lt.mp hi)) (by exact lin [_,_] [_,_] bi aA 1 [.j 1 ab aq,.j 1 be ab,.e (-1) am aa,.e (-1) ak am] rfl (Gu (Gz (by assumption))) a5 e1 (Gl ((Gz (Gz (by assumption)))))) (x:=v) ?_ (.now p (vp ac) q))
   rw[←e1];simpa using cc
theorem wG{g:Gm}{d:Addr}{es:List (P×P)}(hb:lj g s.heap d (.dict es)):wpN (model prog wd) A (getitemInPython (.ref d)) (fun t s'=>t=false∧s'=s) s:=by
 refine e0b hb fun _ zr=>e1b zr fun o h1 h2=>?_;have hx:o.ExactDict:=by
  clear hb zr;rcases h2 with⟨kvs,h3,_⟩|⟨xs,a0,ep,h3,_⟩
  ·refine e2b (h3 prog wd) fun _ _ h4 _=>?_;exact h4
  ·exact h3
 exact Bn ⟨_,h1,hx.1⟩ slot_dict_getitem (fun q=>nomatch q) ⟨rfl,rfl⟩
theorem Bq{x y:V}{a b:Value}{Q:V→St→Prop}(hu:A.units+80<cLine)(p:Pre H0 f e nm G st s)(hx:dk G.g G.k x a)(hy:dk G.g G.k y b)(h:EB x y st Q) :
  wpN (model prog wd) A (getitemInPython a) (fun t s'=>t=false∧s'=s) s∧wpN (model prog wd) A (getItem a b) (dg H0 f e nm G s st.σ.length Q) s:=by
 have box:dK st.σ x (Ga y st Q)→(∀z,x≠.p z)→wpN (model prog wd) A (getitemInPython a) (fun t s'=>t=false∧s'=s) s∧wpN (model prog wd) A (getItem a b) (dg H0 f e nm G s st.σ.length Q) s:=fun h bb=>by
  refine e1b (nV h) fun bx hb hk=>?_;refine e3e (p.box hx (hk (· = bx) rfl)) fun d bx' key ck _ d5 hr _=>?_;subst ck;subst d5
  cases bx' with
  |lst l=>
   cases y with
   |p y=>
    cases y with
    |int i=>
     refine e1a hy fun t a3=>?_;clear hy;subst a3;refine rQ p hx ?_
     cases x with
     |p z=>exact absurd rfl (bb z)
     |ref j=>exact hk (fun b=>match b with|.lst l=>uA l i st Q|_=>False) hb
     |inn j k n=>exact hk (fun b=>match b with|.lst l=>uA l i st Q|_=>False) hb
     |_=>exact h.elim
    |_=>exact hb.elim
   |_=>exact hb.elim
  |dict es=>
   clear hk bb;cases y with
   |p y=>
    refine e0b hb fun hkd zr=>e1b zr fun z hz q=>?_;exact⟨wG hr,qG hu p.inv.gg hr hkd hy hz fun v t hv=>.tok p (vp hv) q⟩
   |_=>exact hb.elim
  |ba l=>exact hb.elim
 cases x with
 |p x=>
  cases x with
  |lst l=>
   cases y with
   |p y=>
    cases y with
    |int i=>refine e1a hy fun t a3=>?_;clear hy;clear hu;subst a3;exact rQ p hx h
    |_=>exact h.elim
   |_=>exact h.elim
  |tup l=>
   cases y with
   |p y=>
    cases y with
    |int i=>refine e1a hy fun t a3=>?_;clear hy;clear hu;subst a3;exact rQ p hx h
    |_=>exact h.elim
   |_=>exact h.elim
  |_=>exact h.elim
 |_=>exact box h fun z q=>nomatch q
theorem DH(hu:A.units+80<cLine)(hs:jI r=true)(hl:EJ H0 (model prog wd) A e nm (eval l e) (w Pk cl))(hr:EJ H0 (model prog wd) A e nm (eval r e) (w Pk cr)) :
  EJ H0 (model prog wd) A e nm (eval (.Subscript l r pos) e) (w Pk (.idx cl cr)):=fun f G s st Q p h=>by
 refine dc (arm_eval_Subscript ..) ?_;refine cy (fD (hl f G s st _ p h) fun a s₁ G₁ a0 x a5 a4 n₁ ah b4 ac=>?_);refine cy (cB (fD (hr f G₁ s₁ a0 _ ah ac) fun b ar d1 c0 y aw ag cc b5 b7 bb=>?_));refine e0b (Bq (prog:=prog) (wd:=wd) (A:=A) hu b5 (b4.le ag) b7 bb) fun g1 g2=>?_;refine cC (cy (cE g1 fun t d4 zp=>e0b zp fun h3 h4=>?_));clear hr hl hu zp g1 bb b7 b5 y ac b4 ah x;subst h3 h4;rw[tI hs];refine cy (dO (cE g2 fun v d5 P=>?_));exact cy (cA (wpAny_letTemporaryGo (wpN_pure (P.step (a5.trans aw) (a4.trans ag) (Gp n₁ cc)))))
end
end
section
section
variable {prog:Program}{wd:World}{A:Around}{H0:Heap}{e:Env}{nm:List (Option Str)}{Pk:Pg}{f:Gm}{G:Gh}{st:St}{s:Shared}{n:Nat}
variable {o l r:PySem.Expr}{lo hi sp:Option PySem.Expr}{co cl cr clo chi csp:C}{pos p2:Pos}
noncomputable def C1:P→Option (Option Int)
 |.none=>some none
 |.int i=>some (some i)
 |_=>none
theorem fU{x:P}{n d a:Nat}(h:wM x n d=some a):∃lo,C1 x=some lo∧a=lo.elim d (clipAt n):=by
 cases x with
 |none=>obtain rfl:=sj h;exact⟨none,rfl,rfl⟩
 |int i=>obtain rfl:=sj h;exact⟨_,rfl,rfl⟩
 |_=>exact ns h
theorem i9{g:Gm}{x:P}{v:Value}{lo:Option Int}(h:PRel g x v)(hp:C1 x=some lo):IsPart v lo:=by
 cases x with
 |none=>obtain rfl:=sj hp;subst h;exact .none
 |int i=>obtain rfl:=sj hp;refine e1a h fun t a3=>?_;clear h;clear g;subst a3;exact .int _ _
 |_=>exact ns hp
theorem tH{x i:Value}{Q:Value→Shared→Prop}(h:wpN (model prog wd) A (getItem x i) Q s):wpN (model prog wd) A (subscripted (.Slice lo hi sp p2) false x i) Q s:=by
 cases sp<;>exact dO h
theorem cV.drop{g:Gm}(n:Nat){xs:List P}{vs:List Value}(h:cV g xs vs):cV g (xs.drop n) (vs.drop n):=by
 induction n generalizing xs vs with
 |zero=>exact h
 |succ n ih=>cases xs with
  |nil=>subst h;exact rfl
  |cons x xs=>refine e2c h fun v r e _ h2=>?_;clear h;subst e;exact ih h2
theorem cV.take{g:Gm}:∀(n:Nat) {xs:List P} {vs:List Value},cV g xs vs→cV g (xs.take n) (vs.take n)
 |0,_,_,_=>rfl
 |n+1,[],_,h=>by subst h;exact rfl
 |n+1,x::xs,_,⟨v,r,e,h1,h⟩=>by subst e;exact⟨v,_,rfl,h1,cV.take n h⟩
theorem cV.rev{g:Gm}:∀{xs:List P} {vs:List Value},cV g xs vs→cV g xs.reverse vs.reverse
 |[],_,h=>by subst h;exact rfl
 |x::xs,_,⟨v,r,e,h1,h⟩=>by subst e;rw[List.reverse_cons,List.reverse_cons];exact h.rev.append ⟨v,[],rfl,h1,rfl⟩
def Got(prog:Program)(wd:World)(A:Around)(H0:Heap)(f:Gm)(e:Env)(nm:List (Option Str))(G:Gh)(s:Shared)(n:Nat)(Q:V→St→Prop)(a:Value)(sl:Addr):Prop:=
 wpN (model prog wd) A (getitemInPython a) (fun t s'=>t=false∧s'=s) s∧wpN (model prog wd) A (getItem a (.ref sl)) (dg H0 f e nm G s n Q) s
theorem uZ{lo hi:P}{vl vu:Value}{sl ad:Addr}{ps:List P}{us:List Value}{k:Nat}{Q:V→St→Prop}(p:Pre H0 f e nm G st s)(h1:PRel G.g lo vl)(h2:PRel G.g hi vu)(hS:s.heap.IsSliceOf sl vl vu .none)
  (ho:s.heap.get? ad=some (nA us k)) (hv:cV G.g ps us) (h:ng lo hi ps.length fun a b=>Q (.p (.lst (cut ps a b))) st):Got prog wd A H0 f e nm G s st.σ.length Q (.ref ad) sl:=by
 have bh:=hv.length;refine⟨Bn ⟨_,ho,rfl⟩ slot_list_getitem (fun q=>nomatch q) ⟨rfl,rfl⟩,?_⟩
 refine e2d (mn h) fun a b ha hb h3 h=>?_;refine e1b (fU ha) fun l1 p1 b6=>?_;clear ha;subst b6;refine e1b (fU hb) fun l2 p2 b6=>?_;clear hb;subst b6;refine cA (wpAny_getItem_list_slice (dM ho) hS (i9 h1 p1) (i9 h2 p2) .none (fun q=>ns q) ?_ (by rw[Gx,bh,GJ];exact h3))
 rw[slicePick_plain];simp only[Gx,bh];exact jM (own:=false) (ps:=cut ps (l1.elim 0 (clipAt ps.length)) (l2.elim ps.length (clipAt ps.length))) p ((hv.drop _).take _) h
theorem u0{lo hi:P}{vl vu:Value}{sl:Addr}{bs:List UInt8}{t:Tok}{Q:V→St→Prop}(p:Pre H0 f e nm G st s)(h1:PRel G.g lo vl)(h2:PRel G.g hi vu)(hS:s.heap.IsSliceOf sl vl vu .none)
  (h:ng lo hi bs.length fun a b=>Q (.p (.bytes (cut bs a b))) st):Got prog wd A H0 f e nm G s st.σ.length Q (.bytes bs.toArray t) sl:=by
 refine⟨Bn (PySem.W.typeIs_bytes _ _ _) PySem.W.FB.slot_bytes_getitem (fun q=>nomatch q) ⟨rfl,rfl⟩,?_⟩
 refine e2d (mn h) fun a b ha hb h3 h=>?_;refine e1b (fU ha) fun l1 p1 b6=>?_;clear ha;subst b6;refine e1b (fU hb) fun l2 p2 b6=>?_;clear hb;subst b6;refine cA (getItem_meets (PySem.W.typeIs_bytes _ _ _) (by decide) PySem.W.FB.slot_bytes_getitem PySem.W.FB.entry_bytes_getitem (PySem.W.FB.args_bytes_getitem_2 _ _) (PySem.W.KBc.meets_slice2 bs.toArray t sl (i9 h1 p1) (i9 h2 p2)) ⟨hS,?_,fun t' k=>?_⟩)
 ·exact Gp (PySem.W.KBc.size_picked_le _ _ _) (by rw[Gx,GJ];exact h3)
 ·rw[PySem.W.KBc.picked_eq];simp only[Gx];exact .tok (x:=.p (.bytes _)) p ⟨_,rfl⟩ h
theorem CH{lo hi:P}{vl vu:Value}{sl ad:Addr}{bs:List UInt8}{Q:V→St→Prop}(p:Pre H0 f e nm G st s)(h1:PRel G.g lo vl)(h2:PRel G.g hi vu)(hS:s.heap.IsSliceOf sl vl vu .none)
  (hr:lj G.g s.heap ad (.ba bs)) (h:ET lo hi (.ba bs) st Q):Got prog wd A H0 f e nm G s st.σ.length Q (.ref ad) sl:=by
 refine⟨Bn ⟨_,hr,rfl⟩ gr (fun q=>nomatch q) ⟨rfl,rfl⟩,?_⟩
 refine e2d (mn h) fun a b ha hb h3 h=>?_;refine e1b (fU ha) fun l1 p1 b6=>?_;clear ha;subst b6;refine e1b (fU hb) fun l2 p2 b6=>?_;clear hb;subst b6;refine cA (sB hr (by rw[GJ];exact h3) hS (i9 h1 p1) (i9 h2 p2) ?_)
 exact p.vJ (t:=s.toks) (fun _ _ h=>Gy _ h) (GG _ rfl) h
theorem Ax{lo hi:P}{x:V}{a vl vu:Value}{sl:Addr}{Q:V→St→Prop}(p:Pre H0 f e nm G st s)(hx:dk G.g G.k x a)(h1:PRel G.g lo vl)(h2:PRel G.g hi vu)(hS:s.heap.IsSliceOf sl vl vu .none)(h:F3 lo hi x st Q) :
  Got prog wd A H0 f e nm G s st.σ.length Q a sl:=by
 have box:dK st.σ x (fun b=>ET lo hi b st Q)→Got prog wd A H0 f e nm G s st.σ.length Q a sl:=fun h=>by
  refine e3e (p.box hx h) fun ad b key ck _ hb hr _=>?_;subst ck
  cases b with
  |ba bs=>exact CH p h1 h2 hS hr hb
  |lst ps=>refine e2b hr fun us k ho hv=>?_;exact uZ p h1 h2 hS ho hv hb
  |dict es=>exact hb.elim
 cases x with
 |p x=>
  cases x with
  |bytes bs=>refine e1a hx fun t a3=>?_;subst a3;exact u0 p h1 h2 hS h
  |lst ps=>
   refine e4d hx fun ad ob us k c1 ho c2 hv=>?_;clear hx;subst c1 c2;exact uZ p h1 h2 hS (p.inv.gg _ _ ho) hv h
  |_=>exact h.elim
 |_=>exact box h
theorem Aw{lo hi sp:P}{x:V}{a vl vu vs:Value}{sl:Addr}{Q:V→St→Prop}(p:Pre H0 f e nm G st s)(hx:dk G.g G.k x a)(h1:PRel G.g lo vl)(h2:PRel G.g hi vu)(h3:PRel G.g sp vs)(hS:s.heap.IsSliceOf sl vl vu vs)(h:FZ lo hi sp x st Q) :
  Got prog wd A H0 f e nm G s st.σ.length Q a sl:=by
 cases sp with
 |none=>subst h3;exact Ax p hx h1 h2 hS h
 |int i=>
  refine e1a h3 fun t a3=>?_;clear h3;subst a3;obtain⟨b7,h⟩:=h;subst b7
  cases lo with
  |none=>
   cases hi with
   |none=>
    subst h1;subst h2;obtain⟨ad,ps,us,k,rfl,⟨h4,h5,h6⟩,hv,ho⟩:=mF p hx h;clear hx;rcases ho with⟨rfl,ho⟩|⟨_,ho⟩
    ·exact h4.elim
    ·have bh:=hv.length;refine⟨Bn ⟨_,ho,rfl⟩ slot_list_getitem (fun q=>nomatch q) ⟨rfl,rfl⟩,?_⟩
     refine cA (wpAny_getItem_list_slice (dM ho) hS .none .none (.int _ _) (by simp) ?_ (by rw[Gx,bh,GJ];exact h5))
     rw[krv_pick];exact jM (own:=false) (ps:=ps.reverse) p hv.rev h6
   |_=>exact h.elim
  |_=>exact h.elim
 |_=>exact h.elim
theorem DD(hl:EJ H0 (model prog wd) A e nm (eval l e) (w Pk cl))(h1:EJ H0 (model prog wd) A e nm (valueOrNone (evalOpt lo e)) (w Pk clo))(h2:EJ H0 (model prog wd) A e nm (valueOrNone (evalOpt hi e)) (w Pk chi))(h3:EJ H0 (model prog wd) A e nm (valueOrNone (evalOpt sp e)) (w Pk csp)) :
  EJ H0 (model prog wd) A e nm (eval (.Subscript l (.Slice lo hi sp p2) pos) e) (w Pk (.slc cl clo chi csp)):=fun f G s st Q p h=>by
 refine dc (arm_eval_Subscript ..) ?_;refine cy (fD (hl f G s st _ p h) fun a s₁ G₁ a0 x a5 a4 n₁ ah b4 ac=>?_);refine cy (cB ?_);refine dc (arm_eval_Slice ..) ?_;refine cy (fD (h1 f G₁ s₁ a0 _ ah ac) fun vl ar d1 c0 y aw ag cc b5 b7 bb=>?_);refine cy (cB (fD (h2 f d1 ar c0 _ b5 bb) fun vu d4 e4 d2 z cf ce e3 d3 dh df=>?_));refine cy (cB (fD (h3 f e4 d4 d2 _ d3 df) fun vs d5 e6 dx u dv b3 e7 dd e5 dr=>?_));refine cA (wpAny_newObj_type ?_ (by size_fits))
 refine e1b (gx dr) fun et a3 dr=>?_;clear h2 h1 hl df d3 bb b5 ac ah;subst a3;refine e1b (gx dr) fun eh a3 dr=>?_;subst a3;refine e1b (gx dr) fun sp' a3 dr=>?_;subst a3;have dt:Pre H0 f e nm e6 dx {d5 with heap:=d5.heap.push {cls:=.type "slice",data:=.fields #[vl,vu,vs]}}:=dd.keeps fun a o h=>Gy _ h;refine e0b (Aw (prog:=prog) (wd:=wd) (A:=A) dt (b4.le ((ag.trans ce).trans b3)) (dk.le (x:=.p et) (ce.trans b3) b7) (dk.le (x:=.p eh) b3 dh) (show PRel e6.g sp' vs from e5) (Heap.IsSliceOf.new ..) dr) fun g1 g2=>?_
 refine cC (cy (cE g1 fun t s₆ zp=>e0b zp fun h3 h4=>?_));clear dt zp g1 h dr e5 dd;subst h3 h4;refine cy (tH (cE g2 fun v s₇ P=>?_));refine cy (cA (wpAny_letTemporaryGo (wpN_pure ?_)));exact dg.step (s₁:={d5 with heap:=d5.heap.push {cls:=.type "slice",data:=.fields #[vl,vu,vs]}}) ((((a5.trans aw).trans cf).trans dv).trans ⟨rfl,rfl,rfl⟩) (((a4.trans ag).trans ce).trans b3) (Gp (Gp (Gp n₁ cc) e3) e7) P
end
end
section
section
variable {prog:Program}{wd:World}{A:Around}{H0:Heap}{e:Env}{nm:List (Option Str)}{Pk:Pg}{f:Gm}{G:Gh}{st:St}{s:Shared}{n:Nat}
variable {o l r:PySem.Expr}{lo hi sp:Option PySem.Expr}{co ci cl cr clo chi csp:C}{pos p2 p3:Pos}
noncomputable def Fs:V→Nat×Nat
 |.ref i=>(i+1,0)
 |.inn i k _=>(i+1,k+1)
 |_=>(0,0)
theorem Pre.boxKey(p:Pre H0 f e nm G st s){v:V}{a:Addr}{K:Bx→Prop}(hv:dk G.g G.k v (.ref a))(hw:dK st.σ v K):G.ow a=some (Fs v):=by
 refine e1b (iP hw) fun b _ hc=>hc.elim (fun z=>e1b z fun i e hi=>?_) fun z=>e5c z fun i k n c fs e hi hk=>?_
 ·clear z hc hw;subst e;refine e1c (p.inv.obj i _ hi) fun a' h1 h2 h3=>?_;refine e1b hv fun a'' h4 e=>?_;rw[h1]at h4;obtain rfl:=sj h4;cases e;exact h2
 ·clear z hc hw;subst e;refine e3f (p.inv.obj i _ hi) fun a' dx sl h1 h2 h3 h4 h5 h6=>?_;refine e1b hv fun a'' h7 e=>?_;refine e1d (h5 k _ hk) fun x g1 g2 g3 g4=>?_;rw[h7]at g2;clear hv p g4 g1 h7 h6 h5 h4 h3 h2 h1 sl dx a';obtain rfl:=sj g2;clear g2;cases e;exact g3
theorem Dd{σ:List O}{v o:V}{K K':Bx→Prop}(h:dK σ v K)(h':dK σ o K')(hs:CT v o=false):Fs v≠Fs o:=fun q=>by
 cases v with
 |ref i=>cases o with
  |ref j=>injection q with q _;cases Nat.succ.inj q;cases (beq_self_eq_true i).symm.trans hs
  |inn j m n=>injection q with _ q;cases q
  |_=>exact h'.elim
 |inn i k n=>cases o with
  |ref j=>injection q with _ q;cases q
  |inn j m n=>injection q with q r;cases Nat.succ.inj q;clear q;cases Nat.succ.inj r;cases (show true=false from(by rw[←hs];refine(?_:true=(i==i&&k==k));rw[beq_self_eq_true,beq_self_eq_true];rfl))
  |_=>exact h'.elim
 |_=>exact h.elim
theorem pb{l:Addr}{vs:List Value}{m:Nat}{k:Int}{t:Tok}{v:Value}{E:Value→Shared→Prop}{Q:Unit→Shared→Prop}(ho:s.heap.get? l=some (nA vs m))(h0:0≤k)(a0:k<2 ^ 63)(hn:k<vs.length)
  (hQ:∀h' m',h'.get? l=some (nA (vs.set k.toNat v) m')→Heap.SameBut l s.heap h'→Q () {s with heap:=h'}) :
  wpAny (model prog wd) A (setItem (.ref l) (.int k t) v) Q E s:=by
 have hl:=dM ho;unfold setItem
 try with_reducible refine wpAny_holding ?_
 refine Gn (wpAny_sequenceKey hl.typeIs (by decide) ?_)
 refine Gn (wpAny_callSpecial?_slot (name:=Str.ofString "__setitem__") hl.typeIs slot_list_setitem
  (GY slot_list_setitem hl.typeIs entry_list_setitem ?_ (args_list_setitem _ _ _)))
 refine(?_:wpAny _ _ (Builtin.List.listSubscript? (.int k t)>>=_) _ _ s);refine Gn (wpAny_listSubscript_int (fitsIndex_of h0 a0) ?_);clear a0;refine e1a (Int.eq_ofNat_of_zero_le h0) fun j a3=>?_;subst a3;have hj:j<vs.length:=by exact cG [] [_,_] bc ae 1 [.i 1 bv ak] rfl hn
 have hx':vs.toArray[j]?=some (vs[j]'hj):=by simp[hj]
 refine(?_:wpAny _ _ ((seqItemAt l j>>=fun r=>pure (r.map (j,·)))>>=_) _ _ s);refine Gn (Gn (wpAny_seqItemAt ho rfl (Gq ?_)));rw[hx'];refine(?_:wpAny _ _ (setSeqItemAt l j v>>=_) _ _ s);refine Gn (wpAny_setSeqItemAt ho rfl ?_);have h1:=Heap.get?_update_self (Obj.mapSeq (·.setIfInBounds j v)) ho rfl;have fin:(s.heap.update l (Obj.mapSeq (·.setIfInBounds j v))).get? l=some (nA (vs.set j v) (if(vs.toArray.setIfInBounds j v).size==vs.toArray.size then m else m+1)):=by
  refine h1.trans ?_;simp only[Obj.mapSeq,nA];simp
 first
  |exact Gn (Gq (Gq ⟨.none,rfl,Gq (hQ _ _ fin (Heap.SameBut.update ..))⟩))
  |exact Gq ⟨.none,rfl,Gq (hQ _ _ fin (Heap.SameBut.update ..))⟩
theorem cV.set{g:Gm}{x:P}{v:Value}(hx:PRel g x v){xs:List P}{vs:List Value}(j:Nat)(h:cV g xs vs):cV g (xs.set j x) (vs.set j v):=by
 induction xs generalizing vs j with
 |nil=>subst h;exact rfl
 |cons y ys ih=>
  refine e2c h fun v' r e h1 h2=>?_;clear h;subst e
  cases j with
  |zero=>exact⟨v,r,rfl,hx,h2⟩
  |succ j=>exact⟨v',_,rfl,h1,ih j h2⟩
theorem m4{i:PySem.Expr}(hc:fS l=false):exec (.Assign [.Subscript o i p2] l pos) e=(do
   standAt pos
   let v ←eval l e
   (do
    let ov ←holding [v] (eval o e)
    let iv ←holding [v,ov] (eval i e)
    standAt p2
    holding [v,ov,iv] (setItem ov iv v)
    release (match i with|.Slice _ _ none _=>[iv,v,ov]|_=>[v,ov,iv]) [])
   pure Flow.next):=by
 have e0:exec (.Assign [.Subscript o i p2] l pos) e=(do
   standAt pos
   if ←swapsWith l (some (.Subscript o i p2)) pos.line e then do
    evalThenUse l e fun v=>assignAll v ((assignEach [.Subscript o i p2] e).map (·.2))
    pure .next
   else do
    let v ←eval l e
    assignStores e v (←swappedStores [.Subscript o i p2] l e) [assign (.Subscript o i p2) e]):=rfl
 rw[e0];rw[kz hc];rfl
theorem rh{M:Model}{vs kp:List Value}{Q:Unit→Shared→Prop}(h:Q () s):wpN M A (release vs kp) Q s:=fun Γ p hΓ hc=>by rw[Sem.wp_release];exact h
theorem AA{i:PySem.Expr}(hu:A.units+80<cLine)(hc:fS l=false)(hl:EJ H0 (model prog wd) A e nm (eval l e) (w Pk cl))(ho:EJ H0 (model prog wd) A e nm (eval o e) (w Pk co))(hi:EJ H0 (model prog wd) A e nm (eval i e) (w Pk ci)) :
  SJ H0 (model prog wd) A e nm (exec (.Assign [.Subscript o i p2] l pos) e) (wS Pk (.setI co ci cl)):=fun f G s st Q m p hm h=>by
 refine dc (m4 hc) ?_;refine cC (cy (fD (hl f G s st _ p h) fun v s₁ G₁ a0 y a5 a4 n₁ ah b4 ac=>?_));refine cy (cy (cB (fD (ho f G₁ s₁ a0 _ ah ac) fun a ar d1 c0 x aw ag cc b5 b7 bb=>?_)));refine cy (cB (fD (hi f d1 ar c0 _ b5 bb) fun b d4 e4 d2 z cf ce e3 d3 dh df=>?_));refine cC (cy (cB ?_));refine e1b (gx (jH (jH (jH df :) :) :)) fun j a3 b6=>?_;clear df hi ho hl hc bb b5 ac ah h;subst a3;refine e1d (d3.frz (b4.le (ag.trans ce))) fun e6 b3 e7 dd e5=>?_;generalize po y d2.σ=z at b6 e7 dd e5;obtain⟨y₁,c4⟩:=z;refine e1b (gx b6) fun c1 a3 b6=>?_;clear d3 b4;subst a3;have c2:PRel e6.g j b:=dk.le (x:=.p j) b3 dh;refine e3e (dd.box (b7.le (ce.trans b3)) b6) fun ad bx key ck how hb hr e0=>?_;clear y dh b7;subst ck;have hy:PRel e6.g c1 v:=e5;have le:=((a4.trans ag).trans ce).trans b3;have sm:=(a5.trans aw).trans cf;clear ag;cases bx with
 |lst ps=>
  cases j with
  |int j=>
   refine e1a c2 fun t a3=>?_;clear c2;clear e5 b3 ce cf;subst a3;refine e2b hr fun us k c3 hv=>?_;refine e0b hb fun ct b6=>?_;refine e0c ct fun h1 h2 h3=>?_;have bh:=hv.length;refine cA (pb c3 h1 (by exact lin [_] [_] bi aA 1 [.i 1 bi af,.j 1 ab aq] rfl (Gz (Gu ct)) (Gu (Gu ct))) (by exact lin [_] [_,_] bi af 1 [.i 1 bi ak,.f (-1) ab ae] rfl (Gz (Gu ct)) bh) fun h' m' e1 e2=>?_)
   refine rh (wpN_pure ?_);exact eU.step (s₁:={d4 with heap:=h'}) (sm.trans ⟨rfl,rfl,rfl⟩) (le.toN _) (.now (e0 h' (.lst (ps.set j.toNat c1)) e2.extBut ⟨_,m',e1,hv.set hy j.toNat⟩) (by refine(?_:_≤(kg _ _ _).length);rw[i6];exact Gp hm (Gp n₁ (Gp cc (Gp e3 e7)))) (fl:=.next) rfl b6)
  |_=>exact hb.elim
 |dict es=>
  refine e0b hb fun ct b6=>?_;refine e0b ct fun h1 h2=>?_;refine qF hu dd.inv.gg (dd.inv.own _ _ how).1 hr h1 c2 hy h2 fun h' t hs d5=>?_;refine rh (wpN_pure ?_);exact eU.step (s₁:={d4 with heap:=h',toks:=t}) (sm.trans ⟨rfl,rfl,rfl⟩) (le.toN _) (.now ((e0 h' (.dict (pH es j c1)) hs.extBut d5).toks rfl) (by refine(?_:_≤(kg _ _ _).length);rw[i6];exact Gp hm (Gp n₁ (Gp cc (Gp e3 e7)))) (fl:=.next) rfl b6)
 |_=>exact hb.elim
theorem Az(hc:fS l=false)(hg:A.guards=some [])(hl:EJ H0 (model prog wd) A e nm (eval l e) (w Pk cl))(ho:EJ H0 (model prog wd) A e nm (eval o e) (w Pk co))(h1:EJ H0 (model prog wd) A e nm (valueOrNone (evalOpt lo e)) (w Pk clo))(h2:EJ H0 (model prog wd) A e nm (valueOrNone (evalOpt hi e)) (w Pk chi)) :
  SJ H0 (model prog wd) A e nm (exec (.Assign [.Subscript o (.Slice lo hi none p3) p2] l pos) e) (wS Pk (.setS co clo chi cl)):=fun f G s st Q m p hm h=>by
 refine dc (m4 hc) ?_;refine cC (cy (fD (hl f G s st _ p h) fun v s₁ G₁ a0 y a5 a4 n₁ ah b4 ac=>?_));refine cy (cy (cB (fD (ho f G₁ s₁ a0 _ ah ac) fun a ar d1 c0 x aw ag cc b5 b7 bb=>?_)));refine cy (cB ?_);refine dc (arm_eval_Slice ..) ?_;refine cy (fD (h1 f d1 ar c0 _ b5 bb) fun vl d4 e4 d2 z cf ce e3 d3 dh df=>?_);refine cy (cB (fD (h2 f e4 d4 d2 _ d3 df) fun vu d5 e6 dx u dv b3 e7 dd e5 dr=>?_));refine cy (cB (wpN_pure ?_));refine cA (wpAny_newObj_type ?_ (by size_fits))
 refine cC (cy (cB ?_));refine e1b (gx (jH (jH (jH (jH dr :) :) :) :)) fun et a3 eo=>?_;clear dr h2 h1 hl hc df d3 bb b5 ac ah;subst a3;refine e1b (gx eo) fun eh a3 bh=>?_;clear eo;subst a3;have dt:Pre H0 f e nm e6 dx {d5 with heap:=d5.heap.push {cls:=.type "slice",data:=.fields #[vl,vu, .none]}}:=dd.keeps fun a o h=>Gy _ h;have ek:=b4.le ((ag.trans ce).trans b3);have em:=b7.le (ce.trans b3);refine e1b (mw dt ek bh) fun new ea hq=>?_;refine e3e (dt.box em hq) fun ad bx key ck f3 hb hr e0=>?_;clear f3 key h dd b7;subst ck;have e8:=dt.boxKey em hq
 cases bx with
 |ba bs=>
  refine e2e (mn hb) fun i1 i2 ep eb c4 ct q=>?_;refine e0c ct fun c1 c2 c3=>?_;refine e1b (fU ep) fun l1 pp1 b6=>?_;clear em ct ep;subst b6;refine e1b (fU eb) fun l2 pp2 b6=>?_;clear eb;subst b6;have e9:l2.elim bs.length (clipAt bs.length)≤bs.length:=by cases l2 with|none=>exact Gw _|some i=>exact qN _ _
  have ey:v≠.ref ad:=fun q'=>by
   clear e9;subst q';have go:∀K:Bx→Prop,dK dx.σ y K→False:=fun K bh=>by
    have:=dt.boxKey ek bh;rw[e8]at this;exact Dd bh hq c1 (Option.some.inj this).symm
   clear e8 dt c1;cases y with
   |p y=>
    cases y with
    |bytes _=>refine e1a ek fun t e=>?_;clear ek;cases e
    |_=>exact bh.elim
   |ref _=>exact go _ bh
   |inn _ _ _=>exact go _ bh
   |_=>exact bh.elim
  have i1:IsPart vl l1:=i9 (dk.le (x:=.p et) b3 dh:PRel e6.g et vl) pp1;have i2:IsPart vu l2:=i9 (show PRel e6.g eh vu from e5) pp2
  refine sx hg hr ea ey (by rw[GJ];exact c4) (by rw[GJ];exact cG [] [_,_,_,_,_] ab aq 1 [.j 1 ae aq,.f 1 ab aj,.j 1 au ae,.f 1 (.a aj aB) au] rfl c4 c3 e9 (Go (c2))) (Heap.IsSliceOf.new ..) i1 i2 c2 c3 fun h' t e1 e2=>?_
  have ee:=(e0 h' (.ba (bs.take (l1.elim 0 (clipAt bs.length))++new++bs.drop (l2.elim bs.length (clipAt bs.length)))) (fun x o hx ho=>e2 x o hx ho) e1).toks (s':={d5 with heap:=h',toks:=t}) rfl;refine rh (wpN_pure ?_);exact eU.step (s₁:={d5 with heap:=h',toks:=t}) ((((a5.trans aw).trans cf).trans dv).trans ⟨rfl,rfl,rfl⟩) ((((a4.trans ag).trans ce).trans b3).toN _) (.now ee (by refine(?_:_≤(kg _ _ _).length);rw[i6];exact Gp hm (Gp n₁ (Gp cc (Gp e3 e7)))) (fl:=.next) rfl q)
 |_=>exact hb.elim
end
end
section
inductive zi(e:Env)(nm:List (Option Str)):List PySem.Expr→List Nat→Prop
 |nil:zi e nm [] []
 |cons {n:Str} {i:Nat} {pos:Pos} {r:List PySem.Expr} {is:List Nat}:Cg e nm n i→zi e nm r is→zi e nm (.Name n pos::r) (i::is)
inductive Tgt(e:Env)(nm:List (Option Str)):PySem.Expr→T→Prop
 |name {n:Str} {i:Nat} {pos:Pos}:Cg e nm n i→Tgt e nm (.Name n pos) (.var i)
 |tup {es:List PySem.Expr} {is:List Nat} {k:Nat} {pos:Pos}:zi e nm es is→Tgt e nm (.Tuple es k pos) (.tup is)
section
variable {prog:Program}{wd:World}{A:Around}{H0:Heap}{e:Env}{nm:List (Option Str)}{Pk:Pg}{f:Gm}{G:Gh}{st:St}{s:Shared}{n:Nat}
theorem zi.len{es:List PySem.Expr}{is:List Nat}(h:zi e nm es is):(assignEach es e).length=is.length∧(assignEach es e).findIdx? (·.1)=none:=by
 induction h with
 |nil=>exact⟨rfl,rfl⟩
 |cons h t ih=>
  refine⟨by refine(?_:_+1=_+1);rw[ih.1],?_⟩
  refine(?_:(_::assignEach _ e).findIdx? _=none);rw[List.findIdx?_cons,ih.2];rfl
theorem yl{es:List PySem.Expr}{is:List Nat}(T:zi e nm es is):∀{st:St} {s:Shared} {xs:List V} {vs:List Value} {env:List (Option V)},Pre H0 f e nm G st s→cZ G.g G.k xs vs→ke is xs st.env=some env→
  wpN (model prog wd) A (assignInOrder ((assignEach es e).map (·.2)) vs) (fun _ s'=>gi s s'∧Pre H0 f e nm G {st with env:=env} s') s:=by
 induction T with
 |nil=>
  intro st s xs vs env p hv h
  cases xs with
  |nil=>obtain rfl:=sj h;subst hv;exact wpN_pure ⟨.refl _,p⟩
  |cons x xs=>exact ns h
 |@cons n i pos r is hs t ih=>
  intro st s xs vs env p hv h
  cases xs with
  |nil=>exact ns h
  |cons x xs=>
   refine e2c hv fun v r' b6 h1 h2=>?_;clear hv;subst b6;refine(?_:wpN _ _ (holding r' (assign (.Name n pos) e v)>>=fun _=>assignInOrder _ r') _ _);refine cy (cB ?_);rw[arm_assign_Name];refine cC (cA (wpAny_bindName (p.store hs.1 hs.2 h1 fun s₁ a5 ah=>?_)));exact cE (ih ah h2 h) fun _ ar zp=>e0b zp fun aw b5=>⟨a5.trans aw,b5⟩
theorem mE:∀{is:List Nat} {l:List P} {env:List (Option V)},ru is l env=ke is (l.map .p) env
 |[],[],_=>rfl
 |[],_::_,_=>rfl
 |_::_,[],_=>rfl
 |_::is,_::l,env=>mE (is:=is) (l:=l)
theorem cV.toV{g:Gm}{k:lg}:∀{l:List P} {vs:List Value},cV g l vs→cZ g k (l.map .p) vs
 |[],_,h=>h
 |_::_,_,⟨v,r,e,h1,h2⟩=>⟨v,r,e,h1,h2.toV⟩
theorem rx{is:List Nat}{xs:List V}{env a0:List (Option V)}(h:ke is xs env=some a0):xs.length=is.length:=by
 induction is generalizing xs env with
 |nil=>cases xs with
  |nil=>rfl
  |cons _ _=>exact ns h
 |cons j is ih=>cases xs with
  |nil=>exact ns h
  |cons x xs=>exact congrArg (·+1) (ih (env:=env.set j (some x)) h)
theorem su{te:PySem.Expr}{t:T}{v:V}{a:Value}{Q:St→Prop}(hA:A.handled=none)(T:Tgt e nm te t)(p:Pre H0 f e nm G st s)(hv:dk G.g G.k v a)(h:y4 t v st Q) :
  wpN (model prog wd) A (assign te e a) (fun _ s'=>∃b3,gi s s'∧b3.σ=st.σ∧Pre H0 f e nm G b3 s'∧Q b3) s:=by
 cases T with
 |@name n i pos hs=>
  rw[arm_assign_Name];exact cC (cA (wpAny_bindName (p.store hs.1 hs.2 hv fun s₁ a5 ah=>⟨{st with env:=st.env.set i (some v)},a5,rfl,ah,h⟩)))
 |@tup es is k pos T=>
  have go:∀{ad:Addr} {xs:List V} {vs:List Value} {m:Nat} {env:List (Option V)},a=.ref ad→s.heap.get? ad=some (Et vs m)→cZ G.g G.k xs vs→ke is xs st.env=some env→Q {st with env:=env}→
    wpN (model prog wd) A (assign (.Tuple es k pos) e a) (fun _ s'=>∃b3,gi s s'∧b3.σ=st.σ∧Pre H0 f e nm G b3 s'∧Q b3) s:=fun{ad xs vs m env} ea ho bh a0 q=>by
   subst ea;have c0:=bh.length;have b7:=rx a0;rw[arm_assign_Tuple];refine cC ?_;unfold unpack;rw[T.len.2];have ht:s.heap.IsTuple ad vs.toArray:=⟨_,ho,rfl,m,rfl⟩;rw[show(assignEach es e).length=vs.toArray.size by rw[T.len.1,Gx,c0,b7]]
   refine cy (cB (cA (wpAny_unpackItems_tuple hA ht fun h' hk=>?_)));have p':Pre H0 f e nm G st {s with heap:=h'}:=p.keeps fun x o hx=>hk x o (Nat.ne_of_lt (GT hx)) hx;exact cE (yl T p' bh a0) fun _ ar zp=>e0b zp fun aw b5=>⟨{st with env:=env},(show gi s {s with heap:=h'}from⟨rfl,rfl,rfl⟩).trans aw,rfl,b5,q⟩
  refine(Co h).elim (fun z=>e1b z fun l e h=>e1b (dH h) fun env a0 hq=>?_) fun z=>e1b z fun l e h=>e1b (dH h) fun env a0 hq=>?_
  ·clear z h;subst e;refine e4d hv fun ad o vs m c1 ho c2 bh=>?_;clear hv;subst c1 c2;exact go rfl (p.inv.gg _ _ ho) bh.toV (by rw[←mE];exact a0) hq
  ·clear z h;subst e;refine e4d hv fun ad o vs m c1 ho c2 bh=>?_;clear hv;subst c1 c2;exact go rfl (p.inv.gg _ _ ho) bh a0 hq
theorem AG{l:PySem.Expr}{cl:C}{es:List PySem.Expr}{is:List Nat}{k:Nat}{pos p2:Pos}(hA:A.handled=none)(hc:fS l=false)(ht:tU l=false)(T:zi e nm es is)(hl:EJ H0 (model prog wd) A e nm (eval l e) (w Pk cl)) :
  SJ H0 (model prog wd) A e nm (exec (.Assign [.Tuple es k p2] l pos) e) (wS Pk (.asg (.tup is) cl)):=fun f G s st Q m p hm h=>by
 have e0:exec (.Assign [.Tuple es k p2] l pos) e=(do
   standAt pos
   if ←swapsWith l (some (.Tuple es k p2)) pos.line e then do
    evalThenUse l e fun v=>assignAll v ((assignEach [.Tuple es k p2] e).map (·.2))
    pure .next
   else do
    let v ←eval l e
    assignStores e v (←swappedStores [.Tuple es k p2] l e) [assign (.Tuple es k p2) e]):=rfl
 have bh:swappedStores [.Tuple es k p2] l e=pure none:=by cases l<;>first|rfl|exact tf ht
 refine dc e0 ?_;rw[kz hc,bh];refine cC (cy (wpN_pure (cF rfl ?_)));refine cy (fD (hl f G s st _ p h) fun v s₁ G₁ a0 y a5 a4 n₁ ah b4 ac=>?_);refine cy (wpN_pure ?_);refine(?_:wpN _ _ (assign (.Tuple es k p2) e v>>=fun _=>pure Flow.next) _ _);refine cy (cE (su hA (.tup T) ah b4 ac) fun _ ar zp=>e1d zp fun c0 aw ag b5 bb=>wpN_pure ?_);exact eU.step (a5.trans aw) (a4.toN _) (.now b5 (by rw[ag];exact Gp hm n₁) (fl:=.next) rfl bb)
end
end
section
structure ItK(prog:Program)(wd:World)(A:Around)(src:Gh→Heap→Prop)(IS:List P→Obj→Prop)(it:Addr):Prop where
 next:∀(G:Gh) (s:Shared) (x:P) (xs:List P) (o:Obj),src G s.heap→s.heap.get? it=some o→IS (x::xs) o→∀(Q:Option Value→Shared→Prop),
  (∀h' v o' t,PRel G.g x v→h'.get? it=some o'→IS xs o'→Heap.SameBut it s.heap h'→Q (some v) {s with heap:=h',toks:=t})→wpN (model prog wd) A (pyNext (.ref it)) Q s
 stop:∀(G:Gh) (s:Shared) (o:Obj),src G s.heap→s.heap.get? it=some o→IS [] o→∀(Q:Option Value→Shared→Prop),
  (∀h',Heap.ExtBut it s.heap h'→Q none {s with heap:=h'})→wpN (model prog wd) A (pyNext (.ref it)) Q s
 again:∀(s:Shared) (xs:List P) (o:Obj),s.heap.get? it=some o→IS xs o→∀(Q:Value→Shared→Prop),Q (.ref it) s→wpN (model prog wd) A (pyIter (.ref it)) Q s
 noOwn:∀xs o,IS xs o→∃T fs,o.cls=.type T∧o.data=.fields fs∧["enumerate","zip","dict_itemiterator","dict_reverseitemiterator","odict_iterator","itertools.zip_longest","itertools.pairwise"].contains T=false
section
variable {prog:Program}{wd:World}{A:Around}{H0:Heap}{e:Env}{nm:List (Option Str)}{Pk:Pg}{f:Gm}{G:Gh}{st:St}{s:Shared}{n:Nat}
def mA(ad:Addr)(l:List P)(G:Gh)(h:Heap):Prop:=∃vs k,h.get? ad=some (nA vs k)∧cV G.g l vs
def zv(ad:Addr)(l:List P)(G:Gh)(h:Heap):Prop:=∃vs k,h.get? ad=some (Et vs k)∧cV G.g l vs
def s7(ad:Addr)(l:List P)(xs:List P)(o:Obj):Prop:=∃i:Nat,o.cls=.type "list_iterator"∧o.data=.fields #[.ref ad, .int i 0]∧xs=l.drop i
def wi(ad:Addr)(l:List P)(xs:List P)(o:Obj):Prop:=∃i:Nat,o.cls=.type "tuple_iterator"∧o.data=.fields #[.ref ad, .int i 0]∧xs=l.drop i
def rM(ad:Addr)(l:List P)(xs:List P)(o:Obj):Prop:=∃i:Nat,i≤l.length∧o.cls=.type "list_reverseiterator"∧o.data=.fields #[.ref ad,rawInt ((i:Int)-1)]∧xs=(l.take i).reverse
def wj(c:Int)(xs:List P)(o:Obj):Prop:=∃(a:Int) (m:Nat),o={cls:=.type "range_iterator",dict:=none,data:=.fields #[rawInt a,rawInt m,rawInt c],slots:=#[]}∧xs=(List.range m).map fun(k:Nat)=>.int (a+(k:Int)*c)
theorem wF{l xs:List P}{x:P}{i:Nat}(h:x::xs=l.drop i):l[i]?=some x∧xs=l.drop (i+1):=by
 have h1:(l.drop i)[0]?=some x:=by rw[←h];rfl
 rw[List.getElem?_drop]at h1;refine⟨by simpa using h1,?_⟩
 rw[←List.drop_drop,←h];rfl
theorem Dg{ad it:Addr}{l:List P}(hA:A.handled=none):ItK prog wd A (mA ad l) (s7 ad l) it where
 next:=fun G s x xs o zp ho zq Q hQ=>e2b zp fun vs k hs hv=>e1c zq fun i h1 h2 h3=>by
  refine e0b (wF h3) fun h4 h5=>?_;refine e1b (hv.at h4) fun v h6 h7=>?_;exact cA (wpAny_pyNext_list_item ⟨o,ho,h1,h2⟩ (dM hs) (x:=v) (by simpa using h6) fun h' zp cf=>e1c zp fun o' g1 g2 g3=>hQ h' v o' s.toks h7 g1 ⟨i+1,g2,g3,h5⟩ cf)
 stop:=fun G s o zp ho zq Q hQ=>e2b zp fun vs k hs hv=>e1c zq fun i h1 h2 h3=>by
  have bh:=hv.length;have:l.length≤i:=by
   rcases G5 i l.length with q|q
   ·have:=congrArg List.length h3;simp at this;exact False.elim (v8 [] [_,_,_] [.j 1 bc ae,.f (-1) ax aj,.f (-1) (.a aj ab) ae] rfl q this (Go (cG [] [_,_] ab ae 1 [.j 1 bc ae] rfl q)))
   ·exact q
  exact cA (wpAny_pyNext_list_end hA ⟨o,ho,h1,h2⟩ (dM hs) (by simp[bh,this]) hQ)
 again:=fun s xs o ho zp Q q=>e1c zp fun i h1 h2 h3=>cA (wpAny_pyIter_listiter ⟨o,ho,h1,h2⟩ q)
 noOwn:=fun xs o zp=>e1c zp fun i h1 h2 h3=>⟨_,_,h1,h2,by decide +kernel⟩
theorem Fw{ad it:Addr}{l:List P}(hA:A.handled=none):ItK prog wd A (zv ad l) (wi ad l) it where
 next:=fun G s x xs o zp ho zq Q hQ=>e2b zp fun vs k hs hv=>e1c zq fun i h1 h2 h3=>by
  refine e0b (wF h3) fun h4 h5=>?_;refine e1b (hv.at h4) fun v h6 h7=>?_;exact cA (wpAny_pyNext_tuple_item ⟨o,ho,h1,h2⟩ ⟨_,hs,rfl,k,rfl⟩ (x:=v) (by simpa using h6) fun h' zp cf=>e1c zp fun o' g1 g2 g3=>hQ h' v o' s.toks h7 g1 ⟨i+1,g2,g3,h5⟩ cf)
 stop:=fun G s o zp ho zq Q hQ=>e2b zp fun vs k hs hv=>e1c zq fun i h1 h2 h3=>by
  have bh:=hv.length;have:l.length≤i:=by
   rcases G5 i l.length with q|q
   ·have:=congrArg List.length h3;simp at this;exact False.elim (v8 [] [_,_,_] [.j 1 bc ae,.f (-1) ax aj,.f (-1) (.a aj ab) ae] rfl q this (Go (cG [] [_,_] ab ae 1 [.j 1 bc ae] rfl q)))
   ·exact q
  exact cA (wpAny_pyNext_tuple_end hA ⟨o,ho,h1,h2⟩ ⟨_,hs,rfl,k,rfl⟩ (by simp[bh,this]) hQ)
 again:=fun s xs o ho zp Q q=>e1c zp fun i h1 h2 h3=>cA (by
  refine wpAny_pyIter_slot (T:="tuple_iterator") ⟨o,ho,h1⟩ F.slot_tuple_iterator_iter (GY F.slot_tuple_iterator_iter ⟨o,ho,h1⟩ F.entry_tuple_iterator_iter ?_ (F.args_tuple_iterator_iter_1 _));refine(?_:wpAny _ _ (ret (.ref it)) _ _ s);exact Gq ⟨_,rfl,"tuple_iterator",_,⟨o,ho,h1⟩,F.slot_tuple_iterator_next.lookup,q⟩)
 noOwn:=fun xs o zp=>e1c zp fun i h1 h2 h3=>⟨_,_,h1,h2,by decide +kernel⟩
theorem Df{ad it:Addr}{l:List P}(hA:A.handled=none):ItK prog wd A (mA ad l) (rM ad l) it where
 next:=fun G s x xs o zp ho zq Q hQ=>e2b zp fun vs k hs hv=>e1d zq fun i h0 h1 h2 h3=>by
  cases i with
  |zero=>simp at h3
  |succ i=>
   have hi:i<l.length:=h0;have e1:l.take (i+1)=l.take i++[l[i]]:=by rw[List.take_add_one];simp[hi]
   rw[e1,List.reverse_append]at h3;simp at h3;refine e0b h3 fun b6 a3=>?_;clear h3;subst b6 a3;refine e1b (hv.at (GD hi)) fun v h6 h7=>?_;have e2:(((i+1:Nat):Int)-1)=(i:Int):=by lia
   rw[e2]at h2;have hit:s.heap.IsRevIter it ad (i:Int):=⟨o,ho,h1,h2⟩;exact cA (wpAny_pyNext_rev_item hit (dM hs) (x:=v) (by simpa using h6) fun h' zp cf=>e1c zp fun o' g1 g2 g3=>hQ h' v o' s.toks h7 g1 ⟨i,Nat.le_of_lt hi,g2,g3,by simp⟩ cf)
 stop:=fun G s o zp ho zq Q hQ=>e2b zp fun vs k hs hv=>e1d zq fun i h0 h1 h2 h3=>by
  have:i=0:=by
   have h4:=congrArg List.length h3;rw[List.length_reverse,GW,List.length_nil]at h4
   lia
  subst this;exact cA (wpAny_pyNext_rev_end hA ⟨o,ho,h1,h2⟩ hQ)
 again:=fun s xs o ho zp Q q=>e1d zp fun i h0 h1 h2 h3=>cA (by
  refine wpAny_pyIter_slot (T:="list_reverseiterator") ⟨o,ho,h1⟩ F.slot_lri_iter (GY F.slot_lri_iter ⟨o,ho,h1⟩ F.entry_lri_iter ?_ (F.args_lri_iter_1 _));refine(?_:wpAny _ _ (ret (.ref it)) _ _ s);exact Gq ⟨_,rfl,"list_reverseiterator",_,⟨o,ho,h1⟩,F.slot_lri_next.lookup,q⟩)
 noOwn:=fun xs o zp=>e1d zp fun i h0 h1 h2 h3=>⟨_,_,h1,h2,by decide +kernel⟩
theorem Fx{it:Addr}{c:Int}(hA:A.handled=none):ItK prog wd A (fun _ _=>True) (wj c) it where
 next:=fun G s x xs o _ ho zp Q hQ=>e2b zp fun a m h1 h3=>by
  subst h1
  cases m with
  |zero=>simp at h3
  |succ m=>
   rw[List.range_succ_eq_map]at h3;simp only[List.map_cons,List.cons.injEq,List.map_map]at h3;refine e0b h3 fun b6 a3=>?_;clear h3;subst b6 a3;refine cA (wpAny_pyNext_range_item ho (by exact lin [] [_] bt (.c bc) 1 [] rfl) fun h' g1 cf=>?_)
   have:=hQ h' (.int a s.toks) _ (s.toks+1) ⟨s.toks,by simp⟩ g1 ⟨a+c,m,by rw[show(((m+1:Nat):Int)-1)=(m:Int)by lia],?_⟩ cf
   ·exact this
   ·apply List.map_congr_left;intro k _;simp only[Function.comp_apply,P.int.injEq]
    push_cast
    rw[Int.add_mul];lia
 stop:=fun G s o _ ho zp Q hQ=>e2b zp fun a m h1 h3=>by
  subst h1;have:m=0:=by have:=congrArg List.length h3;simpa using this.symm
  subst this;exact cA (wpAny_pyNext_range_end hA ho (by exact lin [] [] (.c ax) an 1 [] rfl) hQ)
 again:=fun s xs o ho zp Q q=>e2b zp fun a m h1 h3=>cA (by
  subst h1;refine wpAny_pyIter_slot (T:="range_iterator") ⟨_,ho,rfl⟩ F.slot_range_iterator_iter (GY F.slot_range_iterator_iter ⟨_,ho,rfl⟩ F.entry_range_iterator_iter ?_ (F.args_range_iterator_iter_1 _));refine(?_:wpAny _ _ (ret (.ref it)) _ _ s);exact Gq ⟨_,rfl,"range_iterator",_,⟨_,ho,rfl⟩,F.slot_range_iterator_next.lookup,q⟩)
 noOwn:=fun xs o zp=>e2b zp fun a m h1 h3=>by subst h1;exact⟨_,_,rfl,rfl,by decide +kernel⟩
variable {t:PySem.Expr}{cl cr ct:C}{pos:Pos}{sa sb:S}{body:List Stmt}
noncomputable def addF(f:Gm)(it:Addr)(o:Obj):Gm:=fun a=>if a=it then some o else f a
theorem Pre.addF(p:Pre H0 f e nm G st s){it:Addr}{o:Obj}(ho:s.heap.get? it=some o)(hg:G.g it=none)(hw:G.ow it=none):Pre H0 (addF f it o) e nm G st s:=
 ⟨⟨p.inv.base,p.inv.gg,fun a x h=>by
   unfold Fb.addF at h;split at h
   ·rename_i q;subst q;obtain rfl:=sj h;exact ho
   ·exact p.inv.ff a x h,fun a x h=>by
   unfold Fb.addF at h;split at h
   ·rename_i q;subst q;exact hg
   ·exact p.inv.fg a x h,fun a x h=>⟨(p.inv.own a x h).1,by
   unfold Fb.addF;rw[if_neg fun q=>by subst q;rw[hw]at h;exact ns h];exact(p.inv.own a x h).2.1,(p.inv.own a x h).2.2⟩,p.inv.obj,p.inv.dom⟩,p.fr,p.len⟩
theorem Pre.dropF{it:Addr}{o:Obj}(p:Pre H0 (Fb.addF f it o) e nm G st s)(hf:f it=none):Pre H0 f e nm G st s∧s.heap.get? it=some o∧G.g it=none∧G.ow it=none:=by
 have hi:Fb.addF f it o it=some o:=if_pos rfl;have ne:∀a x,f a=some x→Fb.addF f it o a=some x:=fun a x h=>(if_neg fun q=>by subst q;rw[hf]at h;exact ns h).trans h
 refine⟨⟨⟨p.inv.base,p.inv.gg,fun a x h=>p.inv.ff a x (ne a x h),fun a x h=>p.inv.fg a x (ne a x h),fun a x h=>⟨(p.inv.own a x h).1,?_,(p.inv.own a x h).2.2⟩,p.inv.obj,p.inv.dom⟩,p.fr,p.len⟩,p.inv.ff _ _ hi,p.inv.fg _ _ hi,?_⟩
 ·cases q:f a with
  |none=>rfl
  |some y=>have:=(p.inv.own a x h).2.1;rw[ne a y q]at this;exact sn this
 ·cases q:G.ow it with
  |none=>rfl
  |some y=>have:=(p.inv.own it y q).2.1;rw[hi]at this;exact sn this
theorem Pre.unseen(p:Pre H0 f e nm G st s){it:Addr}{h':Heap}{t:Nat}(hs:Heap.ExtBut it s.heap h')(hf:f it=none)(hg:G.g it=none)(hw:G.ow it=none):Pre H0 f e nm G st {s with heap:=h',toks:=t}:=
 ⟨p.inv.keep fun a o hv ho=>hs a o (fun q=>by
   subst q;rcases hv with q|q|⟨x,q⟩
   ·rw[hg]at q;exact ns q
   ·rw[hf]at q;exact ns q
   ·rw[hw]at q;exact ns q) ho,p.fr.keep fun a j ha o ho=>hs a o (fun q=>by subst q;rw[hw]at ha;exact ns ha) ho,p.len⟩
theorem sX{it:Addr}{v:Value}{T:String}{fs:Array Value}{o:Obj}{Q:Unit→Shared→Prop}(ho:s.heap.get? it=some o)(hc:o.cls=.type T)(hd:o.data=.fields fs)
  (hT:["enumerate","zip","dict_itemiterator","dict_reverseitemiterator","odict_iterator","itertools.zip_longest","itertools.pairwise"].contains T=false) (h:Q () s):wpN (model prog wd) A (letOwnedTupleGo t (.ref it) v) Q s:=by
 have go:wpN (model prog wd) A (do
   let (.ref r, .ref a):=(Value.ref it,v)|return
   let o ←load r
   match o.cls,o.data with
   |.type n, .fields vs=>
    if["enumerate","zip","dict_itemiterator","dict_reverseitemiterator","odict_iterator","itertools.zip_longest","itertools.pairwise"].contains n&&vs[0]?==some (rawInt a)then
     rule "for.unpacks-the-owned-tuple"
     updateField r 0 .none
   |_,_=>pure ()) Q s:=by
  cases v with
  |ref a=>
   refine cH (wpAny_load ho ?_);rw[hc,hd];dsimp only;rw[hT,Bool.false_and];exact cF rfl (wpN_pure h)
  |_=>exact wpN_pure h
 cases t<;>first|exact go|exact wpN_pure h
theorem nb{R:Flow→Shared→Prop}(h:R .next s):eP (model prog wd) A (.block [] e) R s:=by
 refine cT rfl ?_;refine(?_:wpN _ _ (do return Fin.done (←(execs [] e).onRaise (fun x=>do noteFrame x e;theTreesLotGoes x))) _ _)
 exact cy (dD (wpN_pure (wpN_pure h)))
theorem wK{tt:T}{chk:St→Prop}{src:Gh→Heap→Prop}{IS:List P→Obj→Prop}{it:Addr}(hA:A.handled=none)(K:ItK prog wd A src IS it)(TT:Tgt e nm t tt)(ha:SJ H0 (model prog wd) A e nm (execs body e) (wS Pk sa))
  (bh:∀(a0 G:Gh) (st:St) (s:Shared),src a0 s.heap→True) (n0 m:Nat) (hm:m≤n0) (f:Gm) (hf:f it=none) (Gs:Gh)
  (c0:∀(G:Gh) (st:St) (s:Shared),Pre H0 f e nm G st s→Gs.LeN n0 G→chk st→src G s.heap) :
  ∀(xs:List P) (G:Gh) (s:Shared) (st:St) (o:Obj) (Q:Fl→St→Prop),Pre H0 f e nm G st s→Gs.LeN n0 G→n0≤st.σ.length→s.heap.get? it=some o→IS xs o→G.g it=none→G.ow it=none→
   vV n0 chk (fun x st K=>y4 tt (.p x) st fun st=>wS Pk sa st K) xs st Q→
   eP (model prog wd) A (.forLoop t (.ref it) body [] e) (eU H0 f e nm G s m Q) s:=by
 intro xs
 induction xs with
 |nil=>
  intro G s st o Q p c4 hn ho hI hg hw h;refine cT rfl ?_;refine(?_:wpN _ A ((forTurn t (.ref it) body [] e).onRaise _) _ s);refine dD ?_;unfold forTurn;refine cC (cy (dD (K.stop G s o (c0 G st s p c4 h.1) ho hI _ fun h' hs=>?_)));refine wpN_pure ⟨rfl,nb ?_⟩;exact eU.step (s₁:={s with heap:=h'}) ⟨rfl,rfl,rfl⟩ ((Gh.Le.refl _).toN _) (.now (p.unseen (t:=s.toks) hs hf hg hw) (Gp hm hn) (fl:=.next) rfl h.2)
 |cons x xs ih=>
  intro G s st o Q p c4 hn ho hI hg hw h;refine cT rfl ?_;refine(?_:wpN _ A ((forTurn t (.ref it) body [] e).onRaise _) _ s);refine dD ?_;unfold forTurn;refine cC (cy (dD (K.next G s x xs o (c0 G st s p c4 h.1) ho hI _ fun h' v o' tk hv e3 ek hs=>?_)));have ah:=p.unseen (t:=tk) hs.extBut hf hg hw;refine e2c (K.noOwn xs o' ek) fun T fs g1 g2 g3=>?_;dsimp only;refine cy (sX (s:={s with heap:=h',toks:=tk}) e3 g1 g2 g3 ?_);have b5:=ah.addF (o:=o') e3 hg hw;refine cy (cE (su hA TT b5 (v:=.p x) hv h.2) fun _ d4 zp=>e1d zp fun d2 cf ar d3 df=>?_);refine cy (E3 (ha _ G d4 d2 _ n0 d3 (by rw[ar];exact hn) df) fun fl d5 e6 dx y dv b3 e7 dd e5 dr=>?_)
  refine e0d (dd.dropF hf) fun dt a5 ac a4=>?_;have sm:gi s d5:=(show gi s {s with heap:=h',toks:=tk}from⟨rfl,rfl,rfl⟩).trans (cf.trans dv)
  have go:vV n0 chk (fun x st K=>y4 tt (.p x) st fun st=>wS Pk sa st K) xs (iu n0 dx) Q→eP (model prog wd) A (.forLoop t (.ref it) body [] e) (eU H0 f e nm G s m Q) d5:=fun z=>
   dJ (ih (xn n0 e6) d5 (iu n0 dx) o' Q (dt.cut n0) ((c4.trans b3).trans (py n0 e6)) (by simp[iu];lia) a5 ek ac (by simp only[xn,a4]) z) fun fl c1 P=>
    P.step sm ((b3.mono hm).trans ((py n0 e6).mono hm))
  cases y with
  |next=>subst e5;exact wpN_pure ⟨rfl,go dr⟩
  |cont=>subst e5;exact wpN_pure ⟨rfl,go dr⟩
  |brk=>subst e5;exact wpN_pure (eU.step sm (b3.mono hm) (.now dt (Gp hm e7) (fl:=.next) rfl dr))
  |ret y=>refine e1b e5 fun v a3 hv=>?_;clear e5;subst a3;exact wpN_pure (eU.step sm (b3.mono hm) (.now dt (Gp hm e7) (fl:=.ret y) ⟨v,rfl,hv⟩ dr))
end
end
section
section
variable {prog:Program}{wd:World}{A:Around}{H0:Heap}{e:Env}{nm:List (Option Str)}{Pk:Pg}{f:Gm}{G:Gh}{st:St}{s:Shared}{n:Nat}
variable {o l r t:PySem.Expr}{cl cr ct ci:C}{pos p2:Pos}{sa sb:S}{body:List Stmt}{args:List PySem.Expr}
noncomputable def eE(x:PySem.Expr):Bool:=!(Nat.beq x.ctorIdx 7)
theorem lN{x:Value}(h:eE l=true):foldedSetIterable l e x=pure x:=by cases l<;>first|rfl|exact ft h
def zm(prog:Program)(wd:World)(A:Around)(H0:Heap)(e:Env)(nm:List (Option Str))(f:Gm)(ik:It)(vs:List V)(G:Gh)(st:St)(s:Shared)(it:Addr):Prop:=
 (f it=none∧G.g it=none∧G.ow it=none)∧∀K,pg ik vs st K→∃l chk src IS o,K l chk∧s.heap.get? it=some o∧IS l o∧ItK prog wd A src IS it∧
  ∀(G':Gh) (e':Env) (c1:List (Option Str)) (f':Gm) (b3:St) (s':Shared),Pre H0 f' e' c1 G' b3 s'→G.LeN st.σ.length G'→chk b3→src G' s'.heap
theorem dk.upN{x:V}{a:Value}{G':Gh}{K:List P→Prop}(p:Pre H0 f e nm G st s)(hx:dk G.g G.k x a)(h:dI st.σ x K)(c4:G.LeN st.σ.length G'):dk G'.g G'.k x a:=by
 cases x with
 |p x=>exact PRel.mono c4.g hx
 |ref i=>
  refine e1b hx fun ad hi b6=>?_;clear hx;subst b6;rcases G5 i st.σ.length with q|q
  ·exact⟨ad,c4.id i ad q hi,rfl⟩
  ·rw[(p.inv.dom i q).1]at hi;exact ns hi
 |inn i m v=>
  refine e1b hx fun ad hi b6=>?_;clear hx;subst b6;rcases G5 i st.σ.length with q|q
  ·exact⟨ad,c4.inn i m v ad q hi,rfl⟩
  ·rw[(p.inv.dom i q).2]at hi;exact ns hi
 |_=>exact h.elim
theorem pZ{x:V}{ad:Addr}{G':Gh}{e':Env}{c1:List (Option Str)}{f':Gm}{b3:St}{s':Shared}{K:List P→Prop}{l:List P}(p:Pre H0 f e nm G st s)(hx:dk G.g G.k x (.ref ad))(h:dI st.σ x K)(hn:nL x)
  (p':Pre H0 f' e' c1 G' b3 s') (c4:G.LeN st.σ.length G') (hc:dI b3.σ x (· = l)):mA ad l G' s'.heap:=by
 refine e4d (mF p' (hx.upN p h c4) hc) fun _ _ us k e2 a4 hv ho=>?_;clear hc c4 p' h hx p K b3 f' c1 e';subst a4
 cases e2
 rcases ho with⟨rfl,_⟩|⟨_,ho⟩
 ·exact hn.elim
 ·exact⟨us,k,ho,hv⟩
theorem wh{x:V}{a:Value}{R:Value→Shared→Prop}(hA:A.handled=none)(p:Pre H0 f e nm G st s)(hx:dk G.g G.k x a)(h:dI st.σ x fun _=>True)
  (hR:∀s',gi s s'→(∀b o,s.heap.get? b=some o→s'.heap.get? b=some o)→Pre H0 f e nm G st s'→zm prog wd A H0 e nm f .lst [x] G st s' s.heap.objs.size→R (.ref s.heap.objs.size) s'):wpN (model prog wd) A (pyIter a) R s:=by
 have fr:=p.fresh (Gw _);refine e4d (mF p hx h) fun ad ps us k q _ hv zB=>?_;subst q;rcases zB with⟨rfl,ho⟩|⟨hn,ho⟩
 ·refine cA (wpAny_pyIter_tuple ⟨_,ho,rfl,k,rfl⟩ ?_);refine e4d hx fun d4 o us k e1 hg c2 hv=>?_;clear hx;subst c2
  cases e1
  exact hR {s with heap:=_} ⟨rfl,rfl,rfl⟩ (fun b o h=>Gy _ h) (p.keeps fun b o h=>Gy _ h) ⟨⟨fr.2.1,fr.1,fr.2.2⟩,fun K hK=>⟨ps,_,zv ad ps,wi ad ps,_,hK,GG _ rfl,⟨0,rfl,rfl,rfl⟩,Fw hA,fun G' e' c1 f' b3 s' p' c4 _=>⟨us,0,p'.inv.gg _ _ (c4.g _ _ hg),hv.mono c4.g⟩⟩⟩
 ·refine cA (wpAny_pyIter_list (dM ho) ?_);refine hR {s with heap:=_} ⟨rfl,rfl,rfl⟩ (fun b o h=>Gy _ h) (p.keeps fun b o h=>Gy _ h) ⟨⟨fr.2.1,fr.1,fr.2.2⟩,fun K hK=>?_⟩;refine e4d (mF p hx (show dI st.σ x (fun l=>K l fun st=>dI st.σ x (· = l))from hK)) fun _ l _ _ e1 hl _ _=>?_
  clear hR R hK fr hv ps ho;cases e1;exact⟨l,_,mA _ l,s7 _ l,_,hl,GG _ rfl,⟨0,rfl,rfl,rfl⟩,Dg hA,fun G' e' c1 f' b3 s' p' c4 hc=>pZ p hx h hn p' c4 hc⟩
theorem vh{x:Int}{r:List V}{K K':List P→(St→Prop)→Prop}(h:E5 x r K)(hK:∀l c,K l c→K' l c):E5 x r K':=by
 cases r with
 |nil=>exact⟨h.1,hK _ _ h.2⟩
 |cons b r=>
  refine e1b (eu h) fun b a3 h=>?_;subst a3
  cases r with
  |nil=>exact⟨h.1,hK _ _ h.2⟩
  |cons c r=>
   refine e1b (eu h) fun c a3 h=>?_;subst a3
   cases r with
   |nil=>exact⟨h.1,hK _ _ h.2⟩
   |cons _ _=>exact h.elim
theorem ol{ik:It}{vs:List V}{st:St}{K K':List P→(St→Prop)→Prop}(h:pg ik vs st K)(hK:∀l c,K l c→K' l c):pg ik vs st K':=by
 cases ik with
 |lst=>refine e1b (fP h) fun v a3 h=>?_;subst a3;exact fN h fun l hl=>hK _ _ hl
 |rev=>refine e1b (fP h) fun v a3 h=>?_;subst a3;exact fN h fun l hl=>⟨hl.1,hK _ _ hl.2⟩
 |rng=>refine e2b (jc h) fun _ r b6 h=>?_;subst b6;refine e1b (eu h) fun a a3 h=>?_;subst a3;exact vh h hK
def B6(H0:Heap)(prog:Program)(wd:World)(A:Around)(e:Env)(nm:List (Option Str))(f:Gm)(ik:It)(G:Gh)(s:Shared)(n:Nat)(Q:List V→St→Prop)(v:Value)(s':Shared):Prop:=
 ∃G' b3 vs it,v=.ref it∧gi s s'∧G.Le G'∧n≤b3.σ.length∧Pre H0 f e nm G' b3 s'∧zm prog wd A H0 e nm f ik vs G' b3 s' it∧Q vs b3
theorem F5{ik:It}{Q:List V→St→Prop}{t:Sem Value}{K:Value→Shared→Prop}{s':Shared}(h:wpN (model prog wd) A t (B6 H0 prog wd A e nm f ik G s n Q) s')
  (k:∀s₁ G₁ a0 vs it,gi s s₁→G.Le G₁→n≤a0.σ.length→Pre H0 f e nm G₁ a0 s₁→zm prog wd A H0 e nm f ik vs G₁ a0 s₁ it→Q vs a0→K (.ref it) s₁):wpN (model prog wd) A t K s':=
 cE h fun v s₁ h=>h.elim fun G₁ h=>h.elim fun a0 h=>h.elim fun vs h=>h.elim fun it h=>h.1▸k s₁ G₁ a0 vs it h.2.1 h.2.2.1 h.2.2.2.1 h.2.2.2.2.1 h.2.2.2.2.2.1 h.2.2.2.2.2.2
def IJ(H0:Heap)(prog:Program)(wd:World)(A:Around)(e:Env)(nm:List (Option Str))(t:Sem Value)(W:St→(List V→St→Prop)→Prop)(ik:It):Prop:=
 ∀f G s st Q,Pre H0 f e nm G st s→W st Q→(∀vs st,Q vs st→pg ik vs st fun _ _=>True)→wpN (model prog wd) A t (fun a s₁=>wpN (model prog wd) A (pyIter a) (B6 H0 prog wd A e nm f ik G s st.σ.length Q) s₁) s
theorem Dm(hA:A.handled=none)(hl:EJ H0 (model prog wd) A e nm (eval l e) (w Pk cl)):IJ H0 prog wd A e nm (eval l e) (w Pk cl) .lst:=fun f G s st Q p h hQ=>
 fD (hl f G s st _ p h) fun a s₁ G₁ a0 x a5 a4 n₁ ah b4 ac=>
  wh hA ah b4 (fN (show dI _ x (fun _=>True)from hQ _ _ ac) fun _ _=>trivial) fun ar aw hk b5 hr=>⟨G₁,a0,[x],_,rfl,a5.trans aw,a4,n₁,b5,hr,ac⟩
theorem rC{a b c:Int}(h:rOK a b c):Builtin.Range.small a b c=true:=by
 refine e0e h fun h1 h2 h3 h4 h5=>?_;have key:∀x:Int,-(2 ^ 33)≤x→x≤2 ^ 33→Builtin.Range.rangeFitsLong x=true:=fun x h1 h2=>by
  unfold Builtin.Range.rangeFitsLong;rw[GC,decide_eq_true_eq,decide_eq_true_eq];exact GK (lin [_] [] aL aa 1 [.i 1 aI aa] rfl h1) (lin [_] [] bi aA 1 [.i 1 aa aO] rfl h2)
 have sz : -(2 ^ 33)≤Builtin.Range.rangeSize a b c∧Builtin.Range.rangeSize a b c≤2 ^ 33:=by
  unfold Builtin.Range.rangeSize;rcases h5 with rfl|rfl
  ·rw[if_pos (by decide),Int.ediv_one];split<;>(first|exact(GK (lin [_,_] [] aI (.a (.s bn ao) ao) 1 [.i 1 bA aa] rfl (by assumption)) (lin [_,_] [] (.a (.s bn ao) ao) aO 1 [.i 1 ay am,.i 1 aa aG] rfl h1 h4))|exact GK (lin [] [] aI an 1 [] rfl) (lin [] [] an aO 1 [] rfl))
  ·rw[if_neg (by decide),show(-(-1:Int))=1 from rfl,Int.ediv_one];split<;>(first|exact(GK (lin [_,_] [] aI (.a (.s bn ao) ao) 1 [.i 1 bA aa] rfl (by assumption)) (lin [_,_] [] (.a (.s bn ao) ao) aO 1 [.i 1 aa aG,.i 1 ay am] rfl h2 h3))|exact GK (lin [] [] aI an 1 [] rfl) (lin [] [] an aO 1 [] rfl))
 have hc : -1≤c∧c≤1:=by clear h h2 h1 h4 h3;rcases h5 with rfl|rfl<;>decide
 unfold Builtin.Range.small;rw[key a (by exact lin [_] [] aI aa 1 [.i 1 ay aa] rfl h1) (by exact lin [_] [] aa aO 1 [.i 1 aa aG] rfl h2),key b (by exact lin [_] [] aI aa 1 [.i 1 ay aa] rfl h3) (by exact lin [_] [] aa aO 1 [.i 1 aa aG] rfl h4),key c (by exact lin [_] [] aI aa 1 [.i 1 (.n (-1)) aa] rfl (Gz hc)) (by exact lin [_] [] aa aO 1 [.i 1 aa ao] rfl (Gu hc)),key _ sz.1 sz.2]
 rcases h5 with rfl|rfl
 ·rw[if_pos (by decide)]
  simp only[Bool.true_and];rw[key _ (by exact lin [_] [] aI (.a aa (.s ao ao)) 1 [.i 1 ay aa] rfl h3) (by exact lin [_] [] (.a aa (.s ao ao)) aO 1 [.i 1 aa aG] rfl h4),Bool.or_true]
 ·rw[if_neg (by decide)]
  simp only[Bool.true_and];rw[key _ (by exact lin [_] [] aI (.a aa (.a (.n (-1)) ao)) 1 [.i 1 ay aa] rfl h3) (by exact lin [_] [] (.a aa (.a (.n (-1)) ao)) aO 1 [.i 1 aa aG] rfl h4),Bool.or_true]
theorem p6(a b c:Int):0≤Builtin.Range.rangeSize a b c:=by
 unfold Builtin.Range.rangeSize
 split
 ·split
  ·rename_i h1 h2
   have:=Int.ediv_nonneg (a:=b-a-1) (b:=c) (by exact lin [_,_] [] an (.s bn ao) 1 [.i 1 bA aa] rfl h2) (by exact lin [_] [] an aa 1 [.i 1 bt aa] rfl h1);exact lin [_] [] an bi 1 [.i 1 an aa] rfl this
  ·exact lin [] [] an an 1 [] rfl
 ·split
  ·rename_i h1 h2
   have:=Int.ediv_nonneg (a:=a-b-1) (b:=-c) (by exact lin [_,_] [] an (.s bn ao) 1 [.i 1 bA aa] rfl h2) (by exact lin [_] [] an (.g aa) 1 [.i 1 aa an] rfl (Int.not_lt.mp h1));exact lin [_] [] an bi 1 [.i 1 an aa] rfl this
  ·exact lin [] [] an an 1 [] rfl
theorem tT{a b c:Int}{r:Addr}{u v w':Tok}{vs:List V}{R:Value→Shared→Prop}(hA:A.handled=none)(p:Pre H0 f e nm G st s)(hr:IsRange s.heap r a b c u v w')(hk:rOK a b c)
  (bh:∀K,pg .rng vs st K→K (mN a b c) fun _=>True)
  (hR:∀s',gi s s'→Pre H0 f e nm G st s'→zm prog wd A H0 e nm f .rng vs G st s' s.heap.objs.size→R (.ref s.heap.objs.size) s'):wpN (model prog wd) A (pyIter (.ref r)) R s:=by
 refine e0c (p.fresh (Gw _)) fun f1 f2 f3=>?_;refine cA (wpAny_pyIter_range hr (rC hk) ?_);refine hR {s with heap:=_} ⟨rfl,rfl,rfl⟩ (p.keeps fun b o h=>Gy _ h) ⟨⟨f2,f1,f3⟩,fun K hK=>⟨mN a b c,_,fun _ _=>True,wj c,_,bh K hK,GG _ rfl,⟨a,(Builtin.Range.rangeSize a b c).toNat,?_,rfl⟩,Fx hA,fun _ _ _ _ _ _ _ _ _=>trivial⟩⟩;rw[Gl (p6 a b c)]
theorem Dk{id:Str}{args:List PySem.Expr}(hA:A.handled=none)(c3:e.kindOf id=some .globalImplicit)(hg:e.globals=mainGlobals)(hb:e.builtins=builtinsNs)(h1:(id==("__debug__" : Str))=false)(hx:q9 H0 id (.fn .range))
  (c2:dj args=true) (ha:LJ H0 (model prog wd) A e nm (spliced (backTo pos (starEach args e))) (w Pk ca)) :
  IJ H0 prog wd A e nm (eval (.Call (.Name id p2) args [] pos) e) (w Pk ca) .rng:=fun f G s st Q p h hQ=>by
 refine dc (arm_eval_Call_Name' ..) ?_;refine cy (fD (rW (Pk:=Pk) (x:=.fn .range) c3 hg hb h1 hx f G s st (fun xs st=>xs=[.p (.fn .range)]∧w Pk ca st Q) p ⟨rfl,h⟩) fun fv s₁ G₁ a0 fx a5 a4 n₁ ah b4 ac=>?_);obtain⟨e1,ac⟩:=ac
 cases e1
 clear hx h1 hb hg c3 id p;subst b4;refine fk (fM (R:=fun a s'=>a.kw=[]∧zn H0 f e nm G₁ s₁ a0.σ.length Q a.pos s') (kI c2) (cE (ha f G₁ s₁ a0 _ ah ac) fun vs ar P=>⟨rfl,P⟩)) ?_;refine fun as ar hh=>e0b hh fun ck hh=>hh.el fun d1 c0 xs aw ag cc b5 b7 bb=>?_;obtain⟨vs,kw⟩:=as;have ck:kw=[]:=ck;have b7:cZ d1.g d1.k xs vs:=b7;clear ha c2 args ac ah hh;subst ck;refine⟨⟨_,Looks.of_pure rfl⟩,?_⟩;have hit:=hQ _ _ bb;have fin:∀{a b c:Int} {u v w' tk:Tok},rOK a b c→(∀K,pg .rng xs c0 K→K (mN a b c) fun _=>True)→
   wpN (model prog wd) A (pyIter (.ref ar.heap.objs.size)) (B6 H0 prog wd A e nm f .rng G s st.σ.length Q)
    {ar with heap:=ar.heap.push {cls:=.type "range",data:=.fields #[.int a u, .int b v, .int c w']},toks:=tk}:=fun{a b c u v w' tk} hk bh=>by
  have d3:Pre H0 f e nm d1 c0 {ar with heap:=ar.heap.push {cls:=.type "range",data:=.fields #[.int a u, .int b v, .int c w']},toks:=tk}:=b5.keeps fun b o h=>Gy _ h;refine tT hA d3 (GG _ rfl) hk bh fun d4 cf dd hr=>⟨d1,c0,xs,_,rfl,((a5.trans aw).trans (show gi ar {ar with heap:=ar.heap.push {cls:=.type "range",data:=.fields #[.int a u, .int b v, .int c w']},toks:=tk}from⟨rfl,rfl,rfl⟩)).trans cf,a4.trans ag,Gp n₁ cc,dd,hr,bb⟩
 have sz:∀{a b:Int} {c:Int},rOK a b c→Builtin.divisionGoesByPylong (b-a) c=false:=fun{a b c} h=>by
  obtain⟨_,_,_,_,rfl|rfl⟩:=h<;>(unfold Builtin.divisionGoesByPylong;simp;intro h;exfalso;revert h;decide)
 refine e2b (jc hit) fun _ r b6 hit=>?_;clear hA bb cc n₁;subst b6;refine e1b (eu hit) fun a a3 hit=>?_;subst a3;refine e2c b7 fun _ vr b6 ct hr=>?_;clear b7;subst b6;refine e1a ct fun t a3=>?_;clear ct;subst a3
 cases r with
 |nil=>subst hr;exact cA (call_range_1 (fin hit.1 fun K hK=>hK.2))
 |cons b r=>
  refine e1b (eu hit) fun b a3 hit=>?_;subst a3;refine e2c hr fun _ vr b6 ct c1=>?_;clear hr;subst b6;refine e1a ct fun u a3=>?_;clear ct;subst a3
  cases r with
  |nil=>subst c1;exact cA (call_range_2 (fin hit.1 fun K hK=>hK.2))
  |cons c r=>
   refine e1b (eu hit) fun c a3 hit=>?_;subst a3;refine e2c c1 fun _ vr b6 ct ce=>?_;clear c1;subst b6;refine e1a ct fun u' a3=>?_;clear ct;subst a3
   cases r with
   |nil=>subst ce;exact cA (call_range_3 (by obtain⟨_,_,_,_,q|q⟩:=hit.1<;>rw[q]<;>decide) (fin hit.1 fun K hK=>hK.2) (.inl (sz hit.1)))
   |cons _ _=>exact hit.elim
theorem Dl{id:Str}{arg:PySem.Expr}(hA:A.handled=none)(c3:e.kindOf id=some .globalImplicit)(hg:e.globals=mainGlobals)(hb:e.builtins=builtinsNs)(h1:(id==("__debug__" : Str))=false)(hx:q9 H0 id (.fn .reversed))
  (c2:dj [arg]=true) (ha:LJ H0 (model prog wd) A e nm (spliced (backTo pos (starEach [arg] e))) (w Pk ca)) :
  IJ H0 prog wd A e nm (eval (.Call (.Name id p2) [arg] [] pos) e) (w Pk ca) .rev:=fun f G s st Q p h hQ=>by
 refine dc (arm_eval_Call_Name' ..) ?_;refine cy (fD (rW (Pk:=Pk) (x:=.fn .reversed) c3 hg hb h1 hx f G s st (fun xs st=>xs=[.p (.fn .reversed)]∧w Pk ca st Q) p ⟨rfl,h⟩) fun fv s₁ G₁ a0 fx a5 a4 n₁ ah b4 ac=>?_);obtain⟨e1,ac⟩:=ac
 cases e1
 clear hx h1 hb hg c3 id p;subst b4;refine fk (fM (R:=fun a s'=>a.kw=[]∧zn H0 f e nm G₁ s₁ a0.σ.length Q a.pos s') (kI c2) (cE (ha f G₁ s₁ a0 _ ah ac) fun vs ar P=>⟨rfl,P⟩)) ?_;refine fun as ar hh=>e0b hh fun ck hh=>hh.el fun d1 c0 xs aw ag cc b5 b7 bb=>?_;obtain⟨vs,kw⟩:=as;have ck:kw=[]:=ck;have b7:cZ d1.g d1.k xs vs:=b7;clear ha c2 arg ac ah hh;subst ck;refine⟨⟨_,Looks.of_pure rfl⟩,?_⟩;have hit:=hQ _ _ bb;refine e1b (fP hit) fun x a3 hit=>?_;clear ck;subst a3;refine e2c b7 fun v r b6 hv hr=>?_;clear b7;clear b7;subst b6;subst hr;refine e4d (mF b5 hv hit) fun ad ps us k q zA hl zB=>e0b zA fun h4 _=>?_;subst q;rcases zB with⟨rfl,ho⟩|⟨hn,ho⟩
 ·exact h4.elim
 have bh:=hl.length;refine cA (call_reversed_list (dM ho) ?_);have ce:((ar.heap.push (revObj ad ((us.toArray.size:Int)-1))).get? ar.heap.objs.size)=some (revObj ad ((us.toArray.size:Int)-1)):=GG _ rfl;have hI:rM ad ps ps.reverse (revObj ad ((us.toArray.size:Int)-1)):=⟨ps.length,Gw _,rfl,by rw[Gx,bh];rfl,by rw[List.take_length]⟩
 refine(Df (prog:=prog) (wd:=wd) (A:=A) hA).again {ar with heap:=ar.heap.push (revObj ad ((us.toArray.size:Int)-1))} ps.reverse _ ce hI _ ?_;have fr:=b5.fresh (Gw _);refine⟨d1,c0,[x],ar.heap.objs.size,rfl,(a5.trans aw).trans ⟨rfl,rfl,rfl⟩,a4.trans ag,Gp n₁ cc,b5.keeps fun b o h=>Gy _ h,⟨⟨fr.2.1,fr.1,fr.2.2⟩,fun K hK=>?_⟩,bb⟩;have hK':dI c0.σ x (fun l=>nL x∧K l.reverse fun st=>dI st.σ x (· = l)):=hK;clear hK fr h cc n₁;obtain⟨d4,ct,us',k',e2,⟨_,hKl⟩,cf,⟨rfl,_⟩|⟨_,e3⟩⟩:=mF b5 hv hK'
 ·exact h4.elim
 cases e2
 rw[ho]at e3
 cases e3
 exact⟨ct.reverse,_,mA ad ct,rM ad ct,_,hKl,ce,⟨ct.length,Gw _,rfl,by rw[Gx,cf.length];rfl,by rw[List.take_length]⟩,Df hA,fun G' e' c1 f' b3 s' p' c4 hc=>pZ b5 hv hit hn p' c4 hc⟩
theorem CK{tt:T}{ik:It}{iter:PySem.Expr}(hA:A.handled=none)(a3:eE iter=true)(TT:Tgt e nm t tt)(hI:IJ H0 prog wd A e nm (eval iter e) (w Pk ci) ik)(ha:SJ H0 (model prog wd) A e nm (execs body e) (wS Pk sa)) :
  SJ H0 (model prog wd) A e nm (exec (.For t iter body [] pos) e) (wS Pk (.forIn tt ik ci sa)):=fun f G s st Q m p hm h=>by
 refine dc (exec_For ..) ?_;refine cC ?_;refine cy (cE (hI f G s st _ p h fun vs st h=>ol h fun _ _ _=>trivial) fun a b4 ag=>?_);rw[lN a3];refine cy (wpN_pure (cC (cy (cB (F5 ag fun s₁ G₁ a0 vs it a5 a4 n₁ ah hr ac=>?_)))));refine e5e (hr.2 _ ac) fun l chk src IS o hl ho hi K bh=>?_;unfold km at hl;exact nU (dJ (wK hA K TT ha (fun _ _ _ _ _=>trivial) a0.σ.length m (Gp hm n₁) f hr.1.1 G₁ (fun G' b3 s' p' c4 hc=>bh G' _ _ _ b3 s' p' c4 hc) l G₁ s₁ a0 o Q ah ((Gh.Le.refl _).toN _) (Gw _) ho hi hr.1.2.1 hr.1.2.2 hl) fun fl ar P=>P.step a5 (a4.toN _))
end
end
section
noncomputable def FH(sc:Scope)(x:Option Str):Option Str:=match x with
 |some n=>if sc.names.lookup n=some .free then some n else none
 |none=>none
noncomputable def gZ(sc:Scope):List Str:=(sc.names.filter fun x=>x.2==.local&&x.1 != (".0" : Str)).map (·.1)
noncomputable def x6(sc out:Scope):Scope:=
 {sc with names:=sc.names.map fun(n,k)=>if(k==.free&&out.kind==.function&&out.names.lookup n==some .cell)then(n, .cell)else(n,k)}
noncomputable def pi(nm:List (Option Str))(sc:Scope):List (Option Str):=nm.map (FH sc)++(gZ sc).map some
structure zl(sc out:Scope):Prop where
 kind:sc.kind=.function
 okind:out.kind=.function
 nodup:(sc.names.map (·.1)).Nodup
 cell:∀x∈sc.names,x.2≠.cell
 free:∀x∈sc.names,x.2=.free→out.names.lookup x.1=some .cell
noncomputable def clo(e:Env):List (Str×NameKind)→List (Str×Addr)→List (Str×Addr)
 |[],acc=>acc
 |(n,k)::r,acc=>if k==.free then clo e r ((n,(e.cells.lookup n).getD 0)::acc)else clo e r acc
noncomputable abbrev nC(sc:Scope)(e:Env)(C:Addr):Env:=compEnvC sc (clo e sc.names []) C e
theorem lz{e:Env}:∀{names:List (Str×NameKind)} {acc:List (Str×Addr)},(∀x∈names,x.2=.free→(e.cells.lookup x.1).isSome=true)→
  (forIn names acc (fun(x:Str×NameKind) (r:List (Str×Addr))=>if(x.2==NameKind.free)=true then(do let a ←cellOf e x.1;pure (ForInStep.yield ((x.1,a)::r)))else pure (ForInStep.yield r)):Sem (List (Str×Addr)))=pure (clo e names acc)
 |[],acc,h=>by rw[List.forIn_nil];rfl
 |(n,k)::r,acc,h=>by
  rw[List.forIn_cons];unfold clo;by_cases hk:(k==NameKind.free)=true
  ·rw[if_pos hk,if_pos hk];have ar:k=.free:=by simpa using hk
   refine e1a (Option.isSome_iff_exists.mp (h (n,k) GS ar)) fun c hc=>?_;have:cellOf e n=pure c:=by unfold cellOf;rw[hc]
   rw[this];have:=lz (e:=e) (names:=r) (acc:=(n,c)::acc) fun x hx=>h x (GM _ hx);rw[hc,Option.getD_some,←this];rfl
  ·rw[if_neg hk,if_neg hk];have:=lz (e:=e) (names:=r) (acc:=acc) fun x hx=>h x (GM _ hx);rw[←this];rfl
theorem r6{e:Env}:∀{names:List (Str×NameKind)} {acc:List (Str×Addr)} {n:Str} {c:Addr},(∀x∈names,x.2=.free→(e.cells.lookup x.1).isSome=true)→(n,c)∈clo e names acc→((n,NameKind.free)∈names∧e.cells.lookup n=some c)∨(n,c)∈acc
 |[],acc,n,c,h,hm=>.inr hm
 |(n',k)::r,acc,n,c,h,hm=>by
  unfold clo at hm;have h':∀x∈r,x.2=.free→(e.cells.lookup x.1).isSome=true:=fun x hx=>h x (GM _ hx);by_cases hk:(k==NameKind.free)=true
  ·rw[if_pos hk]at hm;have ar:k=.free:=by simpa using hk
   subst ar;rcases r6 h' hm with q|q
   ·exact .inl ⟨GM _ q.1,q.2⟩
   ·rcases List.mem_cons.mp q with q|q
    ·refine e1a (Option.isSome_iff_exists.mp (h (n', .free) GS rfl)) fun a ha=>?_;rw[ha]at q;cases q;exact .inl ⟨GS,ha⟩
    ·exact .inr q
  ·rw[if_neg hk]at hm;rcases r6 h' hm with q|q
   ·exact .inl ⟨GM _ q.1,q.2⟩
   ·exact .inr q
theorem r7{e:Env}{n:Str}:∀{names:List (Str×NameKind)} {acc:List (Str×Addr)},((n,NameKind.free)∈names∨(acc.lookup n).isSome=true)→((clo e names acc).lookup n).isSome=true
 |[],acc,h=>by
  rcases h with h|h
  ·cases h
  ·exact h
 |(n',k)::r,acc,h=>by
  unfold clo;have grow:∀a,(acc.lookup n).isSome=true→(List.lookup n ((n',a)::acc)).isSome=true:=fun a q=>by
   rw[List.lookup_cons];cases n==n'<;>first|exact q|rfl
  by_cases hk:(k==NameKind.free)=true
  ·rw[if_pos hk];refine r7 ?_;rcases h with h|h
   ·rcases List.mem_cons.mp h with q|q
    ·cases q;exact .inr (by simp[List.lookup_cons])
    ·exact .inl q
   ·exact .inr (grow _ h)
  ·rw[if_neg hk];refine r7 ?_;rcases h with h|h
   ·rcases List.mem_cons.mp h with q|q
    ·cases q;exact absurd rfl hk
    ·exact .inl q
   ·exact .inr h
theorem nf{e:Env}:∀{names:List (Str×NameKind)} {acc:List (Str×Addr)},((acc.map (·.1))++names.map (·.1)).Nodup→((clo e names acc).map (·.1)).Nodup
 |[],acc,h=>by simpa[clo]using h
 |(n',k)::r,acc,h=>by
  unfold clo
  split
  ·refine nf ?_;simp only[List.map_cons,List.cons_append];simp only[List.map_cons]at h;exact(List.perm_middle.nodup_iff).mp h
  ·refine nf ?_;simp only[List.map_cons]at h;exact h.sublist (List.Sublist.append (List.Sublist.refl _) (List.sublist_cons_self _ _))
theorem ge{α:Type}{l:List (Str×α)}{n:Str}{c:α}(h:(l.map (·.1)).Nodup)(hm:(n,c)∈l):l.lookup n=some c:=by
 induction l with
 |nil=>exact absurd hm List.not_mem_nil
 |cons p r ih=>cases p with
  |mk k v=>
  refine e0b (List.nodup_cons.mp (by simpa using h:(k::r.map (·.1)).Nodup)) fun h1 h2=>?_
  rw[List.lookup_cons];rcases List.mem_cons.mp hm with q|q
  ·cases q;simp
  ·have:(n==k)=false:=by
    simp only[beq_eq_false_iff_ne]
    rintro rfl
    exact h1 (List.mem_map_of_mem (f:=(·.1)) q)
   rw[this];exact ih h2 q
section
variable {H0:Heap}{f:Gm}{e:Env}{nm:List (Option Str)}{G:Gh}{st:St}{s:Shared}{sc:Scope}
structure Clo(e:Env)(sc:Scope)(cl:List (Str×Addr)):Prop where
 avail:∀x∈sc.names,x.2=.free→(e.cells.lookup x.1).isSome=true
 mem:∀n c,cl.lookup n=some c→sc.names.lookup n=some .free∧e.cells.lookup n=some c
 has:∀n,sc.names.lookup n=some .free→(cl.lookup n).isSome=true
 mem':∀n c,(n,c)∈cl→cl.lookup n=some c
 apart:cl.Pairwise fun x y=>x.2≠y.2
theorem Pre.clo(p:Pre H0 f e nm G st s)(ok:zl sc e.scope):Clo e sc (Fb.clo e sc.names []):=by
 have h1:∀x∈sc.names,x.2=.free→(e.cells.lookup x.1).isSome=true:=fun x hx hk=>p.fr.cellsAll x.1 (by unfold Env.kindOf;exact ok.free x hx hk)
 have h2:∀n c,(n,c)∈Fb.clo e sc.names []→(n,NameKind.free)∈sc.names∧e.cells.lookup n=some c:=fun n c hm=>by
  rcases r6 h1 hm with q|q
  ·exact q
  ·cases q
 have h3:((Fb.clo e sc.names []).map (·.1)).Nodup:=nf (by simpa using ok.nodup)
 refine⟨h1,fun n c h=>?_,fun n h=>r7 (.inl (mem_of_lookup h)),fun n c h=>ge h3 h,?_⟩
 ·refine e0b (h2 n c (mem_of_lookup h)) fun q1 q2=>?_;exact⟨ge ok.nodup q1,q2⟩
 ·have h4:(Fb.clo e sc.names []).Pairwise fun x y=>x.1≠y.1:=List.pairwise_map.mp h3;refine List.Pairwise.imp_of_mem (fun{a b} ha hb bb hc=>bb ?_) h4;have q1:=(h2 a.1 a.2 ha).2;have q2:=(h2 b.1 b.2 hb).2;exact name_of_addr p.fr.apart (mem_of_lookup q1) (mem_of_lookup (hc▸q2))
noncomputable def inF(cl:List (Str×Addr))(G:Gh)(f:Gm)(h:Heap):Gm:=fun a=>match f a with
 |some o=>some o
 |none=>match G.ow a with
  |some (0,_)=>if a∈cl.map (·.2)then none else h.get? a
  |_=>none
noncomputable def inG(cl:List (Str×Addr))(G:Gh)(C:Addr):Gh:=⟨G.g,G.k,fun a=>if a=C then some (0,0)else match G.ow a with
 |some (0,j)=>if a∈cl.map (·.2)then some (0,j)else none
 |x=>x⟩
theorem xZ(sc:Scope)(e:Env):relabel sc e=x6 sc e.scope:=rfl
theorem lH{out:Scope}:∀{names:List (Str×NameKind)} {n:Str},(names.map fun(n,k)=>if(k==NameKind.free&&out.kind==.function&&out.names.lookup n==some .cell)then(n,NameKind.cell)else(n,k)).lookup n =
  (names.lookup n).map fun k=>if(k==NameKind.free&&out.kind==.function&&out.names.lookup n==some .cell)then NameKind.cell else k
 |[],n=>rfl
 |(n',k)::r,n=>by
  rw[List.map_cons,List.lookup_cons];have ih:=lH (out:=out) (names:=r) (n:=n);dsimp only;by_cases hc:(k==NameKind.free&&out.kind==.function&&out.names.lookup n'==some NameKind.cell)=true
  ·rw[if_pos hc,List.lookup_cons]
   cases q:n==n' with
   |true=>
    have:n=n':=by simpa using q
    subst this;dsimp only;rw[Option.map_some,if_pos hc]
   |false=>exact ih
  ·rw[if_neg hc,List.lookup_cons]
   cases q:n==n' with
   |true=>
    have:n=n':=by simpa using q
    subst this;dsimp only;rw[Option.map_some,if_neg hc]
   |false=>exact ih
theorem rP(ok:zl sc e.scope){C:Addr}(n:Str):(nC sc e C).kindOf n=(sc.names.lookup n).map fun k=>if k=.free then .cell else k:=by
 unfold Env.kindOf;refine(?_:(relabel sc e).names.lookup n=_);rw[xZ];unfold x6;rw[lH]
 cases q:sc.names.lookup n with
 |none=>rfl
 |some k=>
  simp only[Option.map_some,Option.some.injEq];by_cases hk:k=.free
  ·subst hk;rw[if_pos rfl,ok.free _ (mem_of_lookup q) rfl,ok.okind];rfl
  ·rw[if_neg hk];have:(k==NameKind.free)=false:=by simpa using hk
   rw[this];rfl
theorem nh{nm:List (Option Str)}{sc:Scope}{i:Nat}{n:Str}(hi:i<nm.length)(h:(pi nm sc)[i]?=some (some n)):nm[i]?=some (some n)∧sc.names.lookup n=some .free:=by
 unfold pi at h;rw[G7 (by simpa using hi),GZ]at h
 cases q:nm[i]? with
 |none=>rw[q]at h;exact ns h
 |some x=>
  rw[q]at h
  cases x with
  |none=>cases h
  |some m=>
   simp only[Option.map_some,FH]at h
   split at h
   ·rename_i hm;cases h;exact⟨rfl,hm⟩
   ·cases h
theorem B3{nm:List (Option Str)}{sc:Scope}{i:Nat}{n:Str}(h:nm[i]?=some (some n))(hf:sc.names.lookup n=some .free):(pi nm sc)[i]?=some (some n):=by
 have hi:i<nm.length:=(List.getElem?_eq_some_iff.mp h).1;unfold pi;rw[G7 (by simpa using hi),GZ,h]
 simp only[Option.map_some,FH,if_pos hf]
theorem xy{nm:List (Option Str)}{sc:Scope}{i:Nat}{n:Str}(ok:(sc.names.map (·.1)).Nodup)(hi:nm.length≤i)(h:(pi nm sc)[i]?=some (some n)):sc.names.lookup n=some .local∧(gZ sc)[i-nm.length]?=some n:=by
 unfold pi at h;rw[List.getElem?_append_right (by simpa using hi),GA,GZ]at h
 cases q:(gZ sc)[i-nm.length]? with
 |none=>rw[q]at h;exact ns h
 |some m=>
  rw[q]at h;cases h;refine⟨?_,rfl⟩;have hm:=GV q;unfold gZ at hm;refine e1b (List.mem_map.mp hm) fun x hx b6=>?_;subst b6;refine e0b (List.mem_filter.mp hx) fun h1 h2=>?_;simp only[GC,beq_iff_eq]at h2;exact ge ok (by rw[←h2.1];exact h1)
set_option tactic.hygienic true in
theorem Pre.enterComp(p:Pre H0 f e nm G st s)(ok:zl sc e.scope){C:Addr}(hC:s.heap.Ns C fun _=>none)(g1:G.g C=none)(g2:f C=none)(g3:G.ow C=none) :
  Pre H0 (inF (Fb.clo e sc.names []) G f s.heap) (nC sc e C) (pi nm sc) (inG (Fb.clo e sc.names []) G C) ⟨st.env++List.replicate (gZ sc).length none,st.σ⟩ s:=by
 have K:=p.clo ok;generalize a5:Fb.clo e sc.names []=cl at *;have a4:∀n c,cl.lookup n=some c→G.ow c=some (0,c+1)∧(∃v,s.heap.IsCell c v)∧c≠C:=fun n c h=>by
  have q:=p.fr.cells n c (K.mem n c h).2;exact⟨q.1,q.2,fun q'=>by subst q';rw[g3]at q;exact ns q.1⟩
 have a0:∀a,a∈cl.map (·.2)↔∃n,cl.lookup n=some a:=fun a=>by
  constructor
  ·intro h;refine e1b (List.mem_map.mp h) fun x hx b6=>?_;subst b6;exact⟨x.1,K.mem' x.1 x.2 hx⟩
  ·rintro⟨n,h⟩
   exact List.mem_map.mpr ⟨(n,a),mem_of_lookup h,rfl⟩
 have lf:∀a o,inF cl G f s.heap a=some o→s.heap.get? a=some o∧G.g a=none:=fun a o h=>by
  unfold inF at h
  split at h
  ·rename_i o' q;obtain rfl:=sj h;exact⟨p.inv.ff a _ q,p.inv.fg a _ q⟩
  ·split at h
   ·rename_i q
    split at h
    ·exact ns h
    ·exact⟨h,(p.inv.own a _ q).1⟩
   ·exact ns h
 have b5:∀a i j,G.ow a=some (i+1,j)→(inG cl G C).ow a=some (i+1,j):=fun a i j h=>by
  have:a≠C:=fun q=>by subst q;rw[g3]at h;exact ns h
  simp only[inG,if_neg this,h]
 refine⟨⟨p.inv.base,p.inv.gg,fun a o h=>(lf a o h).1,fun a o h=>(lf a o h).2,fun a x h=>?_,fun i o h=>?_,p.inv.dom⟩,⟨ok.kind,⟨_,hC,fun i n x h1 h2=>?_⟩,if_pos rfl,fun n c hc=>?_,?_,fun n hn=>?_,fun i j n h1 h2=>?_⟩,?_⟩
 ·simp only[inG]at h
  split at h
  ·rename_i q;subst q
   refine e3b hC fun o _ _ ho _=>?_;exact⟨g1,by simp only[inF,g2,g3],o,ho⟩
  ·split at h
   ·rename_i q
    split at h
    ·rename_i hm
     refine e0c (p.inv.own a _ q) fun h1 h2 h3=>?_;exact⟨h1,by simp only[inF,h2,q,if_pos hm],h3⟩
    ·exact ns h
   ·rename_i q
    refine e0c (p.inv.own a _ h) fun h1 h2 h3=>?_;refine⟨h1,?_,h3⟩;simp only[inF,h2]
 ·exact ny.mono (G:=G) (fun _ _ h=>h) (fun _ h=>h) (fun _ _=>rfl) (fun a j h=>⟨b5 _ _ _ h,fun _ h=>h⟩) (p.inv.obj i o h)
 ·dsimp only at h2;have hi:i<st.env.length:=by
   rcases G5 i st.env.length with q|q
   ·exact q
   ·rw[List.getElem?_append_right q]at h2;simp[List.getElem?_replicate]at h2
  rw[G7 hi]at h2;refine e0b (nh (by rw[←p.len];exact hi) h1) fun h3 h4=>?_
  refine .inr ⟨.inl (by rw[rP ok,h4];rfl),?_⟩
  refine e1a (Option.isSome_iff_exists.mp (K.has n h4)) fun c hc=>?_;refine e1b p.fr.loc fun m hm hl=>?_;rcases hl i n x h3 h2 with⟨z,_⟩|⟨z,c',v,q1,q2,q3⟩
  ·exfalso
   have:=ok.free _ (mem_of_lookup h4) rfl;unfold Env.kindOf at z;dsimp only at this;rw[this]at z;cases z
  ·rw[(K.mem n c hc).2]at q1;obtain rfl:=sj q1;exact⟨c,v,by refine(?_:List.lookup n (Fb.clo e sc.names [])=_);rw[a5];exact hc,q2,q3⟩
 ·have hc:cl.lookup n=some c:=by rw[←a5];exact hc
  refine e0c (a4 n c hc) fun q1 q2 q3=>?_;refine⟨?_,q2⟩;simp only[inG,if_neg q3,q1,if_pos ((a0 c).mpr ⟨n,hc⟩)]
 ·refine(?_:List.Pairwise _ (Fb.clo e sc.names []));rw[a5];exact K.apart
 ·rw[rP ok]at hn;refine(?_:((Fb.clo e sc.names []).lookup n).isSome=true);rw[a5]
  cases q:sc.names.lookup n with
  |none=>rw[q]at hn;exact ns hn
  |some k=>
   rw[q]at hn;simp only[Option.map_some,Option.some.injEq]at hn
   split at hn
   ·rename_i hk;subst hk;exact K.has n q
   ·subst hn;exact absurd rfl (ok.cell _ (mem_of_lookup q))
 ·have aw:(gZ sc).Nodup:=by unfold gZ;exact ok.nodup.sublist (List.filter_sublist.map _)
  rcases G5 i nm.length with hi|hi<;>rcases G5 j nm.length with hj|hj
  ·exact p.fr.inj i j n (nh hi h1).1 (nh hj h2).1
  ·have a:=(nh hi h1).2;have b:=(xy ok.nodup hj h2).1;rw[a]at b;cases b
  ·have a:=(nh hj h2).2;have b:=(xy ok.nodup hi h1).1;rw[a]at b;cases b
  ·have a:=(xy ok.nodup hi h1).2;have b:=(xy ok.nodup hj h2).2;refine e1a (List.getElem?_eq_some_iff.mp a) fun l1 e1=>?_;refine e1a (List.getElem?_eq_some_iff.mp b) fun l2 e2=>?_;have:=aw.idxOf_getElem _ l1;rw[e1]at this;have a3:=aw.idxOf_getElem _ l2;rw[e2]at a3;exact jl [] [_,_,_,_,_,_] ab ae [.f (-1) au aj,.f 1 au aB,.f (-1) (.a aj aM) ab,.f 1 (.a aB aM) ae] rfl this a3 (Go (hi)) (Go (hj))
 ·simp[pi,p.len]
set_option tactic.hygienic true in
theorem Pre.leaveComp(p:Pre H0 f e nm G st s)(ok:zl sc e.scope){C:Addr}(g3:G.ow C=none){G':Gh}{b3:St}{s':Shared}(le:(inG (Fb.clo e sc.names []) G C).Le G')
  (hen:∀i,i<st.env.length→b3.env[i]?=st.env[i]?)
  (p':Pre H0 (inF (Fb.clo e sc.names []) G f s.heap) (nC sc e C) (pi nm sc) G' b3 s') :
  ∃a4,G.Le a4∧Pre H0 f e nm a4 ⟨st.env,b3.σ⟩ s'∧a4.ow C=none∧a4.g=G'.g∧a4.k=G'.k∧(∀a,G'.ow a=none→inF (Fb.clo e sc.names []) G f s.heap a=none→a4.ow a=none):=by
 have K:=p.clo ok;generalize a5:Fb.clo e sc.names []=cl at *;generalize a3:inF cl G f s.heap=fl at *;have hC0:G'.ow C=some (0,0):=p'.fr.own;have ah:∀a o,fl a=some o→s.heap.get? a=some o∧G.g a=none:=fun a o h=>by
  rw[←a3]at h;unfold inF at h
  split at h
  ·rename_i o' q;obtain rfl:=sj h;exact⟨p.inv.ff a _ q,p.inv.fg a _ q⟩
  ·split at h
   ·rename_i q
    split at h
    ·exact ns h
    ·exact⟨h,(p.inv.own a _ q).1⟩
   ·exact ns h
 have b7:∀a o,f a=some o→fl a=some o:=fun a o h=>by rw[←a3];simp only[inF,h]
 have flf:∀a,fl a=none→f a=none:=fun a h=>by
  cases q:f a with
  |none=>rfl
  |some o=>rw[b7 a o q]at h;exact sn h
 have a0:∀a,a∈cl.map (·.2)→∃n,cl.lookup n=some a:=fun a h=>by
  refine e1b (List.mem_map.mp h) fun x hx b6=>?_;subst b6;exact⟨x.1,K.mem' x.1 x.2 hx⟩
 have ac:∀a j,G.ow a=some (0,j)→a∉cl.map (·.2)→(∃o,fl a=some o)∧∀o,s.heap.get? a=some o→s'.heap.get? a=some o:=fun a j h1 h2=>by
  refine e0c (p.inv.own a _ h1) fun q1 q2 zr=>e1a zr fun o q3=>?_;have:fl a=some o:=by rw[←a3];simp only[inF,q2,h1,if_neg h2];exact q3
  refine⟨⟨o,this⟩,fun o' e3=>?_⟩;rw[q3]at e3;obtain rfl:=sj e3;exact p'.inv.ff a _ this
 let a4:Gh:=⟨G'.g,G'.k,fun a=>if a=C then none else match fl a with|some _=>G.ow a|none=>G'.ow a⟩
 have dx:G.Le a4:=⟨le.g,le.id,le.inn⟩;have dr:∀a x,G.ow a=some x→a≠C:=fun a x h q=>by subst q;rw[g3]at h;exact ns h
 have aw:∀a,a∈cl.map (·.2)→fl a=none:=fun a h=>by
  refine e1a (a0 a h) fun n hn=>?_;have q:=p.fr.cells n a (K.mem n a hn).2;rw[←a3];simp only[inF,(p.inv.own a _ q.1).2.1,q.1,if_pos h]
 refine⟨a4,dx,⟨⟨p'.inv.base,p'.inv.gg,fun a o h=>p'.inv.ff a o (b7 a o h),fun a o h=>p'.inv.fg a o (b7 a o h),fun a x h=>?_,fun i o h=>?_,p'.inv.dom⟩,⟨p.fr.kind,?_,?_,fun n c hc=>?_,p.fr.apart,p.fr.cellsAll,p.fr.inj⟩,p.len⟩,if_pos rfl,rfl,rfl,fun a h1 h2=>?_⟩
 ·simp only[a4]at h
  split at h
  ·exact ns h
  ·split at h
   ·rename_i o q
    refine e0c (p.inv.own a x h) fun h1 h2 h3=>?_;exact⟨p'.inv.fg a o q,h2,o,p'.inv.ff a o q⟩
   ·rename_i q
    refine e0c (p'.inv.own a x h) fun h1 h2 h3=>?_;exact⟨h1,flf a q,h3⟩
 ·refine ny.mono (G:=G') (fun _ _ h=>h) (fun _ h=>h) (fun _ _=>rfl) (fun a j h=>⟨?_,fun _ h=>h⟩) (p'.inv.obj i o h);have h1:a≠C:=fun q=>by subst q;rw[hC0]at h;cases h
  simp only[a4,if_neg h1,(p'.inv.own a _ h).2.1,h]
 ·refine e1b p.fr.loc fun m hm hl=>?_;refine e1b p'.fr.loc fun m' b5 cf=>?_;have ar:e.locals∉cl.map (·.2):=fun q=>by
   refine e1a (a0 _ q) fun n hn=>?_;have:=(p.fr.cells n _ (K.mem n _ hn).2).1;rw[p.fr.own]at this;cases this
  refine⟨m,hm.at' (ac _ _ p.fr.own ar).2,fun i n x h1 h2=>?_⟩;rcases hl i n x h1 h2 with⟨z,v,z1,z2⟩|⟨z,c,v,h3,⟨o,h4,h5⟩,h6⟩
  ·exact .inl ⟨z,v,z1,z2.le dx⟩
  ·refine .inr ⟨z,?_⟩;by_cases hf:sc.names.lookup n=some .free
   ·have hi:i<st.env.length:=by rw[p.len];exact(List.getElem?_eq_some_iff.mp h1).1
    have h2':b3.env[i]?=some (some x):=by rw[hen i hi];exact h2
    rcases cf i n x (B3 h1 hf) h2' with⟨z',_⟩|⟨z',c',v',q1,q2,q3⟩
    ·rw[rP ok,hf]at z';cases z'
    ·have q1:cl.lookup n=some c':=by rw[←a5];exact q1
     exact⟨c',v',(K.mem n c' q1).2,q2,q3⟩
   ·have hcn:c∉cl.map (·.2):=fun q=>by
     refine e1a (a0 _ q) fun n' ag=>?_;have:=name_of_addr p.fr.apart (mem_of_lookup h3) (mem_of_lookup (K.mem n' c ag).2);subst this;exact hf (K.mem n c ag).1
    exact⟨c,v,h3,⟨o,(ac _ _ (p.fr.cells n c h3).1 hcn).2 _ h4,h5⟩,h6.le dx⟩
 ·have ar:e.locals∉cl.map (·.2):=fun q=>by
   refine e1a (a0 _ q) fun n hn=>?_;have:=(p.fr.cells n _ (K.mem n _ hn).2).1;rw[p.fr.own]at this;cases this
  refine e0b (ac _ _ p.fr.own ar) fun ct _=>?_;refine e1a ct fun o ho=>?_;simp only[a4,if_neg (dr _ _ p.fr.own),ho,p.fr.own]
 ·refine e0b (p.fr.cells n c hc) fun q1 zr=>e2b zr fun v o q2 q3=>?_;by_cases hm:c∈cl.map (·.2)
  ·refine e1a (a0 _ hm) fun n' ag=>?_;have b4:(nC sc e C).cells.lookup n'=some c:=by refine(?_:(Fb.clo e sc.names []).lookup n'=_);rw[a5];exact ag
   refine e0b (p'.fr.cells n' c b4) fun r1 r2=>?_;refine⟨?_,r2⟩;simp only[a4,if_neg (dr _ _ q1),aw c hm,r1]
  ·refine e0b (ac _ _ q1 hm) fun ct hk=>?_;refine e1a ct fun o' ho=>?_;refine⟨?_,v,o,hk _ q2,q3⟩;simp only[a4,if_neg (dr _ _ q1),ho,q1]
 ·simp only[a4]
  split
  ·rfl
  ·rw[h2];exact h1
end
end
section
section
variable {M:Model}{A:Around}{s:Shared}{env:Env}
def m7(M:Model)(A:Around)(b6:Option (Value→Sem Unit))(Q:Value→Shared→Prop)(acc:Value)(C:Addr)(s':Shared):Prop:=
 match b6 with
 |none=>∃m,s'.heap.Ns C m∧∀h',Heap.SameBut C s'.heap h'→Q acc {s' with heap:=h'}
 |some u=>wpN M A (u acc) (fun _ a3=>∃m,a3.heap.Ns C m∧∀h',Heap.SameBut C a3.heap h'→Q .none {a3 with heap:=h'}) s'
theorem rg{α:Type}{c:Prop}[Decidable c]{pos:Pos}{k:PUnit→Sem α}{Q:α→Shared→Prop}(h:wpN M A (k ()) Q s) :
  wpN M A (if c then(standAt pos>>=k)else k ()) Q s:=by
 split
 ·exact cC h
 ·exact h
theorem lm{e:PySem.Expr}{scope:Scope}{pos:Pos}{a4 first:Sem Value}{g:Comprehension}{gs:List Comprehension}{cl:List (Str×Addr)}{b6:Option (Value→Sem Unit)}
  {Q:Value→Shared→Prop}
  (a5:clausesOf e=g::gs) (hs:∀x,foldedSetIterable g.iter env x=pure x) (b4:closureFor scope env=pure cl)
  (aw:scope.kind=.function) (a0:∀x∈scope.names,x.2=.local→scope.names.lookup x.1=some .local)
  (h:wpN M A first (fun x s₁=>wpN M A (pyIter x) (fun it ar=>wpN M A a4 (fun acc d4=>
   wpN M A (newFunctionEnv scope env.globals cl [] env.qual none .none (some env)) (fun cenv d5=>
    eP M A (.compStart e 0 it acc {cenv with scope:=relabel scope env}) (fun _ s'=>m7 M A b6 Q acc cenv.locals s') d5) d4) ar) s₁) s) :
  wpN M A (comprehension e scope env pos a4 false first b6) Q s:=by
 unfold comprehension;rw[b4,a5];refine cy (cE h fun x s₁ ag=>cC ?_);dsimp only;rw[hs x];refine cy (wpN_pure (cy (cB (cE ag fun it ar ac=>rg (cy (cE ac fun acc d4 b3=>cy (wpN_pure (cy (cE b3 fun cenv d5 b7=>?_)))))))));have hv:∀x∈(scope.names.filter fun x=>(x.2==.local||x.2==.cell)&&x.1 != (".0" : Str)).reverse,x.2=.local→
   Env.kindOf {cenv with scope:=relabel scope env} x.1=some .local:=fun x hx hl=>lookup_relabel_local (a0 x (List.mem_filter.mp (List.mem_reverse.mp hx)).1 hl)
 have bb:∀x∈(scope.names.filter fun x=>(x.2==.local||x.2==.cell)&&x.1 != (".0" : Str)).reverse.drop 1++(scope.names.filter fun x=>(x.2==.local||x.2==.cell)&&x.1 != (".0" : Str)).reverse.take 1,
   x.2=.local→Env.kindOf {cenv with scope:=relabel scope env} x.1=some .local:=fun x hx hl=>by
  clear h a0 b4 hs a5 gs g first pos b3 d4 ac ar ag s₁;rcases List.mem_append.mp hx with h1|h1
  ·exact hv x (List.mem_of_mem_drop h1) hl
  ·exact hv x (List.mem_of_mem_take h1) hl
 refine cB (cy (ri (cB (uD (dJ (by rw[qn];exact b7) fun fl s' hr=>?_) (by intro x;cases x)))))
 clear h a0 b4 hs a5 gs g first pos b7 d5 b3 d4;cases b6 with
 |none=>
  refine e1b hr fun m hn hr=>?_;exact cy (cB (cA (wpAny_comp_letGo (cenv:={cenv with scope:=relabel scope env}) aw _ s' m hv hn fun h' m' _ ah=>wpN_pure (hr h' ah))))
 |some u=>
  refine cH (wpAny_rule (cy (cB (cE hr fun _ a3 b5=>?_))));refine e1b b5 fun m hn b5=>?_;exact cH (wpAny_comp_letGo (cenv:={cenv with scope:=relabel scope env}) aw _ a3 m bb hn fun h' m' _ ah=>wpN_pure (b5 h' ah))
end
section
variable {prog:Program}{wd:World}{A:Around}{H0:Heap}{e:Env}{nm:List (Option Str)}{Pk:Pg}{f:Gm}{G:Gh}{st:St}{s:Shared}
theorem na{elt target iter:PySem.Expr}{ifs:List PySem.Expr}{scope:Scope}{pos:Pos}{it acc:Value}{env:Env}{R:Flow→Shared→Prop}
  (h0:eP (model prog wd) A (.compLoop (.ListComp elt [⟨target,iter,ifs,0⟩] scope pos) 0 it acc env) R s)
  (h:wpN (model prog wd) A (pyIter it) (fun a0 s'=>eP (model prog wd) A (.compLoop (.ListComp elt [⟨target,iter,ifs,0⟩] scope pos) 0 a0 acc env) R s') s) :
  eP (model prog wd) A (.compStart (.ListComp elt [⟨target,iter,ifs,0⟩] scope pos) 0 it acc env) R s:=by
 refine cT rfl ?_;refine(?_:wpN _ _ ((compStart (.ListComp elt [⟨target,iter,ifs,0⟩] scope pos) 0 it acc env).onRaise (fun x=>do noteFrame x env;standAt theWindowsPlace)) _ s)
 refine dD ?_;unfold compStart;refine(?_:wpN _ _ (ask>>=_) _ s);refine cH (wpAny_askSetting ?_)
 split
 ·first
   |exact cy (wpN_pure (wpN_pure (GK rfl h0)))
   |exact wpN_pure (GK rfl h0)
 ·first
   |exact cH (wpAny_rule (cC (cy (cE h fun a0 s' h'=>wpN_pure (GK rfl h')))))
   |(refine cH (wpAny_rule ?_);refine(?_:wpN _ _ (standAt iter.pos>>=_) _ s);exact cC (cy (cE h fun a0 s' h'=>wpN_pure (GK rfl h'))))
noncomputable def nH(t:T)(k:Nat):Bool:=match t with|.var i=>k≤i|.tup is=>is.all (k≤·)
theorem lE{k:Nat}{is:List Nat}{xs:List V}{env a0:List (Option V)}(ha:is.all (k≤·)=true)(h:ke is xs env=some a0)(i:Nat)(hi:i<k):a0[i]?=env[i]?:=by
 induction is generalizing xs env with
 |nil=>cases xs with
  |nil=>exact sj h▸rfl
  |cons _ _=>exact ns h
 |cons j is ih=>cases xs with
  |nil=>exact ns h
  |cons x xs=>
   simp only[List.all_cons,GC,decide_eq_true_eq]at ha;rw[ih ha.2 h];exact GU (Nat.ne_of_gt (Gp hi (Gz ha)))
set_option tactic.hygienic true in
theorem wY{t:T}{v:V}{k:Nat}{Q:St→Prop}(hk:nH t k=true)(h:y4 t v st Q):y4 t v st fun a4=>(∀i,i<k→a4.env[i]?=st.env[i]?)∧Q a4:=by
 cases t with
 |var i=>
  have hk:k≤i:=by simpa[nH]using hk
  exact⟨fun j hj=>GU (by exact Nat.ne_of_gt (Gp hj hk)),h⟩
 |tup is=>
  refine(Co h).elim (fun z=>e1b z fun l e h=>e1b (dH h) fun env he hq=>?_) fun z=>e1b z fun l e h=>e1b (dH h) fun env he hq=>?_
  ·clear z h;subst e;exact qd he ⟨lE hk (by rw[←mE];exact he),hq⟩
  ·clear z h;subst e;exact qd he ⟨lE hk he,hq⟩
theorem Pre.forget(p:Pre H0 f e nm G st s){env:List (Option V)}(hl:env.length=st.env.length)(he:∀(i:Nat) (x:V),env[i]?=some (some x)→st.env[i]?=some (some x)):Pre H0 f e nm G ⟨env,st.σ⟩ s:=
 ⟨p.inv,⟨p.fr.kind,e1b p.fr.loc fun m hm hx=>⟨m,hm,fun i n x h1 h2=>hx i n x h1 (he i x h2)⟩,p.fr.own,p.fr.cells,p.fr.apart,p.fr.cellsAll,p.fr.inj⟩,hl.trans p.len⟩
theorem ww(v:V)(σ:List O):pk [v] σ=([(po v σ).1],(po v σ).2):=rfl
theorem nO{t elt iter:PySem.Expr}{ifs:List PySem.Expr}{sc:Scope}{pos:Pos}{tt:T}{ce cc:C}{chk:St→Prop}{src:Gh→Heap→Prop}{IS:List P→Obj→Prop}{it ac:Addr}{k:Nat}{env0:List (Option V)}{σ0:Nat}
  (hA:A.handled=none) (K:ItK prog wd A src IS it) (TT:Tgt e nm t tt) (hk:nH tt k=true) (ea:∀i,k≤i→∀x,env0[i]?≠some (some x))
  (HE:EJ H0 (model prog wd) A e nm (eval elt e) (w Pk ce))
  (HT:TJ H0 (model prog wd) A e nm (forIn ifs true fun c r=>if r=true then do let ok ←isTrue c e (eval c e);pure (ForInStep.yield ok)else pure (ForInStep.yield r)) (wt Pk cc))
  (hf:f it=none) (e5:f ac=none) (bb:it≠ac) (Gs:Gh)
  (c0:∀(f':Gm) (G:Gh) (st:St) (s:Shared),Pre H0 f' e nm G st s→Gs.LeN σ0 G→chk st→src G s.heap) (R:Flow→Shared→Prop) (Q:List P→St→Prop)
  (hR:∀(G':Gh) (s':Shared) (σ':List O) (ps:List P),gi s s'→G.Le G'→σ0≤σ'.length→Pre H0 f e nm G' ⟨env0,σ'⟩ s'→G'.g ac=none→G'.ow ac=none→lj G'.g s'.heap ac (.lst ps)→Q ps ⟨env0,σ'⟩→R .next s') :
  ∀(xs:List P) (a0:Gh) (b4:Shared) (σ:List O) (o:Obj) (ps:List P),gi s b4→G.Le a0→Pre H0 f e nm a0 ⟨env0,σ⟩ b4→Gs.LeN σ0 a0→σ0≤σ.length→b4.heap.get? it=some o→IS xs o→a0.g it=none→a0.ow it=none→
   a0.g ac=none→a0.ow ac=none→lj a0.g b4.heap ac (.lst ps)→ps.length+xs.length≤16777216→qK chk (oU tt (wt Pk cc) (w Pk ce)) xs ps ⟨env0,σ⟩ Q→
   eP (model prog wd) A (.compLoop (.ListComp elt [⟨t,iter,ifs,0⟩] sc pos) 0 (.ref it) (.ref ac) e) R b4:=by
 intro xs
 induction xs with
 |nil=>
  intro a0 b4 σ o ps sm le p c4 hn ho hI hg hw ag aw hb b7 h;refine cT rfl ?_;refine(?_:wpN _ A ((compTurn (.ListComp elt [⟨t,iter,ifs,0⟩] sc pos) 0 (.ref it) (.ref ac) e).onRaise _) _ b4);refine dD ?_;rw[compTurn_list];refine cC (cy (K.stop a0 b4 o (c0 f a0 _ b4 p c4 h.1) ho hI _ fun h' hs=>?_));have ah:=p.unseen (t:=b4.toks) hs hf hg hw;refine wpN_pure (hR a0 _ σ ps (sm.trans ⟨rfl,rfl,rfl⟩) le hn ah ag aw ?_ h.2);refine e2b hb fun vs n h1 h2=>?_;exact⟨vs,n,hs ac _ bb.symm h1,h2⟩
 |cons x xs ih=>
  intro a0 b4 σ o ps sm le p c4 hn ho hI hg hw ag aw hb b7 h;refine cT rfl ?_;refine(?_:wpN _ A ((compTurn (.ListComp elt [⟨t,iter,ifs,0⟩] sc pos) 0 (.ref it) (.ref ac) e).onRaise _) _ b4);refine dD ?_;rw[compTurn_list];refine cC (cy (K.next a0 b4 x xs o (c0 f a0 _ b4 p c4 h.1) ho hI _ fun h' v o' tk hv e3 ek hs=>?_));have ah:=p.unseen (t:=tk) hs.extBut hf hg hw;refine e2c (K.noOwn xs o' ek) fun T fs g1 g2 g3=>?_;refine e2b hb fun vs n e0 dh=>?_;dsimp only;refine cy (sX (s:={b4 with heap:=h',toks:=tk}) e3 g1 g2 g3 ?_);have hac:h'.get? ac=some (nA vs n):=hs.extBut ac _ bb.symm e0;have b5:=(ah.addF (o:=o') e3 hg hw).addF (it:=ac) (o:=nA vs n) hac ag aw;have ep:Fb.addF f it o' ac=none:=(if_neg bb.symm).trans e5;have h2:oU tt (wt Pk cc) (w Pk ce) x ⟨env0,σ⟩ (fun ys st=>qK chk (oU tt (wt Pk cc) (w Pk ce)) xs (ps++ys) st Q):=h.2;unfold oU at h2;refine cy (cE (su hA TT b5 (v:=.p x) hv (wY hk h2)) fun _ d4 f3=>?_);refine e1e f3 fun d2 cf ar d3 eo df=>?_;refine cy (zx (HT _ a0 d4 d2 _ d3 df) fun b d5 e6 dx dv b3 e7 dd ey=>?_);refine e0b ey fun em dr=>?_;have agree:∀{env:List (Option V)},env=d2.env→∀i y,env0[i]?=some (some y)→env[i]?=some (some y):=fun{env} he i y hy=>by
   have hi:i<k:=by
    rcases G5 i k with q|q
    ·exact q
    ·exact(ea i q y hy).elim
   rw[he,eo i hi];exact hy
  have len0:env0.length=d2.env.length:=p.len.trans d3.len.symm;have a5:gi b4 d4:=(show gi b4 {b4 with heap:=h',toks:=tk}from⟨rfl,rfl,rfl⟩).trans cf
  have go:∀(c3:Gh) (c1:Shared) (b6:St) (ct:List P),gi b4 c1→a0.Le c3→d2.σ.length≤b6.σ.length→b6.env=d2.env→Pre H0 f e nm c3 b6 c1→c1.heap.get? it=some o'→c3.g it=none→c3.ow it=none→
    c3.g ac=none→c3.ow ac=none→lj c3.g c1.heap ac (.lst ct)→ct.length≤ps.length+1→qK chk (oU tt (wt Pk cc) (w Pk ce)) xs ct ⟨env0,b6.σ⟩ Q→
    eP (model prog wd) A (.compLoop (.ListComp elt [⟨t,iter,ifs,0⟩] sc pos) 0 (.ref it) (.ref ac) e) R c1:=fun c3 c1 b6 ct e8 c2 e9 d1 dt i1 i2 i3 a1 a2 a3 a4 ck=>
   ih c3 c1 b6.σ o' ct (sm.trans e8) (le.trans c2) (dt.forget (by rw[d1];exact len0) (agree d1)) (c4.trans (c2.toN _)) (Gp hn (by rw[ar]at e9;exact e9)) i1 ek i2 i3 a1 a2 a3 (by simp only[GR]at b7;exact cG [] [_,_,_] bg aq 1 [.j 1 (.a aj be) aq,.j 1 ab bf] rfl b7 a4) ck
  clear h hb aw ag hw hg hI ho hn c4 le sm o hR;cases b with
  |false=>
   refine e0d (dd.dropF ep) fun dt a1 a2 a3=>?_;refine e0d (dt.dropF hf) fun ee i1 i2 i3=>?_;exact wpN_pure ⟨rfl,go e6 d5 dx ps (a5.trans dv) b3 e7 em ee i1 i2 i3 a2 a3 ⟨vs,n,a1,dh.mono b3.g⟩ (by exact cG [] [_] ab bc 1 [] rfl) (by have q:qK chk (oU tt (wt Pk cc) (w Pk ce)) xs (ps++[]) ⟨env0,dx.σ⟩ Q:=dr.f rfl;rw[List.append_nil]at q;exact q)⟩
  |true=>
   refine cy (cy (fD (HE _ e6 d5 dx _ dd (dr.t rfl)) fun u c1 c3 b6 y e8 c2 e9 dt eb et=>?_));refine e0b et fun d1 ck=>?_;rw[ww]at ck;dsimp only at ck;refine e1d (dt.frz eb) fun g0 e4 fi ee eh=>?_
   split at ck
   ·rename_i qs hqs
    cases hz:(po y b6.σ).1 with
    |p z=>
     rw[hz]at hqs eh;clear p;obtain rfl:=sj hqs;refine e0d (ee.dropF ep) fun fh a1 a2 a3=>?_;refine e0d (fh.dropF hf) fun fb i1 i2 i3=>?_;have bh:=dh.length;refine cH (lL a1 (by rw[bh,GJ];simp only[GR]at b7;exact cG [] [_,_] bc aq 1 [.j 1 cp aq] rfl b7) fun h'' k'' e1 e2=>?_)
     refine wpN_pure (wpN_pure ⟨rfl,?_⟩);have f5:=fb.unseen (t:=c1.toks) e2.extBut e5 a2 a3;exact go g0 _ ⟨b6.env,(po y b6.σ).2⟩ (ps++[z]) ((a5.trans (dv.trans e8)).trans ⟨rfl,rfl,rfl⟩) (b3.trans (c2.trans e4)) (Gp e7 (Gp e9 fi)) (d1.trans em) f5 (e2.extBut it _ bb i1) i2 i3 a2 a3
      ⟨vs++[u],k'',e1,(dh.mono (b3.trans (c2.trans e4)).g).append ⟨u,[],rfl,eh,rfl⟩⟩ (by simp) ck
    |_=>rw[hz]at hqs;exact ns hqs
   ·exact ck.elim
end
end
section
section
variable {prog:Program}{wd:World}{A:Around}{H0:Heap}{e:Env}{nm:List (Option Str)}{Pk:Pg}{f:Gm}{G:Gh}{st:St}{s:Shared}
variable {t elt iter:PySem.Expr}{ifs:List PySem.Expr}{sc:Scope}{pos ipos:Pos}{tt:T}{ce cc ci:C}{ik:It}
noncomputable abbrev iw(ifs:List PySem.Expr)(e:Env):Sem Bool:=forIn ifs true fun c r=>if r=true then do let ok ←isTrue c e (eval c e);pure (ForInStep.yield ok)else pure (ForInStep.yield r)
theorem qI{b6:Option (Value→Sem Unit)}{R:Value→Shared→Prop}{Q:List V→St→Prop}(hA:A.handled=none)(ok:zl sc e.scope)(a3:eE iter=true)
  (hI:IJ H0 prog wd A e nm (eval iter e) (w Pk ci) ik) (TT:∀C,Tgt (nC sc e C) (pi nm sc) t tt) (hk:nH tt nm.length=true)
  (HE:∀C,EJ H0 (model prog wd) A (nC sc e C) (pi nm sc) (eval elt (nC sc e C)) (w Pk ce))
  (HT:∀C,TJ H0 (model prog wd) A (nC sc e C) (pi nm sc) (iw ifs (nC sc e C)) (wt Pk cc))
  (p:Pre H0 f e nm G st s) (h:w Pk (.comp false ce tt (gZ sc).length ik ci cc) st Q)
  (hR:∀(D C:Addr) (s':Shared) (G':Gh) (b3:St) (ps:List P),gi s s'→G.Le G'→st.σ.length≤b3.σ.length→Pre H0 f e nm G' b3 s'→G'.g C=none→f C=none→G'.ow C=none→(∃m,s'.heap.Ns C m)→
   PRel G'.g (.lst ps) (.ref D)→Q [.p (.lst ps)] b3→m7 (model prog wd) A b6 R (.ref D) C s') :
  wpN (model prog wd) A (comprehension (.ListComp elt [⟨t,iter,ifs,0⟩] sc pos) sc e ipos (newList []) false (eval iter e) b6) R s:=by
 have K:=p.clo ok;have b4:closureFor sc e=pure (clo e sc.names []):=by
  have:=lz (e:=e) (names:=sc.names) (acc:=[]) K.avail;exact congrArg (fun z:Sem (List (Str×Addr))=>z>>=fun cs=>pure cs) this
 refine lm (g:=⟨t,iter,ifs,0⟩) (gs:=[]) rfl (fun x=>lN a3) b4 ok.kind (fun x hx hl=>ge ok.nodup (by rw[←hl];exact hx)) ?_
 refine cE (hI f G s st _ p h fun vs st h=>ol h fun _ _ _=>trivial) fun a s₁ ag=>F5 ag fun ar G₁ a0 vs it a5 a4 n₁ ah rd ac=>?_;refine e0b rd fun ct hr=>?_;refine e0c ct fun g1 g2 g3=>?_;obtain⟨l,chk,src,IS,o,⟨⟨_,c0⟩,b7⟩,ho,hi,KK,bh⟩:=hr _ ac;unfold uc at b7;refine cA (wpAny_newObj_type ?_);refine cA (wpAny_newFunctionEnv ok.cell (by intro y hy;simp at hy) (fun ag e1 cf=>?_) ok.kind)
 dsimp only at e1 cf ⊢;generalize hH2:ar.heap.push {cls:=.type "list",dict:=none,data:=.seq ([]:List Value).toArray}=H2 at e1 cf ⊢;have hC:H2.objs.size=ar.heap.objs.size+1:=by rw[←hH2,Heap.size_push]
 have hDC:ar.heap.objs.size≠H2.objs.size:=by rw[hC];exact Nat.ne_of_lt (Nat.lt_succ_self _)
 have old:∀b o,ar.heap.get? b=some o→ag.get? b=some o:=fun b o e=>cf.extBut b o (by rw[hC];exact Nat.ne_of_lt (Nat.lt_succ_of_lt (GT e))) (Gy _ (hH2▸Gy _ e))
 have aw:ag.get? ar.heap.objs.size=some (nA [] 0):=cf.extBut _ _ hDC (Gy _ (hH2▸GG _ rfl));refine e0c (ah.fresh (Gw _)) fun d1 d2 d3=>?_;refine e0c (ah.fresh (a:=H2.objs.size) (by rw[hC];exact Nat.le_succ _)) fun c1 c2 c3=>?_
 generalize ck:({ar with heap:=ag,toks:=ar.toks+([]:List (Str×Value)).length}:Shared)=d5;have dv:gi ar d5:=by subst ck;exact⟨rfl,rfl,rfl⟩
 have b5:d5.heap=ag:=by subst ck;rfl
 have dd:Pre H0 f e nm G₁ a0 d5:=ah.keeps fun b o h=>by rw[b5];exact old b o h
 have hit:d5.heap.get? it=some o:=by rw[b5];exact old _ _ ho
 have bb:it≠ar.heap.objs.size:=Nat.ne_of_lt (GT ho);have df:∀a,f a=none→G₁.ow a=none→inF (clo e sc.names []) G₁ f d5.heap a=none:=fun a h1 h2=>by simp only[inF,h1,h2]
 have dt:=dd.enterComp (sc:=sc) ok (C:=H2.objs.size) (by rw[b5];exact e1) c1 c2 c3
 have dr:∀a,a<H2.objs.size→G₁.ow a=none→(inG (clo e sc.names []) G₁ H2.objs.size).ow a=none:=fun a h1 h2=>by
  simp only[inG,if_neg (Nat.ne_of_lt h1),h2]
 have lt1:it<H2.objs.size:=by rw[hC];exact Nat.lt_succ_of_lt (GT ho)
 have lt2:ar.heap.objs.size<H2.objs.size:=by rw[hC];exact Nat.lt_succ_self _
 have loop:eP (model prog wd) A (.compLoop (.ListComp elt [⟨t,iter,ifs,0⟩] sc pos) 0 (.ref it) (.ref ar.heap.objs.size) (nC sc e H2.objs.size)) (fun _ s'=>m7 (model prog wd) A b6 R (.ref ar.heap.objs.size) H2.objs.size s') d5:=by
  refine nO (f:=inF (clo e sc.names []) G₁ f d5.heap) (G:=inG (clo e sc.names []) G₁ H2.objs.size) (s:=d5) (chk:=chk) (src:=src) (IS:=IS) (k:=nm.length) (env0:=a0.env++List.replicate (gZ sc).length none) (σ0:=a0.σ.length) hA KK (TT _) hk ?_ (HE _) (HT _) (df _ g1 g3) (df _ d2 d3) bb G₁
   (fun f' G' b3 s' p' c4 hc=>bh G' _ _ f' b3 s' p' c4 hc) _ _ ?_ l _ d5 a0.σ o [] (.refl _) (.refl _) dt ⟨fun _ _ h=>h,fun _ _ _ h=>h,fun _ _ _ _ _ h=>h⟩ (Gw _) hit hi g2 (dr _ lt1 g3) d1 (dr _ lt2 d3) ⟨[],0,by rw[b5];exact aw,rfl⟩ (by simpa using c0) b7
  ·intro i hi x hx;rw[List.getElem?_append_right (by rw[ah.len];exact hi)]at hx
   simp[List.getElem?_replicate]at hx
  ·intro G' s' σ' ps sm' le' n' p' a1 a2 ⟨us,k,e0,dh⟩ q';refine e1e (p'.freeze e0 a2 (df _ d2 d3)) fun G2 dx p2 hg2 d4 how2=>?_;refine e1f (dd.leaveComp ok c3 (le'.trans dx) (fun i hi=>G7 hi) p2) fun G3 le3 p3 ow3 e2 hk3 _=>?_;refine e1b p2.fr.loc fun m hm _=>?_;refine hR _ _ s' G3 ⟨a0.env,σ'⟩ ps ((a5.trans dv).trans sm') (a4.trans le3) (Gp n₁ n') p3 ?_ c2 ow3 ⟨m,hm⟩ ?_ q'
   ·rw[e2];exact(p2.inv.own _ _ p2.fr.own).1
   ·exact⟨_,_,us,k,rfl,by rw[e2];exact hg2,rfl,by rw[e2];exact dh.mono dx.g⟩
 exact na loop (KK.again d5 l o hit hi _ loop)
theorem BF{own:Bool}{m:Nat}(hA:A.handled=none)(ok:zl sc e.scope)(a3:eE iter=true)(hm:m=(gZ sc).length)
  (hI:IJ H0 prog wd A e nm (eval iter e) (w Pk ci) ik) (TT:∀C,Tgt (nC sc e C) (pi nm sc) t tt) (hk:nH tt nm.length=true)
  (HE:∀C,EJ H0 (model prog wd) A (nC sc e C) (pi nm sc) (eval elt (nC sc e C)) (w Pk ce))
  (HT:∀C,TJ H0 (model prog wd) A (nC sc e C) (pi nm sc) (iw ifs (nC sc e C)) (wt Pk cc)) :
  EJ H0 (model prog wd) A e nm (eval (.ListComp elt [⟨t,iter,ifs,0⟩] sc pos) e) (w Pk (.comp false ce tt m ik ci cc)):=fun f G s st Q p h=>by
 subst hm;refine(?_:wpN _ _ (comprehension (.ListComp elt [⟨t,iter,ifs,0⟩] sc pos) sc e _ (newList []) false (eval iter e) none) _ _);refine qI hA ok a3 hI TT hk HE HT p h fun D C s' G' b3 ps sm le n' p' c1 c2 c3 zp hv q=>e1a zp fun m hm=>⟨m,hm,fun h' hs=>?_⟩;exact⟨G',b3,_,sm.trans ⟨rfl,rfl,rfl⟩,le,n',p'.unseen (t:=s'.toks) hs.extBut c2 c1 c3,vp hv,q⟩
theorem tK{n:Str}{p2:Pos}{i m:Nat}{a0:Pos}(bh:swapsWith (.ListComp elt [⟨t,iter,ifs,0⟩] sc pos) (some (.Name n p2)) a0.line e=pure true)(hn:Cg e nm n i)
  (hA:A.handled=none) (ok:zl sc e.scope) (a3:eE iter=true) (hm:m=(gZ sc).length)
  (hI:IJ H0 prog wd A e nm (eval iter e) (w Pk ci) ik) (TT:∀C,Tgt (nC sc e C) (pi nm sc) t tt) (hk:nH tt nm.length=true)
  (HE:∀C,EJ H0 (model prog wd) A (nC sc e C) (pi nm sc) (eval elt (nC sc e C)) (w Pk ce))
  (HT:∀C,TJ H0 (model prog wd) A (nC sc e C) (pi nm sc) (iw ifs (nC sc e C)) (wt Pk cc)) :
  SJ H0 (model prog wd) A e nm (exec (.Assign [.Name n p2] (.ListComp elt [⟨t,iter,ifs,0⟩] sc pos) a0) e) (wS Pk (.asg (.var i) (.comp false ce tt m ik ci cc))):=fun f G s st Q mm p hmm h=>by
 subst hm;refine dc (exec_Assign_Name_used _ _ _ _ bh) ?_;refine cC (cy ?_);refine(?_:wpN _ A (do let _ ←comprehension (.ListComp elt [⟨t,iter,ifs,0⟩] sc pos) sc e _ (newList []) false (eval iter e) (some (assign (.Name n p2) e))) _ _)
 refine cy (cE (Q:=fun _ s'=>eU H0 f e nm G s mm Q .next s') ?_ fun _ s' hq=>wpN_pure (wpN_pure hq));refine qI hA ok a3 hI TT hk HE HT p h fun D C s' G' b3 ps sm le n' p' c1 c2 c3 zp hv q=>e1a zp fun m hm=>?_;refine e3d (id hm) fun o es ep ho hd em a5=>?_;refine(?_:wpN _ _ (assign (.Name n p2) e (.ref D)) _ _);rw[arm_assign_Name];refine cC (cA (wpAny_bindName ((p'.addF (o:=o) ho c1 c3).store hn.1 hn.2 (x:=.p (.lst ps)) hv fun ar aw b5=>?_)));refine e0d (b5.dropF c2) fun d3 a4 ac b6=>?_;refine⟨m,⟨o,es,ep,a4,hd,em,a5⟩,fun h' hs=>?_⟩;exact eU.step (s₁:={ar with heap:=h'}) ((sm.trans aw).trans ⟨rfl,rfl,rfl⟩) (le.toN _) (.now (d3.unseen (t:=ar.toks) hs.extBut c2 ac b6) (Gp hmm n') (fl:=.next) rfl q)
theorem uK:TJ H0 (model prog wd) A e nm (iw [] e) (wt Pk (.lit (.bool true))):=fun f G s st Q p h=>wpN_pure (.now p h)
theorem uJ{c:PySem.Expr}{cc:C}(h:TJ H0 (model prog wd) A e nm (isTrue c e (eval c e)) (wt Pk cc)):TJ H0 (model prog wd) A e nm (iw [c] e) (wt Pk cc):=fun f G s st Q p q=>by
 unfold iw;simp only[List.forIn_cons,List.forIn_nil,if_true];exact cy (cy (cE (h f G s st Q p q) fun b s' hb=>wpN_pure (wpN_pure hb)))
end
end
section
section
variable {prog:Program}{wd:World}{A:Around}{H0:Heap}{e:Env}{nm:List (Option Str)}{Pk:Pg}{f:Gm}{G:Gh}{st:St}{s:Shared}
theorem yL{pos:Pos}(hsm:∃b o,sysModules≤b∧H0.get? b=some o):EJ H0 (model prog wd) A e nm (eval (.Dict [] [] pos) e) (w Pk .dict0):=fun f G s st Q p h=>by
 refine dc (eval_Dict_empty ..) ?_;refine cC ?_;refine(?_:wpN _ _ (newObj (.type "dict") (.dict #[])) _ _);refine cA (wpAny_newObj_type ?_);refine e0c (p.fresh (Gw _)) fun f1 f2 f3=>?_;have ah:Pre H0 f e nm G st {s with heap:=s.heap.push {cls:=.type "dict",data:=.dict #[]}}:=p.keeps fun b o h=>Gy _ h;have a0:(s.heap.objs.size==sysModules)=false:=by
  refine e2b hsm fun b o hb ho=>?_;have:=GT (p.h0 _ _ ho);simp only[beq_eq_false_iff_ne];exact fun q=>Nat.lt_irrefl _ (Nat.lt_of_le_of_lt hb (q▸this))
 have hb:lj G.g (s.heap.push {cls:=.type "dict",data:=.dict #[]}) s.heap.objs.size (.dict []):=by
  refine⟨a0,_,GG _ rfl, .inl ⟨[],fun prog w=>⟨#[],0,⟨rfl,rfl,rfl⟩,rfl,?_, .nil,List.nodup_nil⟩,rfl⟩⟩;intro e he;simp at he
 refine e1d (ah.adopt (b:=.dict []) (a:=s.heap.objs.size) hb f1 f2 f3) fun G' le b5 i' g'=>?_;exact⟨G',_, .ref st.σ.length,⟨rfl,rfl,rfl⟩,le,by simp,b5,⟨_,i',rfl⟩,h⟩
noncomputable def Cc(sc out:Scope):Bool:=sc.kind==.function&&out.kind==.function&&decide ((sc.names.map (·.1)).Nodup)&&sc.names.all fun x=>x.2 != .cell&&(x.2 != .free||out.names.lookup x.1==some .cell)
theorem u9{sc out:Scope}(h:Cc sc out=true):zl sc out:=by
 unfold Cc at h;simp only[GC,beq_iff_eq,decide_eq_true_eq,List.all_eq_true,Bool.or_eq_true,bne_iff_ne]at h;obtain⟨⟨⟨h1,h2⟩,h3⟩,h4⟩:=h;exact⟨h1,h2,h3,fun x hx=>(h4 x hx).1,fun x hx hk=>(h4 x hx).2.resolve_left (fun q=>q hk)⟩
noncomputable def Eu(out sc:Scope)(n:Str)(l1 l2:Nat):Bool:=out.names.lookup n==some .local&&l1==l2&&!(sc.names.any fun x=>x.1==n&&(x.2==.local||x.2==.cell))
theorem uM{t:PySem.Expr}{elt iter:PySem.Expr}{ifs:List PySem.Expr}{sc:Scope}{pos p2:Pos}{n:Str}{k:Nat}(hk:e.scope.kind=.function)(h:Eu e.scope sc n p2.line pos.line=true) :
  swapsWith (.ListComp elt [⟨t,iter,ifs,0⟩] sc pos) (some (.Name n p2)) k e=pure true:=by
 unfold Eu at h;simp only[GC,beq_iff_eq]at h;refine e0b h fun ct h3=>?_;refine e0b ct fun h1 h2=>?_;have hb:e.blockKind=.function:=by unfold Env.blockKind;rw[hk];rfl
 have h1':e.kindOf n=some .local:=h1;refine(?_:(pure (e.blockKind==.function&&e.kindOf n==some .local&&p2.line==pos.line&&!(sc.names.any fun x=>x.1==n&&(x.2==.local||x.2==.cell))):Sem Bool)=pure true);rw[hb,h1',h2,h3];simp
end
end
section
structure Tb where
 glb:List (Str×P)
 at_:List (Str×AI)
 me:List (Str×MI)
structure Cx where
 sc:Scope
 nm:List (Option Str)
 own:List Str
noncomputable def Cx.inner(cx:Cx)(sc:Scope):Cx:=⟨x6 sc cx.sc,pi cx.nm sc,[]⟩
inductive J where
 |e (md:Bool) (x:PySem.Expr) (c:C)|t (x:PySem.Expr) (c:C)|l (xs:List PySem.Expr) (c:C)|o (x:Option PySem.Expr) (c:C)|it (x:PySem.Expr) (ik:It) (c:C)
 |q (xs:List PySem.Expr) (c:C)|tgt (x:PySem.Expr) (t:T)|tgts (xs:List PySem.Expr) (is:List Nat)
 |s (x:Stmt) (c:S)|ss (xs:List Stmt) (c:S)
noncomputable def zs:C→Bool|.var _|.attr _ _|.meth _ _ _|.call _ _=>true|_=>false
noncomputable def mP(x:PySem.Expr):Bool:=!(Nat.beq x.ctorIdx 0||Nat.beq x.ctorIdx 3||Nat.beq x.ctorIdx 5||Nat.beq x.ctorIdx 15)
noncomputable def dbg(n:Str):Bool:=n==("__debug__" : Str)||n==("__classdict__" : Str)
structure Ek(H0:Heap)(prog:Program)(wd:World)(tb:Tb):Prop where
 glb:∀n x,tb.glb.lookup n=some x→q9 H0 n x
 get:∀n i,tb.at_.lookup n=some i→xm H0 prog wd n i
 set:∀n i,tb.at_.lookup n=some i→B5 H0 prog wd n i
 me:∀n m,tb.me.lookup n=some m→oJ H0 prog wd n m
def Gi(H0:Heap)(prog:Program)(wd:World)(A:Around)(e:Env)(nm:List (Option Str))(Pk:Pg):J→Prop
 |.e _ x c=>EJ H0 (model prog wd) A e nm (eval x e) (w Pk c)
 |.t x c=>TJ H0 (model prog wd) A e nm (isTrue x e (eval x e)) (wt Pk c)
 |.l xs c=>∀pos,LJ H0 (model prog wd) A e nm (spliced (backTo pos (starEach xs e))) (w Pk c)
 |.o x c=>EJ H0 (model prog wd) A e nm (valueOrNone (evalOpt x e)) (w Pk c)
 |.it x ik c=>IJ H0 prog wd A e nm (eval x e) (w Pk c) ik
 |.q xs c=>TJ H0 (model prog wd) A e nm (iw xs e) (wt Pk c)
 |.tgt x t=>Tgt e nm x t
 |.tgts xs is=>zi e nm xs is
 |.s x c=>SJ H0 (model prog wd) A e nm (exec x e) (wS Pk c)
 |.ss xs c=>SJ H0 (model prog wd) A e nm (execs xs e) (wS Pk c)
structure Wd(H0:Heap)(prog:Program)(wd:World)(A:Around)(Pk:Pg)(n:Nat)(cx:Cx)(tb:Tb)(e:Env):Prop where
 hP:xg H0 prog wd n Pk
 hF:uw H0 Pk
 gd:nS n A
 hsm:∃b o,sysModules≤b∧H0.get? b=some o
 T:Ek H0 prog wd tb
 hsc:e.scope=cx.sc
 hk:cx.sc.kind=.function
 hgl:e.globals=mainGlobals
 hbi:e.builtins=builtinsNs
def Cq(cx:Cx)(tb:Tb)(j:J):Prop:=∀H0 prog wd A Pk n e,Wd H0 prog wd A Pk n cx tb e→Gi H0 prog wd A e cx.nm Pk j
section
variable {H0:Heap}{prog:Program}{wd:World}{A:Around}{Pk:Pg}{n:Nat}{cx:Cx}{tb:Tb}{e:Env}
theorem Wd.kof(W:Wd H0 prog wd A Pk n cx tb e)(n:Str):e.kindOf n=cx.sc.names.lookup n:=by unfold Env.kindOf;rw[W.hsc]
theorem Wd.st(W:Wd H0 prog wd A Pk n cx tb e){n:Str}{i:Nat}(h1:cx.nm[i]?=some (some n))(h2:cx.sc.names.lookup n=some .local∨cx.sc.names.lookup n=some .cell):Cg e cx.nm n i:=⟨h1,by rw[W.kof];exact h2⟩
theorem Wd.hu(W:Wd H0 prog wd A Pk n cx tb e):A.units+80<cLine:=by have:=W.gd.units;have:cLine=9900:=rfl;exact cG [] [_,_] (.a (.a ab (.n 80)) ai) aT 1 [.j 1 (.a ab (.m 8 ae)) aZ] rfl (by assumption)
theorem Wd.inner(W:Wd H0 prog wd A Pk n cx tb e){sc:Scope}(ok:zl sc cx.sc)(C:Addr):Wd H0 prog wd A Pk n (cx.inner sc) tb (nC sc e C):=
 ⟨W.hP,W.hF,W.gd,W.hsm,W.T,by rw[show(nC sc e C).scope=x6 sc e.scope from rfl,W.hsc];rfl,ok.kind,W.hgl,W.hbi⟩
theorem EC{n:Str}(h:dbg n=false):(n==("__debug__" : Str))=false:=(Bool.or_eq_false_iff.mp h).1
theorem Ge{n:Str}(h:dbg n=false):(n==("__classdict__" : Str))=false:=(Bool.or_eq_false_iff.mp h).2
end
theorem iq{op:CmpOp}{r:PySem.Expr}(h:eE r=true):behindInMarks op r=false:=by cases r<;>first|rfl|exact ft h
theorem Aq{x:PySem.Expr}{e:Env}(h:mP x=true):isTrue x e (eval x e)=(do let v ←eval x e;standAt x.pos;holding [v] (truthy v)):=by
 cases x<;>first|rfl|exact ft h
theorem Cq.cNone{cx tb md k pos}:Cq cx tb (.e md (.Constant .none k pos) (.lit .none)):=fun H0 prog wd A Pk n e W=>oo (.inl ⟨rfl,rfl⟩)
theorem Cq.cBool{cx tb md k pos b}:Cq cx tb (.e md (.Constant (.bool b) k pos) (.lit (.bool b))):=fun H0 prog wd A Pk n e W=>oo (.inr (.inl ⟨_,rfl,rfl⟩))
theorem Cq.cInt{cx tb md k pos b}:Cq cx tb (.e md (.Constant (.int b) k pos) (.lit (.int b))):=fun H0 prog wd A Pk n e W=>oo (.inr (.inr (.inl ⟨_,rfl,rfl⟩)))
theorem Cq.cStr{cx tb md k pos b}:Cq cx tb (.e md (.Constant (.str b) k pos) (.lit (.str b))):=fun H0 prog wd A Pk n e W=>oo (.inr (.inr (.inr (.inl ⟨_,rfl,rfl⟩))))
theorem Cq.cBytes{cx tb md k pos b}:Cq cx tb (.e md (.Constant (.bytes b) k pos) (.lit (.bytes b))):=fun H0 prog wd A Pk n e W=>oo (.inr (.inr (.inr (.inr ⟨_,rfl,rfl⟩))))
theorem Cq.var{cx tb md n pos i}(h:cx.nm[i]?=some (some n))(hi:cx.nm.idxOf (some n)=i)(hd:dbg n=false):Cq cx tb (.e md (.Name n pos) (.var i)):=fun H0 prog wd A Pk n e W=>DA h (EC hd) (Ge hd)
theorem Cq.glob{cx tb md n pos x}(h:cx.sc.names.lookup n=some .globalImplicit)(hx:tb.glb.lookup n=some x)(hd:dbg n=false):Cq cx tb (.e md (.Name n pos) (.glob x)):=fun H0 prog wd A Pk n e W=>rW (by rw[W.kof];exact h) W.hgl W.hbi (EC hd) (W.T.glb _ _ hx)
theorem Cq.repl{cx tb md x p2 op r pos cl cr}(ho:op=.Mult)(j1:Cq cx tb (.e false (.List x p2) cl))(j2:Cq cx tb (.e false r cr)):Cq cx tb (.e md (.BinOp (.List x p2) op r pos) (.repl md cl cr)):=fun H0 prog wd A Pk n e W=>ho▸BC (x:=.Name "" default) (p2:=default) (j1 _ _ _ _ _ _ _ W) (j2 _ _ _ _ _ _ _ W)
theorem Cq.bin{cx tb md l op r pos cl cr}(j1:Cq cx tb (.e false l cl))(j2:Cq cx tb (.e false r cr)):Cq cx tb (.e md (.BinOp l op r pos) (.bin op cl cr)):=fun H0 prog wd A Pk n e W=>DJ (j1 _ _ _ _ _ _ _ W) (j2 _ _ _ _ _ _ _ W)
theorem Cq.neg{cx tb md l pos cl}(j1:Cq cx tb (.e false l cl)):Cq cx tb (.e md (.UnaryOp .USub l pos) (.un .USub cl)):=fun H0 prog wd A Pk n e W=>DB (.inl rfl) (j1 _ _ _ _ _ _ _ W)
theorem Cq.inv{cx tb md l pos cl}(j1:Cq cx tb (.e false l cl)):Cq cx tb (.e md (.UnaryOp .Invert l pos) (.un .Invert cl)):=fun H0 prog wd A Pk n e W=>DB (.inr rfl) (j1 _ _ _ _ _ _ _ W)
theorem Cq.not{cx tb md l pos cl}(j1:Cq cx tb (.e false l cl)):Cq cx tb (.e md (.UnaryOp .Not l pos) (.not cl)):=fun H0 prog wd A Pk n e W=>DE (j1 _ _ _ _ _ _ _ W)
theorem Cq.and{cx tb md l r pos cl cr}(j1:Cq cx tb (.e false l cl))(j2:Cq cx tb (.e false r cr)):Cq cx tb (.e md (.BoolOp .And [l,r] pos) (.and cl cr)):=fun H0 prog wd A Pk n e W=>DK (j1 _ _ _ _ _ _ _ W) (j2 _ _ _ _ _ _ _ W)
theorem Cq.or{cx tb md l r pos cl cr}(j1:Cq cx tb (.e false l cl))(j2:Cq cx tb (.e false r cr)):Cq cx tb (.e md (.BoolOp .Or [l,r] pos) (.or cl cr)):=fun H0 prog wd A Pk n e W=>FF (j1 _ _ _ _ _ _ _ W) (j2 _ _ _ _ _ _ _ W)
theorem Cq.cmp{cx tb md l op r pos cl cr}(hs:eE r=true)(j1:Cq cx tb (.e false l cl))(j2:Cq cx tb (.e false r cr)):Cq cx tb (.e md (.Compare l [op] [r] pos) (.cmp op cl cr)):=fun H0 prog wd A Pk n e W=>DI W.hu (iq hs) (j1 _ _ _ _ _ _ _ W) (j2 _ _ _ _ _ _ _ W)
theorem Cq.chain{cx tb md l o1 o2 r t pos cl cr ct}(hs:eE r=true)(ah:eE t=true)(j1:Cq cx tb (.e false l cl))(j2:Cq cx tb (.e false r cr))(j3:Cq cx tb (.e false t ct)):Cq cx tb (.e md (.Compare l [o1,o2] [r,t] pos) (.chain o1 o2 cl cr ct)):=fun H0 prog wd A Pk n e W=>yM W.hu (iq hs) (iq ah) (j1 _ _ _ _ _ _ _ W) (j2 _ _ _ _ _ _ _ W) (j3 _ _ _ _ _ _ _ W)
theorem Cq.ite{cx tb md t l r pos ct cl cr}(j1:Cq cx tb (.t t ct))(j2:Cq cx tb (.e false l cl))(j3:Cq cx tb (.e false r cr)):Cq cx tb (.e md (.IfExp t l r pos) (.ite ct cl cr)):=fun H0 prog wd A Pk n e W=>DG (j1 _ _ _ _ _ _ _ W) (j2 _ _ _ _ _ _ _ W) (j3 _ _ _ _ _ _ _ W)
theorem Cq.attr{cx tb md o n pos co i}(hi:tb.at_.lookup n=some i)(hs:eV o=true)(j1:Cq cx tb (.e false o co)):Cq cx tb (.e md (.Attribute o n pos) (.attr co i)):=fun H0 prog wd A Pk n e W=>BH (W.T.get _ _ hi) hs (j1 _ _ _ _ _ _ _ W)
theorem Cq.slc{cx tb md l lo hi sp p2 pos cl clo chi csp}(j1:Cq cx tb (.e false l cl))(j2:Cq cx tb (.o lo clo))(j3:Cq cx tb (.o hi chi))(j4:Cq cx tb (.o sp csp)):Cq cx tb (.e md (.Subscript l (.Slice lo hi sp p2) pos) (.slc cl clo chi csp)):=fun H0 prog wd A Pk n e W=>DD (j1 _ _ _ _ _ _ _ W) (j2 _ _ _ _ _ _ _ W) (j3 _ _ _ _ _ _ _ W) (j4 _ _ _ _ _ _ _ W)
theorem Cq.idx{cx tb md l r pos cl cr}(hs:jI r=true)(j1:Cq cx tb (.e false l cl))(j2:Cq cx tb (.e false r cr)):Cq cx tb (.e md (.Subscript l r pos) (.idx cl cr)):=fun H0 prog wd A Pk n e W=>DH W.hu hs (j1 _ _ _ _ _ _ _ W) (j2 _ _ _ _ _ _ _ W)
theorem Cq.tup{cx tb md es k pos c}(j1:Cq cx tb (.l es c)):Cq cx tb (.e md (.Tuple es k pos) (.tup c)):=fun H0 prog wd A Pk n e W=>DC ((j1 _ _ _ _ _ _ _ W) _)
theorem Cq.lst{cx tb md es pos c}(j1:Cq cx tb (.l es c)):Cq cx tb (.e md (.List es pos) (.lst md c)):=fun H0 prog wd A Pk n e W=>DF ((j1 _ _ _ _ _ _ _ W) _)
theorem Cq.call{cx tb md n p2 args pos cf ca}(hp:dj args=true)(j1:Cq cx tb (.e false (.Name n p2) cf))(j2:Cq cx tb (.l args ca)):Cq cx tb (.e md (.Call (.Name n p2) args [] pos) (.call cf ca)):=fun H0 prog wd A Pk n e W=>BG W.hP W.gd hp (j1 _ _ _ _ _ _ _ W) ((j2 _ _ _ _ _ _ _ W) _)
theorem Cq.meth{cx tb md o n apos args pos co m ca}(hm:tb.me.lookup n=some m)(hs:eV o=true)(hp:dj args=true)(hl:decide (args.length<29)=true)(hn:(apos.endLine==pos.line)=true)(j1:Cq cx tb (.e false o co))(j2:Cq cx tb (.l args ca)):Cq cx tb (.e md (.Call (.Attribute o n apos) args [] pos) (.meth co m ca)):=fun H0 prog wd A Pk n e W=>BE W.hP W.hF W.gd (W.T.me _ _ hm) hs hp hl hn (j1 _ _ _ _ _ _ _ W) ((j2 _ _ _ _ _ _ _ W) _)
theorem Cq.methK{cx tb md o n apos args pos co m ca kn k kp ck}(hm:tb.me.lookup n=some m)(hs:eV o=true)(hp:dj args=true)(hl:decide (args.length<28)=true)(hn:(apos.endLine==pos.line)=true)(j1:Cq cx tb (.e false o co))(j2:Cq cx tb (.l args ca))(j3:Cq cx tb (.e false k ck)):Cq cx tb (.e md (.Call (.Attribute o n apos) args [⟨some kn,k,kp⟩] pos) (.methK co m ca kn ck)):=fun H0 prog wd A Pk n e W=>yK W.hP W.hF W.gd (W.T.me _ _ hm) hs hp hl hn (j1 _ _ _ _ _ _ _ W) ((j2 _ _ _ _ _ _ _ W) _) (j3 _ _ _ _ _ _ _ W)
theorem Cq.dict0{cx tb md pos}:Cq cx tb (.e md (.Dict [] [] pos) .dict0):=fun H0 prog wd A Pk n e W=>yL W.hsm
theorem Cq.methS{cx tb md o n apos args pos co m ca}(hm:tb.me.lookup n=some m)(b7:m.bd=true)(hs:eV o=true)(dr:l8 args=true)(j1:Cq cx tb (.e false o co))(j2:Cq cx tb (.l args ca)):Cq cx tb (.e md (.Call (.Attribute o n apos) args [] pos) (.methS co m ca)):=fun H0 prog wd A Pk n e W=>yJ W.hP W.gd (W.T.me _ _ hm) b7 hs dr (j1 _ _ _ _ _ _ _ W) (j2 _ _ _ _ _ _ _ W _)
theorem Cq.comp{cx tb md elt t it ifs a sc pos ce tt m ik ci cc}(ha:a=0)(a4:Cc sc cx.sc=true)(a3:eE it=true)(hm:m=(gZ sc).length)(hk:nH tt cx.nm.length=true)(j1:Cq cx tb (.it it ik ci))(j2:Cq (cx.inner sc) tb (.tgt t tt))(j3:Cq (cx.inner sc) tb (.e false elt ce))(j4:Cq (cx.inner sc) tb (.q ifs cc)):Cq cx tb (.e md (.ListComp elt [⟨t,it,ifs,a⟩] sc pos) (.comp false ce tt m ik ci cc)):=fun H0 prog wd A Pk n e W=>by
 subst ha;have ok:=u9 a4;exact BF (own:=false) W.gd.handled (by rw[W.hsc];exact ok) a3 hm (j1 _ _ _ _ _ _ _ W) (fun C=>j2 _ _ _ _ _ _ _ (W.inner ok C)) hk
  (fun C=>j3 _ _ _ _ _ _ _ (W.inner ok C)) (fun C=>j4 _ _ _ _ _ _ _ (W.inner ok C))
theorem Cq.qNil{cx tb}:Cq cx tb (.q [] (.lit (.bool true))):=fun H0 prog wd A Pk n e W=>uK
theorem Cq.qOne{cx tb x c}(j1:Cq cx tb (.t x c)):Cq cx tb (.q [x] c):=fun H0 prog wd A Pk n e W=>uJ (j1 _ _ _ _ _ _ _ W)
theorem Cq.tTrue{cx tb k pos b}:Cq cx tb (.t (.Constant (.bool b) k pos) (.lit (.bool b))):=fun H0 prog wd A Pk n e W=>An
theorem Cq.tNot{cx tb op l pos c}(ho:op=.Not)(j1:Cq cx tb (.t l c)):Cq cx tb (.t (.UnaryOp op l pos) (.not c)):=fun H0 prog wd A Pk n e W=>ho▸Cy (j1 _ _ _ _ _ _ _ W)
theorem Cq.tAnd{cx tb l r pos cl cr}(j1:Cq cx tb (.t l cl))(j2:Cq cx tb (.t r cr)):Cq cx tb (.t (.BoolOp .And [l,r] pos) (.and cl cr)):=fun H0 prog wd A Pk n e W=>CB (j1 _ _ _ _ _ _ _ W) (j2 _ _ _ _ _ _ _ W)
theorem Cq.tOr{cx tb l r pos cl cr}(j1:Cq cx tb (.t l cl))(j2:Cq cx tb (.t r cr)):Cq cx tb (.t (.BoolOp .Or [l,r] pos) (.or cl cr)):=fun H0 prog wd A Pk n e W=>EO (j1 _ _ _ _ _ _ _ W) (j2 _ _ _ _ _ _ _ W)
theorem Cq.tIte{cx tb t l r pos ct cl cr}(j1:Cq cx tb (.t t ct))(j2:Cq cx tb (.t l cl))(j3:Cq cx tb (.t r cr)):Cq cx tb (.t (.IfExp t l r pos) (.ite ct cl cr)):=fun H0 prog wd A Pk n e W=>Cz (j1 _ _ _ _ _ _ _ W) (j2 _ _ _ _ _ _ _ W) (j3 _ _ _ _ _ _ _ W)
theorem Cq.tCmp{cx tb l op r pos cl cr}(hs:eE r=true)(j1:Cq cx tb (.e false l cl))(j2:Cq cx tb (.e false r cr)):Cq cx tb (.t (.Compare l [op] [r] pos) (.cmp op cl cr)):=fun H0 prog wd A Pk n e W=>CA W.hu (iq hs) (j1 _ _ _ _ _ _ _ W) (j2 _ _ _ _ _ _ _ W)
theorem Cq.tChain{cx tb l o1 o2 r t pos cl cr ct}(hs:eE r=true)(ah:eE t=true)(j1:Cq cx tb (.e false l cl))(j2:Cq cx tb (.e false r cr))(j3:Cq cx tb (.e false t ct)):Cq cx tb (.t (.Compare l [o1,o2] [r,t] pos) (.chain o1 o2 cl cr ct)):=fun H0 prog wd A Pk n e W=>xz W.hu (iq hs) (iq ah) (j1 _ _ _ _ _ _ _ W) (j2 _ _ _ _ _ _ _ W) (j3 _ _ _ _ _ _ _ W)
theorem Cq.tVal{cx tb x c}(hp:mP x=true)(j1:Cq cx tb (.e false x c))(hv:zs c=true):Cq cx tb (.t x c):=fun H0 prog wd A Pk n e W=>by
 refine sG (Aq hp) (fun st Q h=>?_) (j1 _ _ _ _ _ _ _ W);clear j1 hp W e n A wd prog H0;cases c<;>first|exact h|exact ft hv
theorem Cq.nil{cx tb}:Cq cx tb (.l [] .nil):=fun H0 prog wd A Pk n e W=>fun _=>C8
theorem Cq.cons{cx tb x xs c cs}(hs:eB x=false)(j1:Cq cx tb (.e false x c))(j2:Cq cx tb (.l xs cs)):Cq cx tb (.l (x::xs) (.cons c cs)):=fun H0 prog wd A Pk n e W=>fun pos=>A8 (rr hs) (j1 _ _ _ _ _ _ _ W) ((j2 _ _ _ _ _ _ _ W) pos)
theorem Cq.star{cx tb x ps xs c cs}(j1:Cq cx tb (.e false x c))(j2:Cq cx tb (.l xs cs)):Cq cx tb (.l (.Starred x ps::xs) (.cons (.star c) cs)):=fun H0 prog wd A Pk n e W=>fun pos=>A7 (j1 _ _ _ _ _ _ _ W) (j2 _ _ _ _ _ _ _ W pos)
theorem Cq.oNone{cx tb}:Cq cx tb (.o none (.lit .none)):=fun H0 prog wd A Pk n e W=>fun f G s st Q p h=>wpN_pure (.now (Q:=fun x st=>Q [x] st) p (vp (x:=.none) rfl) h)
theorem Cq.oSome{cx tb x c}(j1:Cq cx tb (.e false x c)):Cq cx tb (.o (some x) c):=fun H0 prog wd A Pk n e W=>(j1 _ _ _ _ _ _ _ W)
theorem Cq.iRng{cx tb n p2 args pos c}(h:cx.sc.names.lookup n=some .globalImplicit)(hx:tb.glb.lookup n=some (.fn .range))(hd:dbg n=false)(hp:dj args=true)(j1:Cq cx tb (.l args c)):Cq cx tb (.it (.Call (.Name n p2) args [] pos) .rng c):=fun H0 prog wd A Pk n e W=>Dk W.gd.handled (by rw[W.kof];exact h) W.hgl W.hbi (EC hd) (W.T.glb _ _ hx) hp ((j1 _ _ _ _ _ _ _ W) _)
theorem Cq.iRev{cx tb n p2 a pos c}(h:cx.sc.names.lookup n=some .globalImplicit)(hx:tb.glb.lookup n=some (.fn .reversed))(hd:dbg n=false)(hp:dj [a]=true)(j1:Cq cx tb (.l [a] c)):Cq cx tb (.it (.Call (.Name n p2) [a] [] pos) .rev c):=fun H0 prog wd A Pk n e W=>Dl W.gd.handled (by rw[W.kof];exact h) W.hgl W.hbi (EC hd) (W.T.glb _ _ hx) hp ((j1 _ _ _ _ _ _ _ W) _)
theorem Cq.iLst{cx tb x c}(j1:Cq cx tb (.e false x c)):Cq cx tb (.it x .lst c):=fun H0 prog wd A Pk n e W=>Dm W.gd.handled (j1 _ _ _ _ _ _ _ W)
theorem Cq.gName{cx tb n pos i}(h:cx.nm[i]?=some (some n))(hi:cx.nm.idxOf (some n)=i)(hk:cx.sc.names.lookup n=some .local∨cx.sc.names.lookup n=some .cell):Cq cx tb (.tgt (.Name n pos) (.var i)):=fun H0 prog wd A Pk n e W=>.name (W.st h hk)
theorem Cq.gTup{cx tb es is k pos}(j1:Cq cx tb (.tgts es is)):Cq cx tb (.tgt (.Tuple es k pos) (.tup is)):=fun H0 prog wd A Pk n e W=>.tup (j1 _ _ _ _ _ _ _ W)
theorem Cq.gNil{cx tb}:Cq cx tb (.tgts [] []):=fun H0 prog wd A Pk n e W=>.nil
theorem Cq.gCons{cx tb n pos i es is}(h:cx.nm[i]?=some (some n))(hi:cx.nm.idxOf (some n)=i)(hk:cx.sc.names.lookup n=some .local∨cx.sc.names.lookup n=some .cell)(j1:Cq cx tb (.tgts es is)):Cq cx tb (.tgts (.Name n pos::es) (i::is)):=fun H0 prog wd A Pk n e W=>.cons (W.st h hk) (j1 _ _ _ _ _ _ _ W)
theorem Cq.sNil{cx tb}:Cq cx tb (.ss [] .skip):=fun H0 prog wd A Pk n e W=>Ay
theorem Cq.sCons{cx tb x xs c cs}(j1:Cq cx tb (.s x c))(j2:Cq cx tb (.ss xs cs)):Cq cx tb (.ss (x::xs) (.seq c cs)):=fun H0 prog wd A Pk n e W=>CI (j1 _ _ _ _ _ _ _ W) (j2 _ _ _ _ _ _ _ W)
theorem Cq.sExpr{cx tb l pos c}(hc:fS l=false)(j1:Cq cx tb (.e false l c)):Cq cx tb (.s (.Expr l pos) (.expr c)):=fun H0 prog wd A Pk n e W=>AE hc (by rw[W.hsc];exact W.hk) (j1 _ _ _ _ _ _ _ W)
theorem Cq.sPass{cx tb pos}:Cq cx tb (.s (.Pass pos) .skip):=fun H0 prog wd A Pk n e W=>AD
theorem Cq.sBrk{cx tb pos}:Cq cx tb (.s (.Break pos) .brk):=fun H0 prog wd A Pk n e W=>CL
theorem Cq.sCont{cx tb pos}:Cq cx tb (.s (.Continue pos) .cont):=fun H0 prog wd A Pk n e W=>AF
theorem Cq.sRaise{cx tb e c pos}:Cq cx tb (.s (.Raise e c pos) .raise):=fun H0 prog wd A Pk n e W=>xP
theorem Cq.sRet{cx tb l pos c}(j1:Cq cx tb (.e false l c)):Cq cx tb (.s (.Return (some l) pos) (.ret c)):=fun H0 prog wd A Pk n e W=>CJ (j1 _ _ _ _ _ _ _ W)
theorem Cq.sRet0{cx tb pos}:Cq cx tb (.s (.Return none pos) (.ret (.lit .none))):=fun H0 prog wd A Pk n e W=>AC
theorem Cq.sAsgN{cx tb n p2 l pos i c}(hc:fS l=false)  (j1:Cq cx tb (.tgt (.Name n p2) (.var i)))(j2:Cq cx tb (.e (cx.own.contains n) l c)):Cq cx tb (.s (.Assign [.Name n p2] l pos) (.asg (.var i) c)):=fun H0 prog wd A Pk n e W=>by
 cases (j1 _ _ _ _ _ _ _ W)with|name hs=>exact AH hc hs (j2 _ _ _ _ _ _ _ W)
theorem Cq.sAsgT{cx tb es k p2 l pos is c}(hc:fS l=false)(ht:tU l=false)(j1:Cq cx tb (.tgts es is))(j2:Cq cx tb (.e false l c)):Cq cx tb (.s (.Assign [.Tuple es k p2] l pos) (.asg (.tup is) c)):=fun H0 prog wd A Pk n e W=>AG W.gd.handled hc ht (j1 _ _ _ _ _ _ _ W) (j2 _ _ _ _ _ _ _ W)
theorem Cq.sAsgC{cx tb n p2 elt t it ifs a sc pos a0 i ce tt m ik ci cc}(ha:a=0)(bh:Eu cx.sc sc n p2.line pos.line=true)(a4:Cc sc cx.sc=true)(a3:eE it=true)(hm:m=(gZ sc).length)(hk:nH tt cx.nm.length=true)(j0:Cq cx tb (.tgt (.Name n p2) (.var i)))(j1:Cq cx tb (.it it ik ci))(j2:Cq (cx.inner sc) tb (.tgt t tt))(j3:Cq (cx.inner sc) tb (.e false elt ce))(j4:Cq (cx.inner sc) tb (.q ifs cc)):Cq cx tb (.s (.Assign [.Name n p2] (.ListComp elt [⟨t,it,ifs,a⟩] sc pos) a0) (.asg (.var i) (.comp false ce tt m ik ci cc))):=fun H0 prog wd A Pk n e W=>by
 subst ha;have ok:=u9 a4;clear a4;cases j0 _ _ _ _ _ _ _ W with
 |name hs=>
  exact tK (uM (by rw[W.hsc];exact W.hk) (by rw[W.hsc];exact bh)) hs W.gd.handled (by rw[W.hsc];exact ok) a3 hm (j1 _ _ _ _ _ _ _ W) (fun C=>j2 _ _ _ _ _ _ _ (W.inner ok C)) hk
   (fun C=>j3 _ _ _ _ _ _ _ (W.inner ok C)) (fun C=>j4 _ _ _ _ _ _ _ (W.inner ok C))
theorem Cq.sAug{cx tb n p2 op l pos i c}(b3:(op==.Add||op==.Sub||op==.Mult||op==.BitAnd)=true)(hd:dbg n=false)  (j1:Cq cx tb (.tgt (.Name n p2) (.var i)))(j2:Cq cx tb (.e false l c)):Cq cx tb (.s (.AugAssign (.Name n p2) op l pos) (.aug i op c)):=fun H0 prog wd A Pk n e W=>by
 cases (j1 _ _ _ _ _ _ _ W)with
 |name hs=>exact CM (by clear j1;cases op<;>first|(exact .inl rfl)|(exact .inr (.inl rfl))|(exact .inr (.inr (.inl rfl)))|(exact .inr (.inr (.inr rfl)))|exact ft b3) hs (Ge hd) (j2 _ _ _ _ _ _ _ W)
theorem Cq.sSetA{cx tb o n p2 l pos co i c}(hc:fS l=false)(ht:tU l=false)(hi:tb.at_.lookup n=some i)(j1:Cq cx tb (.e false o co))(j2:Cq cx tb (.e true l c)):Cq cx tb (.s (.Assign [.Attribute o n p2] l pos) (.setA co i c)):=fun H0 prog wd A Pk n e W=>AB (W.T.set _ _ hi) hc ht (j2 _ _ _ _ _ _ _ W) (j1 _ _ _ _ _ _ _ W)
theorem Cq.sSetS{cx tb o lo hi p3 p2 l pos co clo chi c}(hc:fS l=false)(j1:Cq cx tb (.e false o co))(j2:Cq cx tb (.o lo clo))(j3:Cq cx tb (.o hi chi))(j4:Cq cx tb (.e false l c)):Cq cx tb (.s (.Assign [.Subscript o (.Slice lo hi none p3) p2] l pos) (.setS co clo chi c)):=fun H0 prog wd A Pk n e W=>Az hc W.gd.guards (j4 _ _ _ _ _ _ _ W) (j1 _ _ _ _ _ _ _ W) (j2 _ _ _ _ _ _ _ W) (j3 _ _ _ _ _ _ _ W)
theorem Cq.sSetI{cx tb o i p2 l pos co ci c}(hc:fS l=false)(hs:jI i=true)(j1:Cq cx tb (.e false o co))(j2:Cq cx tb (.e false i ci))(j3:Cq cx tb (.e false l c)):Cq cx tb (.s (.Assign [.Subscript o i p2] l pos) (.setI co ci c)):=fun H0 prog wd A Pk n e W=>AA W.hu hc (j3 _ _ _ _ _ _ _ W) (j1 _ _ _ _ _ _ _ W) (j2 _ _ _ _ _ _ _ W)
theorem Cq.sIf{cx tb t a b pos ct sa sb}(j1:Cq cx tb (.t t ct))(j2:Cq cx tb (.ss a sa))(j3:Cq cx tb (.ss b sb)):Cq cx tb (.s (.If t a b pos) (.ite ct sa sb)):=fun H0 prog wd A Pk n e W=>EU (j1 _ _ _ _ _ _ _ W) (j2 _ _ _ _ _ _ _ W) (j3 _ _ _ _ _ _ _ W)
theorem Cq.sWhl{cx tb t a pos ct sa}(j1:Cq cx tb (.t t ct))(j2:Cq cx tb (.ss a sa)):Cq cx tb (.s (.While t a [] pos) (.whl ct sa)):=fun H0 prog wd A Pk n e W=>xO (j1 _ _ _ _ _ _ _ W) (j2 _ _ _ _ _ _ _ W)
theorem Cq.sFor{cx tb t it a pos tt ik ci sa}(hs:eE it=true)(j1:Cq cx tb (.tgt t tt))(j2:Cq cx tb (.it it ik ci))(j3:Cq cx tb (.ss a sa)):Cq cx tb (.s (.For t it a [] pos) (.forIn tt ik ci sa)):=fun H0 prog wd A Pk n e W=>CK W.gd.handled hs (j1 _ _ _ _ _ _ _ W) (j2 _ _ _ _ _ _ _ W) (j3 _ _ _ _ _ _ _ W)
theorem Cq.sAssert{cx tb t m pos ct}(j1:Cq cx tb (.t t ct)):Cq cx tb (.s (.Assert t m pos) (.assert ct)):=fun H0 prog wd A Pk n e W=>u4 (j1 _ _ _ _ _ _ _ W)
theorem ES{H0:Heap}{prog:Program}{wd:World}{A:Around}{e:Env}{cx:Cx}{tb:Tb}{Pk:Pg}{n:Nat}(hP:xg H0 prog wd n Pk)(hF:uw H0 Pk)(gd:nS n A)(hsm:∃b o,sysModules≤b∧H0.get? b=some o)(T:Ek H0 prog wd tb)
  (hsc:e.scope=cx.sc) (hk:cx.sc.kind=.function) (hgl:e.globals=mainGlobals) (hbi:e.builtins=builtinsNs) {j:J} (h:Cq cx tb j):Gi H0 prog wd A e cx.nm Pk j:=h _ _ _ _ _ _ _ ⟨hP,hF,gd,hsm,T,hsc,hk,hgl,hbi⟩
end
section
open PySem PySem.W PySem.Calls PyProof.Rows Builtin Builtin.ObjectAttr Builtin.Getset_descriptor
section
variable {prog:Program}{wd:World}{A:Around}{H0:Heap}{K:Frag}{s:Shared}
theorem mV{h:Heap}{a c dx:Addr}{sl:Array (Option Value)}(h1:h.get? a=some (kL c dx sl))(h2:h.get? dx=some emptyDict):InstAt h a (kL c dx sl) c (some emptyDict):=⟨h1,rfl,rfl,h2⟩
noncomputable def zC{α:Type}(o:Option α)(k:α→Bool):Bool:=match o with|some x=>k x|none=>false
theorem ki{α:Type}{o:Option α}{k:α→Bool}(h:zC o k=true):∃x,o=some x∧k x=true:=by
 cases o with
 |none=>exact ft h
 |some x=>exact⟨x,rfl,h⟩
noncomputable def CZ(v:Value)(k:Addr→Bool):Bool:=match v with|.ref a=>k a|_=>false
theorem o5{v:Value}{k:Addr→Bool}(h:CZ v k=true):∃a,v=.ref a∧k a=true:=by cases v<;>first|exact ft h|exact⟨_,rfl,h⟩
noncomputable def FJ(v:Value)(k:String→Bool):Bool:=match v with|.builtin a=>k a|_=>false
theorem wZ{v:Value}{k:String→Bool}(h:FJ v k=true):∃a,v=.builtin a∧k a=true:=by cases v<;>first|exact ft h|exact⟨_,rfl,h⟩
noncomputable def vsB(v:Value)(k:Str→Bool):Bool:=match v with|.str a _=>k a|_=>false
theorem Cn{v:Value}{k:Str→Bool}(h:vsB v k=true):∃a t,v=.str a t∧k a=true:=by cases v<;>first|exact ft h|exact⟨_,_,rfl,h⟩
noncomputable def BR(v:Found)(k:Value→Value→Bool):Bool:=match v with|.bind g a=>k g a|_=>false
theorem tz{v:Found}{k:Value→Value→Bool}(h:BR v k=true):∃g a,v=.bind g a∧k g a=true:=by cases v<;>first|exact ft h|exact⟨_,_,rfl,h⟩
noncomputable def FW(v:CFound)(k:Value→Bool):Bool:=match v with|.val a=>k a|_=>false
theorem Ah{v:CFound}{k:Value→Bool}(h:FW v k=true):∃a,v=.val a∧k a=true:=by cases v<;>first|exact ft h|exact⟨_,rfl,h⟩
noncomputable def Gb(v:Data)(k:Array Value→Bool):Bool:=match v with|.fields a=>k a|_=>false
theorem Bu{v:Data}{k:Array Value→Bool}(h:Gb v k=true):∃a,v=.fields a∧k a=true:=by cases v<;>first|exact ft h|exact⟨_,rfl,h⟩
noncomputable def fnD(v:Data):Option FuncData:=match v with|.func a=>some a|_=>none
theorem zO{v:Data}{fd:FuncData}(h:fnD v=some fd):v=.func fd:=by cases v<;>first|exact ns h|exact congrArg _ (sj h)
noncomputable def F4{β:Type}(v:Data)(k:Array Value→Nat→Option β):Option β:=match v with|.seq a n=>k a n|_=>none
theorem AL{β:Type}{v:Data}{k:Array Value→Nat→Option β}{x:β}(h:F4 v k=some x):∃a n,v=.seq a n∧k a n=some x:=by cases v<;>first|exact ns h|exact⟨_,_,rfl,h⟩
theorem tA{β:Type}{b:Bool}{x y:β}(h:(bif b then some x else none)=some y):b=true∧x=y:=by
 cases b with
 |true=>exact⟨rfl,sj h⟩
 |false=>exact ns h
noncomputable def jF(K:Frag)(c:Addr)(nme:Str)(k:Nat):Bool:=
 findIn K (.ref c) "__getattribute__" == some (some (.builtin "object.__getattribute__"))&&findIn K (.ref c) "__getattr__" == some none &&
 findIn K (.ref c) "__setattr__" == some (some (.builtin "object.__setattr__"))&&plainOver K c &&
 (zC (findObj K c (some emptyDict) nme) fun r=>BR r fun g p=>FJ g fun g=>CZ p fun p=>g == "member_descriptor.__get__" && slotIn K p c==some k&&takerIn K c nme==some (some (.ref p))&&typeIn K (.ref p)==some (.type "member_descriptor"))&&decide (k<1000)
theorem mC{c:Addr}{nme:Str}{k:Nat}(h:jF K c nme k=true):∃p,findIn K (.ref c) "__getattribute__" = some (some (.builtin "object.__getattribute__"))∧findIn K (.ref c) "__getattr__" = some none∧findIn K (.ref c) "__setattr__" = some (some (.builtin "object.__setattr__"))∧
  plainOver K c=true∧findObj K c (some emptyDict) nme=some (.bind (.builtin "member_descriptor.__get__") (.ref p))∧slotIn K p c=some k∧takerIn K c nme=some (some (.ref p))∧typeIn K (.ref p)=some (.type "member_descriptor")∧k<1000:=by
 unfold jF at h;simp only[GC,beq_iff_eq,decide_eq_true_eq]at h;obtain⟨⟨⟨⟨⟨h1,h2⟩,h3⟩,h4⟩,h5⟩,h6⟩:=h;refine e1b (ki h5) fun r hr x1=>e2b (tz x1) fun g p e x2=>e1b (wZ x2) fun g' e2 x3=>e1b (o5 x3) fun p' e3 x4=>?_;clear h5 x1 x2 x3;subst e e2 e3;simp only[GC,beq_iff_eq]at x4;exact⟨p',h1,h2,h3,h4,x4.1.1.1▸hr,x4.1.1.2,x4.1.2,x4.2,h6⟩
theorem pW(X:K.In H0){c:Addr}{nme:Str}{k:Nat}(h:jF K c nme k=true):xj H0 prog wd nme c k:=by
 refine e1i (mC h) fun p h1 h2 _ _ hf h7 h8 h9 _=>?_;intro A s a dx sl v Q hk ha hd hv hh hQ;have Xs:K.In s.heap:=X.keeps hk;refine cA (get_bind Xs (mV ha hd) h1 hf h2 ?_);refine wpAny_call (slot_get (s:={s with toks:=s.toks+1}) Xs (mV ha hd) h7 hv ?_);exact handed_on hh (hQ _)
theorem uW{x c:Addr}{ox:Obj}{od:Option Obj}{v:Value}{p i:Nat}{R:Result→Shared→Prop}(X:K.In s.heap)(I:InstAt s.heap x ox c od)(hp:slotIn K p c=some i)(hi:i<1000)
  (h:R (.ok (.ret .none)) {s with heap:=s.heap.update x fun o=>{o with slots:=(o.slots++Array.replicate (i+1-o.slots.size) none).setIfInBounds i (some v)}}) :
  codeAny (model prog wd) A (.call (.builtin "member_descriptor.__set__") ⟨[.ref p, .ref x,v],[]⟩) R s:=by
 obtain⟨n,tn,owner,behind,tb,d,sl,cd,ho,hc,hm,hb,rfl⟩:=slot_of X hp;clear hp;obtain⟨hh,g,dr,t,os⟩:=s;have L0:=I.type (M:=model prog wd);have L1:=looks_mroIn (M:=model prog wd) X hm;have L2:Looks (model prog wd) hh (Slots.slotNamesOf (.ref c)) cd.slotNames:=(looks_clsIn X hc).andThen .now;have hx:=I.at_;dsimp only at ho hx L0 L1;have f0:=looks_field (M:=model prog wd) ho 0 (v:=.str n tn) rfl;have f1:=looks_field (M:=model prog wd) ho 1 (v:=owner) rfl;have f3:=looks_field (M:=model prog wd) ho 3 (v:=.builtin "proto.slot#set") rfl;have f4:=looks_field (M:=model prog wd) ho 4 (v:=.int behind tb) rfl;refine codeAny_call_builtin KF.slot_mset.plain KF.entry_mset (KF.slot_mset.check _ _ _ _ _ _ _ _ ⟨_,ho,rfl⟩ (KF.args_mset _ _ _) ?_);unfold Builtin.«member_descriptor.__set__» descrSet descrStoreThrough descrCheckInstance descrNameAndClass isInstance;have f5:Looks (model prog wd) hh (descrItself (.ref p)) [.ref p]:=((Looks.ld (part:=none) ho).andThen .now).andThen (Looks.of_pure (by kernel_rfl))
 repeat lk
 refine⟨Code.quiet_builtin _ (by decide +kernel),codeAny_builtin KF.entry_slotset ?_⟩
 unfold Builtin.«proto.slot#set» Slots.target
 repeat lk
 rw[if_neg hb];refine Gq (Gn ?_);unfold setSlotAt;dsimp only;rw[if_neg (by rw[GJ];exact Nat.not_le.mpr (cG [] [_] bc aq 1 [.j 1 bc aJ] rfl hi))]
 exact wpAny_updatePart hx (Gq h)
theorem pV(X:K.In H0){c:Addr}{nme:Str}{k:Nat}(h:jF K c nme k=true):xe H0 prog wd nme c k:=by
 refine e1i (mC h) fun p _ _ h3 h4 hf h7 h8 h9 h6=>?_;intro A s a dx sl v Q hk ha hd hQ;have Xs:K.In s.heap:=X.keeps hk;refine cA (set_plain Xs (mV ha hd) h3 ?_);refine osa_descr (s:={s with toks:=s.toks+1}) KF.slot_mset Xs (mV ha hd) h4 h8 h9 ?_;refine uW (s:={s with toks:=s.toks+1}) Xs (mV ha hd) h7 h6 ?_;exact hQ _ _ (Heap.get?_update_self _ ha rfl) (Heap.SameBut.update ..)
noncomputable def mi(K:Frag)(c:Addr)(nme:Str)(fa:Addr):Bool:=
 findIn K (.ref c) "__getattribute__" == some (some (.builtin "object.__getattribute__"))&&findIn K (.ref c) "__getattr__" == some none &&
 findIn K (.ref c) nme==some (some (.ref fa))&&typeIn K (.ref fa)==some (.type "function")
theorem rJ(X:K.In H0){c fa:Addr}{nme:Str}(h:mi K c nme fa=true):z5 H0 prog wd nme c fa:=by
 unfold mi at h;simp only[GC,beq_iff_eq]at h;obtain⟨⟨⟨h1,h2⟩,h3⟩,h4⟩:=h;intro A s a dx sl pl Q hk ha hd hQ;exact cA (method_fn (X.keeps hk) (mV ha hd) h1 h2 h3 h4 rfl hQ)
noncomputable def Cw:Value→Tok|.int _ t=>t|.str _ t=>t|.bytes _ t=>t|_=>0
noncomputable def relV(x:P)(t:Tok):Option Value:=match x with
 |.none=>some .none
 |.bool b=>some (.bool b)
 |.int i=>some (.int i t)
 |.str s=>some (.str s t)
 |.fn b=>some b.val
 |.st a=>some (.ref a)
 |_=>none
noncomputable def x9(x:P)(v:Value):Bool:=relV x (Cw v)==some v
theorem ls{g:Gm}{x:P}{v:Value}(h:x9 x v=true):PRel g x v:=by
 have h:=eq_of_beq h
 cases x with
 |none=>exact(Option.some.inj h).symm
 |bool b=>exact(Option.some.inj h).symm
 |int i=>exact⟨_,(Option.some.inj h).symm⟩
 |str s=>exact⟨_,(Option.some.inj h).symm⟩
 |fn b=>exact(Option.some.inj h).symm
 |st a=>exact(Option.some.inj h).symm
 |_=>exact ns h
noncomputable def oV(K:Frag)(c:Addr)(nme:Str)(x:P):Bool:=
 readsIn K c (.type "type")&&zC (findCls K (.ref c) (.type "type") nme) fun r=>FW r fun v=>x9 x v&&handedIn v
theorem rq(X:K.In H0){c:Addr}{nme:Str}{x:P}(h:oV K c nme x=true):xi H0 prog wd nme c x:=by
 refine e0b (Bool.and_eq_true_iff.mp h) fun h1 h2=>e1b (ki h2) fun r hf h=>e1b (Ah h) fun v e h=>e0b (Bool.and_eq_true_iff.mp h) fun h3 h4=>?_;subst e;intro A s Q hk hQ;exact cA (cls_value (X.keeps hk) h1 hf h4 (hQ v _ (ls h3)))
noncomputable def rN(K:Frag)(C:Addr)(name:Str):Bool:=readsIn K C (.type "type")&&findIn K (.type "type") name==some none&&findIn K (.ref C) name==some (some (.type "int"))&&findIn K (.type "type") "__get__" == some none &&
 findIn K (.type "type") "__getattribute__" == some (some (.builtin "type.__getattribute__"))&&specialIn K (.ref C) "__getattribute__" == some (some (.builtin "type.__getattribute__"))
theorem rl{M:Model}{h:Heap}:Looks M h (typeOf (.type "int")) (.type "type"):=Looks.of_pure (by refine(?_:(pure (.type ((Manifest.find? "int").elim "type" (·.metatype))):Sem Value)=_);rw[show(Manifest.find? "int").elim "type" (·.metatype) = "type" by kernel_rfl])
theorem Ap{C:Addr}{name:Str}{tk:Tok}{E:Value→Shared→Prop}{Q:Fin→Shared→Prop}(X:K.In s.heap)(ho:Looks (model prog wd) s.heap (opaqueClassAbove (.ref C)) none)(ht:Looks (model prog wd) s.heap (typeOf (.ref C)) (.type "type"))
 (h1:findIn K (.type "type") name=some none) (h4:findIn K (.ref C) name=some (some (.type "int"))) (h6:findIn K (.type "type") "__get__" = some none) (h:Q (.done (.ret (.type "int"))) s) :
 wpAny (model prog wd) A (Builtin.«type.__getattribute__» ⟨[.ref C, .str name tk],[]⟩) Q E s:=by
 obtain⟨hh,g,d,t,os⟩:=s;have L1:=looks_findIn (M:=model prog wd) X h1;have L4:=looks_findIn (M:=model prog wd) X h4;have L5:=rl (M:=model prog wd) (h:=hh);have L6:Looks (model prog wd) hh (specialOf (.type "int") "__get__") none:=L5.andThen (looks_findIn X h6);unfold Builtin.«type.__getattribute__»;refine Gn (Gq (Gn (ho.at (Gn (ht.at (Gn (L1.at (Gn (Gq ?_)))))))));refine Gn (L4.at ?_);dsimp only;rw[if_neg (show ¬(heldUnderItsOwnName name (.type "int")=true)from fun q=>ft q)]
 refine Gn (L5.at ?_);rw[if_neg (by decide +kernel)]
 refine Gn (L6.at ?_);exact Gn (Gq (Gq h))
theorem tW(X:K.In H0){c:Addr}{nme:Str}(h:rN K c nme=true):xh H0 prog wd nme c (.fn .int):=by
 unfold rN readsIn at h;simp only[GC,beq_iff_eq]at h;obtain⟨⟨⟨⟨⟨⟨⟨⟨⟨a,b⟩,c'⟩,d⟩,f⟩,h1⟩,h4⟩,h6⟩,hga⟩,h0⟩:=h;clear c';obtain⟨hk,d⟩:=Option.isSome_iff_exists.mp d;intro A s pl Q a0 hQ;have Xs:K.In s.heap:=X.keeps a0;refine cA (method_cls Xs h0 ?_);have ht:=looks_typeIn (M:=model prog wd) Xs b;refine Gn (wpAny_mkText (wpAny_holding (Gn (ht _ _ _ _ (fun _ _ e=>e) (Gn (looks_findIn Xs hga _ _ _ _ (fun _ _ e=>e) ?_))))));dsimp only;rw[show(onTheHeap (Value.type "type")&&Value.builtin "type.__getattribute__" == Value.builtin "object.__getattribute__")=false from rfl,if_neg (by decide)]
 refine Gn (looks_hook Xs d _ _ _ _ (fun _ _ e=>e) (Gn (wpAny_attempt (wpAny_holding ?_))));unfold callGetattribute;rw[show((false:Bool)&&onTheHeap (Value.builtin "type.__getattribute__"))=false from rfl,if_neg (by decide)]
 unfold boundAndCalled;rw[KF.slot_tga.bind];refine Gn (Gq ?_)
 show wpAny _ _ (_root_.PySem.call (.builtin "type.__getattribute__") [.ref c, .str nme s.toks]) _ _ _
 refine wpAny_call ?_;refine codeAny_call_builtin KF.slot_tga.plain KF.entry_tga ?_;refine @check_slot (model prog wd) _ _ {s with toks:=s.toks+1} "type.__getattribute__" "type" "__getattribute__" (.ref c) [.str nme s.toks] [] _ (by decide +kernel) (by decide +kernel) (ht.andThen (looks_subIn Xs f)) (KF.args_tga (.ref c) (.str nme s.toks)) ?_
 refine Ap (s:={s with toks:=s.toks+1}) Xs (looks_opaque Xs a) ht h1 h4 h6 ?_;exact Gq (hQ (.type "int") _ rfl)
noncomputable def pD(K:Frag)(c:Addr)(nme:Str)(fa:Addr):Bool:=
 findIn K (.ref c) "__getattribute__" == some (some (.builtin "object.__getattribute__"))&&findIn K (.ref c) "__getattr__" == some none &&
 (zC (findObj K c (some emptyDict) nme) fun r=>BR r fun g p=>FJ g fun g=>CZ p fun p=>g == "function.__get__" && p==fa)&&typeIn K (.ref fa)==some (.type "function") &&
 zC (K.lookup fa) fun o=>(fnD o.data).isSome
theorem uj(X:K.In H0){c fa:Addr}{nme:Str}(h:pD K c nme fa=true):Em H0 prog wd nme c fa∧∃o fd,H0.get? fa=some o∧o.data=.func fd:=by
 unfold pD at h;simp only[GC,beq_iff_eq]at h;obtain⟨⟨⟨⟨h1,h2⟩,h3⟩,h4⟩,h5⟩:=h;refine⟨?_,e1b (ki h5) fun o hl h=>e1a (Option.isSome_iff_exists.mp h) fun fd h=>⟨o,fd,X _ _ hl,zO h⟩⟩;refine e1b (ki h3) fun r hf x1=>e2b (tz x1) fun g p e x2=>e1b (wZ x2) fun g' e2 x3=>e1b (o5 x3) fun p' e3 x4=>?_;clear h3 h5 x1 x2 x3;subst e e2 e3;simp only[GC,beq_iff_eq]at x4;refine e0b x4 fun b6 a3=>?_;clear x4;subst b6 a3;intro A s a dx sl Q hk ha hd hQ;have Xs:K.In s.heap:=X.keeps hk;refine cA (get_bind Xs (mV ha hd) h1 hf h2 ?_);exact wpAny_call (fn_get (s:={s with toks:=s.toks+1}) Xs h4 (handed_on rfl (hQ _)))
noncomputable def CR(K:Frag)(a:Addr)(c:String):Option (List Value):=(K.lookup a).bind fun o=>F4 o.data fun vs n=>bif o.cls==.type c&&o.dict==none&&o.slots==#[]&&n==0 then some vs.toList else none
theorem xV(X:K.In H0){a:Addr}{c:String}{vs:List Value}(h:CR K a c=some vs):H0.get? a=some {cls:=.type c,data:=.seq vs.toArray}:=by
 refine e1b (Option.bind_eq_some_iff.mp h) fun o q h=>e2b (AL h) fun us n e h=>e0b (tA h) fun q2 e2=>?_;simp only[GC,beq_iff_eq]at q2;have:=X a _ q
 cases o with
 |mk cl d dt sl=>
  obtain⟨⟨⟨rfl,rfl⟩,rfl⟩,rfl⟩:=q2;subst e e2;exact this
noncomputable def AO(r:P→Value→Bool):List P→List Value→Bool
 |[],vs=>vs.isEmpty
 |x::xs,vs=>match vs with|v::vs=>r x v&&AO r xs vs|[]=>false
theorem sO{r:P→Value→Bool}{g:Gm}(hr:∀x v,r x v=true→PRel g x v):∀{xs:List P} {vs:List Value},AO r xs vs=true→cV g xs vs
 |[],vs,h=>List.isEmpty_iff.mp h
 |x::xs,[],h=>ft h
 |x::xs,v::vs,h=>e0b (Bool.and_eq_true_iff.mp h) fun h1 h2=>⟨v,vs,rfl,hr x v h1,sO hr h2⟩
noncomputable def E4(K:Frag)(r:P→Value→Bool)(c:String)(l:List P)(v:Value):Bool:=CZ v fun a=>zC (CR K a c) fun vs=>AO r l vs
theorem vf(X:K.In H0){r:P→Value→Bool}(hr:∀x v,r x v=true→PRel H0.get? x v){c:String}{l:List P}{v:Value}(h:E4 K r c l v=true):∃a vs,v=.ref a∧H0.get? a=some {cls:=.type c,data:=.seq vs.toArray}∧cV H0.get? l vs:=
 e1b (o5 h) fun a e h=>e1b (ki h) fun vs q h=>⟨a,vs,e,xV X q,sO hr h⟩
noncomputable def Ey(K:Frag):Nat→P→Value→Bool
 |0,x,v=>x9 x v
 |n+1,x,v=>match x with
  |.tup l=>E4 K (Ey K n) "tuple" l v
  |.lst l=>E4 K (Ey K n) "list" l v
  |x=>x9 x v
theorem rA(X:K.In H0):∀(n:Nat) (x:P) (v:Value),Ey K n x v=true→PRel H0.get? x v
 |0,x,v,h=>ls h
 |n+1,x,v,h=>by
  cases x with
  |tup l=>exact e2c (vf X (rA X n) h) fun a vs e h1 h2=>⟨a,_,vs,0,e,h1,rfl,h2⟩
  |lst l=>exact e2c (vf X (rA X n) h) fun a vs e h1 h2=>⟨a,_,vs,0,e,h1,rfl,h2⟩
  |_=>exact ls h
noncomputable def jN(K:Frag)(n:Str)(x:P):Bool:=match nsIn K mainGlobals n with
 |some (some v)=>Ey K 3 x v
 |some none=>n != "__name__" && (match bootBuiltins n with|some v=>x9 x v|none=>false)
 |none=>false
set_option tactic.hygienic true in
theorem rR(X:K.In H0){mg mb:Str→Option Value}(hg:H0.Ns mainGlobals mg)(hb:H0.Ns builtinsNs mb)(a3:∀x:Str,x≠"__name__"→mb x=bootBuiltins x){n:Str}{x:P}(h:jN K n x=true):q9 H0 n x:=by
 unfold jN at h
 split at h
 ·rename_i v hv
  exact⟨mg,mb,v,hg,hb, .inl (mg_of X hg hv),rA X 3 x v h⟩
 ·rename_i hv
  simp only[GC]at h;refine e0b h fun h1 h2=>?_
  split at h2
  ·rename_i v ac
   have hn:n≠"__name__":=by simpa using h1
   exact⟨mg,mb,v,hg,hb, .inr ⟨mg_none_of X hg hv,(a3 n hn).trans ac⟩,ls h2⟩
  ·exact ft h2
 ·exact ft h
noncomputable def pq:Data→Option (Array Value)|.fields vs=>some vs|_=>none
theorem rV{d:Data}{vs:Array Value}(h:pq d=some vs):d=.fields vs:=by
 cases d<;>first|(cases h;rfl)|cases h
noncomputable def mW(K:Frag)(S:Addr)(F:Fm):Bool:=match K.lookup S with
 |some o=>o.cls==.type "_struct.Struct" && o.dict==none&&o.slots==#[]&&pq o.data==some #[.bytes F.fmt ((pq o.data).elim 0 fun vs=>Cw (vs.getD 0 .none))]
 |none=>false
theorem t0{K:Frag}{H0:Heap}(X:K.In H0){S:Addr}{F:Fm}(h:mW K S F=true):ms H0 S F:=by
 unfold mW at h
 cases q:K.lookup S with
 |none=>rw[q]at h;exact ft h
 |some o=>
  rw[q]at h;refine e0b (Bool.and_eq_true_iff.mp h) fun h h4=>?_;refine e0b (Bool.and_eq_true_iff.mp h) fun h h3=>?_;refine e0b (Bool.and_eq_true_iff.mp h) fun h1 h2=>?_;obtain⟨c,d,x,sl⟩:=o
  cases eq_of_beq h1
  cases eq_of_beq h2
  cases eq_of_beq h3
  obtain⟨t,ht⟩:∃t,x=.fields #[.bytes F.fmt t]:=⟨_,rV (eq_of_beq h4)⟩;clear h h4 h2 h1 h3;subst ht;exact⟨t,X _ _ q⟩
end
end
section
noncomputable def Dr(K:Frag)(fa:Addr):Option FuncData:=(K.lookup fa).bind fun o=>fnD o.data
noncomputable def wX:FuncBody→List Stmt|.stmts b=>b|.expr _=>[]
noncomputable def Bj:FuncBody→Bool|.stmts _=>true|.expr _=>false
noncomputable def tj(K:Frag)(c:Value)(q:Str):Bool:=CZ c fun a=>zC (K.lookup a) fun o=>Gb o.data fun vs=>zC vs[1]? fun v=>vsB v fun s=>s==q
theorem rZ{K:Frag}{H0:Heap}(X:K.In H0){c:Value}{q:Str}(h:tj K c q=true):H0.CodeRec c q:=
 e1b (o5 h) fun a e h=>e1b (ki h) fun o hl h=>e1b (Bu h) fun vs e2 h=>e1b (ki h) fun v hv h=>e2b (Cn h) fun s t e3 h=>⟨a,o,vs,t,e,X _ _ hl,e2,by rw[hv,e3,eq_of_beq h]⟩
noncomputable def s9(K:Frag)(fa:Addr)(pn ln:List Str):Bool:=match Dr K fa with
 |some fd=>Bj fd.body&&fd.closure.isEmpty&&tj K fd.code fd.qualname&&fd.globals==mainGlobals&&fd.builtins==builtinsNs&&!fd.scope.isCoroutine&&!fd.scope.isGenerator&&(fd.scope.kind==.function)&&decide ((pn++ln).Nodup) &&
   pn.all fun n=>fd.scope.names.lookup n==some .local||fd.scope.names.lookup n==some .cell
 |none=>false
theorem qz{K:Frag}{H0:Heap}(X:K.In H0){fa:Addr}{pn ln:List Str}{fd:FuncData}(hf:Dr K fa=some fd)(h:s9 K fa pn ln=true):Gk H0 fa fd (wX fd.body) pn ln:=by
 unfold s9 at h;rw[hf]at h;simp only[GC,beq_iff_eq,Bool.not_eq_true',decide_eq_true_eq,List.all_eq_true,Bool.or_eq_true,List.isEmpty_iff]at h;obtain⟨⟨⟨⟨⟨⟨⟨⟨⟨h1,h2⟩,h3⟩,h4⟩,h5⟩,h6⟩,h7⟩,h8⟩,h9⟩,h10⟩:=h;refine⟨?_,?_,h2,rZ X h3,h4,h5,h6,h7,h8,h9,h10⟩
 ·exact e1b (Option.bind_eq_some_iff.mp hf) fun o hl h=>⟨o,X _ _ hl,zO h⟩
 ·clear hf fa X H0 h10 h9 h8 h7 h6 h5 h4 h3 h2;cases hb:fd.body with
  |stmts b=>rfl
  |expr x=>rw[hb]at h1;exact ft h1
noncomputable def k0{β:Type}(kws:List (Str×P))(r:Option β):Option β:=match kws with|[]=>r|_::_=>none
theorem Bg{β:Type}{kws:List (Str×P)}{r:Option β}{x:β}(h:k0 kws r=some x):kws=[]∧r=some x:=by
 cases kws with
 |nil=>exact⟨rfl,h⟩
 |cons _ _=>exact ns h
noncomputable def k1{β:Type}(kws:List (Str×P))(f:Str→P→Option β):Option β:=match kws with|[]=>none|e::r=>k0 r (f e.1 e.2)
theorem Fu{β:Type}{kws:List (Str×P)}{f:Str→P→Option β}{x:β}(h:k1 kws f=some x):∃m y,kws=[(m,y)]∧f m y=some x:=by
 cases kws with
 |nil=>exact ns h
 |cons e r=>exact e0b (Bg h) fun e1 h=>⟨e.1,e.2,by rw[e1],h⟩
noncomputable def cQ(k:Nat):List V→List (Str×P)→Option (List V):=fun args kws=>k0 kws (bif Nat.beq args.length k then some args else none)
end
section
section
variable {α β:Type}
noncomputable def oE(a b:Option β):Option β:=Option.rec (motive:=fun _=>Option β) b (fun s=>some s) a
noncomputable def o1{P:α→Prop}(o:Option {c // P c})(k:(c:α)→P c→Option β):Option β:=Option.rec (motive:=fun _=>Option β) none (fun s=>k s.1 s.2) o
noncomputable def oT(b:Bool)(k:b=true→Option β):Option β:=Bool.rec (motive:=fun b=>(b=true→Option β)→Option β) (fun _=>none) (fun k=>k rfl) b k
noncomputable def oF(b:Bool)(k:b=false→Option β):Option β:=Bool.rec (motive:=fun b=>(b=false→Option β)→Option β) (fun k=>k rfl) (fun _=>none) b k
noncomputable def oO(o:Option α)(k:(a:α)→o=some a→Option β):Option β:=Option.rec (motive:=fun o=>((a:α)→o=some a→Option β)→Option β) (fun _=>none) (fun a k=>k a rfl) o k
noncomputable def oD(p:Prop)[d:Decidable p](k:p→Option β):Option β:=Decidable.rec (motive:=fun _=>Option β) (fun _=>none) k d
end
section
variable {α:Type}{β:List α→Type}
noncomputable def l0(xs:List α)(k:Option (β [])):Option (β xs):=List.rec (motive:=fun xs=>Option (β xs)) k (fun _ _ _=>none) xs
noncomputable def l1(xs:List α)(k:∀a,Option (β [a])):Option (β xs):=List.rec (motive:=fun xs=>Option (β xs)) none (fun a t _=>l0 (β:=fun t=>β (a::t)) t (k a)) xs
noncomputable def l2(xs:List α)(k:∀a b,Option (β [a,b])):Option (β xs):=List.rec (motive:=fun xs=>Option (β xs)) none (fun a t _=>l1 (β:=fun t=>β (a::t)) t (k a)) xs
end
noncomputable def n0{α:Type}{β:Option α→Type}(x:Option α)(k:Option (β none)):Option (β x):=Option.rec (motive:=fun x=>Option (β x)) k (fun _=>none) x
noncomputable def n1{α:Type}{β:Option α→Type}(x:Option α)(k:∀a,Option (β (some a))):Option (β x):=Option.rec (motive:=fun x=>Option (β x)) none k x
noncomputable def exE{β:PySem.Expr→Type}(x:PySem.Expr)(k0:∀a b c,Option (β (.BoolOp a b c)):=fun _ _ _=>none)(k1:∀a b c,Option (β (.NamedExpr a b c)):=fun _ _ _=>none)(k2:∀a b c d,Option (β (.BinOp a b c d)):=fun _ _ _ _=>none)(k3:∀a b c,Option (β (.UnaryOp a b c)):=fun _ _ _=>none)(k4:∀a b c d,Option (β (.Lambda a b c d)):=fun _ _ _ _=>none)(k5:∀a b c d,Option (β (.IfExp a b c d)):=fun _ _ _ _=>none)(k6:∀a b c,Option (β (.Dict a b c)):=fun _ _ _=>none)(k7:∀a b c,Option (β (.Set a b c)):=fun _ _ _=>none)(k8:∀a b c d,Option (β (.ListComp a b c d)):=fun _ _ _ _=>none)(k9:∀a b c d,Option (β (.SetComp a b c d)):=fun _ _ _ _=>none)(ac:∀a b c d e,Option (β (.DictComp a b c d e)):=fun _ _ _ _ _=>none)(k11:∀a b c d,Option (β (.GeneratorExp a b c d)):=fun _ _ _ _=>none)(k12:∀a b,Option (β (.Await a b)):=fun _ _=>none)(a5:∀a b,Option (β (.Yield a b)):=fun _ _=>none)(a4:∀a b,Option (β (.YieldFrom a b)):=fun _ _=>none)(k15:∀a b c d,Option (β (.Compare a b c d)):=fun _ _ _ _=>none)(k16:∀a b c d,Option (β (.Call a b c d)):=fun _ _ _ _=>none)(a3:∀a b c d,Option (β (.FormattedValue a b c d)):=fun _ _ _ _=>none)(a0:∀a b,Option (β (.JoinedStr a b)):=fun _ _=>none)(k19:∀a b c,Option (β (.Constant a b c)):=fun _ _ _=>none)(k20:∀a b c,Option (β (.Attribute a b c)):=fun _ _ _=>none)(k21:∀a b c,Option (β (.Subscript a b c)):=fun _ _ _=>none)(k22:∀a b,Option (β (.Starred a b)):=fun _ _=>none)(k23:∀a b,Option (β (.Name a b)):=fun _ _=>none)(k24:∀a b,Option (β (.List a b)):=fun _ _=>none)(k25:∀a b c,Option (β (.Tuple a b c)):=fun _ _ _=>none)(k26:∀a b c d,Option (β (.Slice a b c d)):=fun _ _ _ _=>none):Option (β x):=@PySem.Expr.casesOn (fun x=>Option (β x)) x k0 k1 k2 k3 k4 k5 k6 k7 k8 k9 ac k11 k12 a5 a4 k15 k16 a3 a0 k19 k20 k21 k22 k23 k24 k25 k26
noncomputable def exS{β:PySem.Stmt→Type}(x:PySem.Stmt)(k0:∀a b c d e f g h i j,Option (β (.FunctionDef a b c d e f g h i j)):=fun _ _ _ _ _ _ _ _ _ _=>none)(k1:∀a b c d e f g h i j,Option (β (.AsyncFunctionDef a b c d e f g h i j)):=fun _ _ _ _ _ _ _ _ _ _=>none)(k2:∀a b c d e f g h i j k,Option (β (.ClassDef a b c d e f g h i j k)):=fun _ _ _ _ _ _ _ _ _ _ _=>none)(k3:∀a b,Option (β (.Return a b)):=fun _ _=>none)(k4:∀a b,Option (β (.Delete a b)):=fun _ _=>none)(k5:∀a b c,Option (β (.Assign a b c)):=fun _ _ _=>none)(k6:∀a b c d e f g,Option (β (.TypeAlias a b c d e f g)):=fun _ _ _ _ _ _ _=>none)(k7:∀a b c d,Option (β (.AugAssign a b c d)):=fun _ _ _ _=>none)(k8:∀a b c d e,Option (β (.AnnAssign a b c d e)):=fun _ _ _ _ _=>none)(k9:∀a b c d e,Option (β (.For a b c d e)):=fun _ _ _ _ _=>none)(ac:∀a b c d e,Option (β (.AsyncFor a b c d e)):=fun _ _ _ _ _=>none)(k11:∀a b c d,Option (β (.While a b c d)):=fun _ _ _ _=>none)(k12:∀a b c d,Option (β (.If a b c d)):=fun _ _ _ _=>none)(a5:∀a b c,Option (β (.With a b c)):=fun _ _ _=>none)(a4:∀a b c,Option (β (.AsyncWith a b c)):=fun _ _ _=>none)(k15:∀a b c,Option (β (.Match a b c)):=fun _ _ _=>none)(k16:∀a b c,Option (β (.Raise a b c)):=fun _ _ _=>none)(a3:∀a b c d e,Option (β (.Try a b c d e)):=fun _ _ _ _ _=>none)(a0:∀a b c d e,Option (β (.TryStar a b c d e)):=fun _ _ _ _ _=>none)(k19:∀a b c,Option (β (.Assert a b c)):=fun _ _ _=>none)(k20:∀a b,Option (β (.Import a b)):=fun _ _=>none)(k21:∀a b c d,Option (β (.ImportFrom a b c d)):=fun _ _ _ _=>none)(k22:∀a b,Option (β (.Global a b)):=fun _ _=>none)(k23:∀a b,Option (β (.Nonlocal a b)):=fun _ _=>none)(k24:∀a b,Option (β (.Expr a b)):=fun _ _=>none)(k25:∀a,Option (β (.Pass a)):=fun _=>none)(k26:∀a,Option (β (.Break a)):=fun _=>none)(k27:∀a,Option (β (.Continue a)):=fun _=>none):Option (β x):=@PySem.Stmt.casesOn (fun x=>Option (β x)) x k0 k1 k2 k3 k4 k5 k6 k7 k8 k9 ac k11 k12 a5 a4 k15 k16 a3 a0 k19 k20 k21 k22 k23 k24 k25 k26 k27
noncomputable def xN{β:PySem.Expr→Type}(x:PySem.Expr)(k:∀a b,Option (β (.Name a b))):Option (β x):=exE x (k23:=k)
noncomputable def xL{β:PySem.Expr→Type}(x:PySem.Expr)(k:∀a b,Option (β (.List a b))):Option (β x):=exE x (k24:=k)
noncomputable def xA{β:PySem.Expr→Type}(x:PySem.Expr)(k:∀a b c,Option (β (.Attribute a b c))):Option (β x):=exE x (k20:=k)
noncomputable def xS{β:PySem.Expr→Type}(x:PySem.Expr)(k:∀a b c,Option (β (.Subscript a b c))):Option (β x):=exE x (k21:=k)
noncomputable def xT{β:PySem.Expr→Type}(x:PySem.Expr)(k:∀a b c,Option (β (.Tuple a b c))):Option (β x):=exE x (k25:=k)
noncomputable def xC{β:PySem.Expr→Type}(x:PySem.Expr)(k:∀a b c d,Option (β (.Slice a b c d))):Option (β x):=exE x (k26:=k)
noncomputable def xK{β:PySem.Expr→Type}(x:PySem.Expr)(k:∀a b c d,Option (β (.ListComp a b c d))):Option (β x):=exE x (k8:=k)
noncomputable def xF{β:PySem.Expr→Type}(x:PySem.Expr)(k:∀a b c d,Option (β (.Call a b c d))):Option (β x):=exE x (k16:=k)
noncomputable def xR{β:PySem.Expr→Type}(x:PySem.Expr)(k:∀a b,Option (β (.Starred a b))):Option (β x):=exE x (k22:=k)
noncomputable abbrev eR(tb:Tb)(cx:Cx)(md:Bool)(x:PySem.Expr):={c:C // Cq cx tb (.e md x c)}
noncomputable abbrev tR(tb:Tb)(cx:Cx)(x:PySem.Expr):={c:C // Cq cx tb (.t x c)}
noncomputable abbrev lR(tb:Tb)(cx:Cx)(xs:List PySem.Expr):={c:C // Cq cx tb (.l xs c)}
noncomputable abbrev oR(tb:Tb)(cx:Cx)(x:Option PySem.Expr):={c:C // Cq cx tb (.o x c)}
noncomputable abbrev qR(tb:Tb)(cx:Cx)(xs:List PySem.Expr):={c:C // Cq cx tb (.q xs c)}
noncomputable abbrev iR(tb:Tb)(cx:Cx)(x:PySem.Expr):={c:It×C // Cq cx tb (.it x c.1 c.2)}
noncomputable abbrev sR(tb:Tb)(cx:Cx)(x:Stmt):={c:S // Cq cx tb (.s x c)}
noncomputable abbrev uR(tb:Tb)(cx:Cx)(xs:List Stmt):={c:S // Cq cx tb (.ss xs c)}
noncomputable abbrev gR(tb:Tb)(cx:Cx)(x:PySem.Expr):={t:T // Cq cx tb (.tgt x t)}
noncomputable abbrev kR(tb:Tb)(cx:Cx)(xs:List PySem.Expr):={is:List Nat // Cq cx tb (.tgts xs is)}
noncomputable def EM(tb:Tb)(cx:Cx)(md:Bool)(n:Str)(pos:Pos):Option {c:C // Cq cx tb (.e md (.Name n pos) c)}:=
 oF (dbg n) fun hd=>oE (oD (cx.nm[cx.nm.idxOf (some n)]?=some (some n)) fun h=>some ⟨.var (cx.nm.idxOf (some n)), .var h rfl hd⟩)
  (oD (cx.sc.names.lookup n=some .globalImplicit) fun h=>oO (tb.glb.lookup n) fun x hx=>some ⟨.glob x, .glob h hx hd⟩)
noncomputable def Ao(tb:Tb)(cx:Cx)(n:Str)(pos:Pos):Option {i:Nat // Cq cx tb (.tgt (.Name n pos) (.var i))}:=
 oD (cx.nm[cx.nm.idxOf (some n)]?=some (some n)) fun h=>oD (cx.sc.names.lookup n=some .local∨cx.sc.names.lookup n=some .cell) fun hk=>some ⟨_, .gName h rfl hk⟩
noncomputable def FY(tb:Tb)(cx:Cx)(xs:List PySem.Expr):Option (kR tb cx xs):=
 List.rec (motive:=fun xs=>Option (kR tb cx xs)) (some ⟨[], .gNil⟩)
  (fun x es R=>xN (β:=fun x=>kR tb cx (x::es)) x fun n pos=>oD (cx.nm[cx.nm.idxOf (some n)]?=some (some n)) fun h=>oD (cx.sc.names.lookup n=some .local∨cx.sc.names.lookup n=some .cell) fun hk=>o1 R fun _ hi=>some ⟨_, .gCons h rfl hk hi⟩) xs
noncomputable def trG(tb:Tb)(cx:Cx)(x:PySem.Expr):Option (gR tb cx x):=
 oE (xN (β:=fun x=>gR tb cx x) x fun n pos=>o1 (Ao tb cx n pos) fun i h=>some ⟨.var i,h⟩) (xT (β:=fun x=>gR tb cx x) x fun es k pos=>o1 (FY tb cx es) fun is h=>some ⟨.tup is, .gTup h⟩)
structure TR(tb:Tb) where
 e:(cx:Cx)→(md:Bool)→(x:PySem.Expr)→Option (eR tb cx md x)
 t:(cx:Cx)→(x:PySem.Expr)→Option (tR tb cx x)
 l:(cx:Cx)→(xs:List PySem.Expr)→Option (lR tb cx xs)
 o:(cx:Cx)→(x:Option PySem.Expr)→Option (oR tb cx x)
 q:(cx:Cx)→(xs:List PySem.Expr)→Option (qR tb cx xs)
 it:(cx:Cx)→(x:PySem.Expr)→Option (iR tb cx x)
 r:(cx:Cx)→(x:PySem.Expr)→Option (iR tb cx x)
 s:(cx:Cx)→(x:Stmt)→Option (sR tb cx x)
 ss:(cx:Cx)→(xs:List Stmt)→Option (uR tb cx xs)
section
variable (tb:Tb)(R:TR tb)(cx:Cx)
noncomputable def trE1(md:Bool)(x:PySem.Expr):Option (eR tb cx md x):=exE (β:=fun x=>eR tb cx md x) x
 (k0:=fun op xs pos=>l2 (β:=fun xs=>eR tb cx md (.BoolOp op xs pos)) xs fun l r=>o1 (R.e cx false l) fun _ h1=>o1 (R.e cx false r) fun _ h2=>PySem.BoolOp.rec (motive:=fun op=>Option (eR tb cx md (.BoolOp op [l,r] pos))) (some ⟨_, .and h1 h2⟩) (some ⟨_, .or h1 h2⟩) op)
 (k2:=fun l op r pos=>o1 (R.e cx false r) fun _ h2=>oE (xL (β:=fun l=>eR tb cx md (.BinOp l op r pos)) l fun x p2=>oD (op=.Mult) fun ho=>o1 (R.e cx false (.List x p2)) fun _ h1=>some ⟨_, .repl ho h1 h2⟩) (o1 (R.e cx false l) fun _ h1=>some ⟨_, .bin h1 h2⟩))
 (k3:=fun op l pos=>o1 (R.e cx false l) fun _ h1=>PySem.UnaryOp.rec (motive:=fun op=>Option (eR tb cx md (.UnaryOp op l pos))) (some ⟨_, .inv h1⟩) (some ⟨_, .not h1⟩) none (some ⟨_, .neg h1⟩) op)
 (k5:=fun t l r pos=>o1 (R.t cx t) fun _ h0=>o1 (R.e cx false l) fun _ h1=>o1 (R.e cx false r) fun _ h2=>some ⟨_, .ite h0 h1 h2⟩)
 (k6:=fun a b pos=>l0 (β:=fun a=>eR tb cx md (.Dict a b pos)) a (l0 (β:=fun b=>eR tb cx md (.Dict [] b pos)) b (some ⟨_, .dict0⟩)))
 (k8:=fun elt gs sc pos=>l1 (β:=fun gs=>eR tb cx md (.ListComp elt gs sc pos)) gs fun g=>@PySem.Comprehension.casesOn (fun g=>Option (eR tb cx md (.ListComp elt [g] sc pos))) g fun t it ifs a=>oT (Cc sc cx.sc) fun a4=>oT (eE it) fun a3=>oD (a=0) fun ha=>o1 (R.it cx it) fun _ h1=>o1 (trG tb (cx.inner sc) t) fun tt h2=>o1 (R.e (cx.inner sc) false elt) fun _ h3=>o1 (R.q (cx.inner sc) ifs) fun _ h4=>oT (nH tt cx.nm.length) fun hk=>some ⟨_, .comp ha a4 a3 rfl hk h1 h2 h3 h4⟩)
 (k15:=fun l ops rs pos=>o1 (R.e cx false l) fun _ h1=>oE (l1 (β:=fun ops=>eR tb cx md (.Compare l ops rs pos)) ops fun op=>l1 (β:=fun rs=>eR tb cx md (.Compare l [op] rs pos)) rs fun r=>oT (eE r) fun hs=>o1 (R.e cx false r) fun _ h2=>some ⟨_, .cmp hs h1 h2⟩) (l2 (β:=fun ops=>eR tb cx md (.Compare l ops rs pos)) ops fun u v=>l2 (β:=fun rs=>eR tb cx md (.Compare l [u,v] rs pos)) rs fun r t=>oT (eE r) fun hs=>oT (eE t) fun ah=>o1 (R.e cx false r) fun _ h2=>o1 (R.e cx false t) fun _ h3=>some ⟨_, .chain hs ah h1 h2 h3⟩))
 (k16:=fun f args ks pos=>o1 (R.l cx args) fun _ h2=>oE (l0 (β:=fun ks=>eR tb cx md (.Call f args ks pos)) ks (oE (xN (β:=fun f=>eR tb cx md (.Call f args [] pos)) f fun n p2=>oT (dj args) fun hp=>o1 (R.e cx false (.Name n p2)) fun _ h1=>some ⟨_, .call hp h1 h2⟩)
  (xA (β:=fun f=>eR tb cx md (.Call f args [] pos)) f fun o a apos=>oT (eV o) fun hs=>oO (tb.me.lookup a) fun m hm=>o1 (R.e cx false o) fun _ h1=>oE (oT (dj args) fun hp=>oT (decide (args.length<29)) fun hl=>oT (apos.endLine==pos.line) fun hn=>some ⟨_, .meth hm hs hp hl hn h1 h2⟩)
   (oT (l8 args) fun dr=>oT m.bd fun b7=>some ⟨_, .methS hm b7 hs dr h1 h2⟩))))
  (l1 (β:=fun ks=>eR tb cx md (.Call f args ks pos)) ks fun kw=>xA (β:=fun f=>eR tb cx md (.Call f args [kw] pos)) f fun o a apos=>@PySem.Keyword.casesOn (fun kw=>Option (eR tb cx md (.Call (.Attribute o a apos) args [kw] pos))) kw fun kn k kp=>n1 (β:=fun kn=>eR tb cx md (.Call (.Attribute o a apos) args [⟨kn,k,kp⟩] pos)) kn fun kn=>oT (eV o) fun hs=>oO (tb.me.lookup a) fun m hm=>o1 (R.e cx false o) fun _ h1=>o1 (R.e cx false k) fun _ h3=>oT (dj args) fun hp=>oT (decide (args.length<28)) fun hl=>oT (apos.endLine==pos.line) fun hn=>some ⟨_, .methK hm hs hp hl hn h1 h2 h3⟩))
 (k19:=fun v k pos=>PySem.Const.rec (motive:=fun v=>Option (eR tb cx md (.Constant v k pos))) (some ⟨_, .cNone⟩) (fun _=>some ⟨_, .cBool⟩) (fun _=>some ⟨_, .cInt⟩) (fun _=>none) (fun _ _=>none) (fun _=>some ⟨_, .cStr⟩) (fun _=>some ⟨_, .cBytes⟩) none v)
 (k20:=fun o a pos=>oT (eV o) fun hs=>oO (tb.at_.lookup a) fun i hi=>o1 (R.e cx false o) fun _ h1=>some ⟨_, .attr hi hs h1⟩)
 (k21:=fun l r pos=>o1 (R.e cx false l) fun _ h1=>oE (xC (β:=fun r=>eR tb cx md (.Subscript l r pos)) r fun lo hi sp p2=>o1 (R.o cx lo) fun _ h2=>o1 (R.o cx hi) fun _ h3=>o1 (R.o cx sp) fun _ h4=>some ⟨_, .slc h1 h2 h3 h4⟩) (oT (jI r) fun hs=>o1 (R.e cx false r) fun _ h2=>some ⟨_, .idx hs h1 h2⟩))
 (k23:=fun n pos=>EM tb cx md n pos)
 (k24:=fun es pos=>o1 (R.l cx es) fun _ h1=>some ⟨_, .lst h1⟩)
 (k25:=fun es k pos=>o1 (R.l cx es) fun _ h1=>some ⟨_, .tup h1⟩)
noncomputable def trT1(x:PySem.Expr):Option (tR tb cx x):=oE (exE (β:=fun x=>tR tb cx x) x
 (k0:=fun op xs pos=>l2 (β:=fun xs=>tR tb cx (.BoolOp op xs pos)) xs fun l r=>o1 (R.t cx l) fun _ h1=>o1 (R.t cx r) fun _ h2=>PySem.BoolOp.rec (motive:=fun op=>Option (tR tb cx (.BoolOp op [l,r] pos))) (some ⟨_, .tAnd h1 h2⟩) (some ⟨_, .tOr h1 h2⟩) op)
 (k3:=fun op l pos=>oD (op=.Not) fun ho=>o1 (R.t cx l) fun _ h1=>some ⟨_, .tNot ho h1⟩)
 (k5:=fun t l r pos=>o1 (R.t cx t) fun _ h0=>o1 (R.t cx l) fun _ h1=>o1 (R.t cx r) fun _ h2=>some ⟨_, .tIte h0 h1 h2⟩)
 (k15:=fun l ops rs pos=>o1 (R.e cx false l) fun _ h1=>oE (l1 (β:=fun ops=>tR tb cx (.Compare l ops rs pos)) ops fun op=>l1 (β:=fun rs=>tR tb cx (.Compare l [op] rs pos)) rs fun r=>oT (eE r) fun hs=>o1 (R.e cx false r) fun _ h2=>some ⟨_, .tCmp hs h1 h2⟩) (l2 (β:=fun ops=>tR tb cx (.Compare l ops rs pos)) ops fun u v=>l2 (β:=fun rs=>tR tb cx (.Compare l [u,v] rs pos)) rs fun r t=>oT (eE r) fun hs=>oT (eE t) fun ah=>o1 (R.e cx false r) fun _ h2=>o1 (R.e cx false t) fun _ h3=>some ⟨_, .tChain hs ah h1 h2 h3⟩))
 (k19:=fun v k pos=>PySem.Const.rec (motive:=fun v=>Option (tR tb cx (.Constant v k pos))) none (fun _=>some ⟨_, .tTrue⟩) (fun _=>none) (fun _=>none) (fun _ _=>none) (fun _=>none) (fun _=>none) none v))
 (oT (mP x) fun hp=>o1 (R.e cx false x) fun c h1=>oT (zs c) fun hv=>some ⟨c, .tVal hp h1 hv⟩)
noncomputable def trL1(xs:List PySem.Expr):Option (lR tb cx xs):=List.rec (motive:=fun xs=>Option (lR tb cx xs)) (some ⟨_, .nil⟩)
 (fun x xs _=>o1 (R.l cx xs) fun _ h2=>oE (xR (β:=fun x=>lR tb cx (x::xs)) x fun x ps=>o1 (R.e cx false x) fun _ h1=>some ⟨_, .star h1 h2⟩) (oF (eB x) fun hs=>o1 (R.e cx false x) fun _ h1=>some ⟨_, .cons hs h1 h2⟩)) xs
noncomputable def trO1(x:Option PySem.Expr):Option (oR tb cx x):=Option.rec (motive:=fun x=>Option (oR tb cx x)) (some ⟨_, .oNone⟩) (fun x=>o1 (R.e cx false x) fun _ h1=>some ⟨_, .oSome h1⟩) x
noncomputable def trQ1(xs:List PySem.Expr):Option (qR tb cx xs):=oE (l0 (β:=fun xs=>qR tb cx xs) xs (some ⟨_, .qNil⟩)) (l1 (β:=fun xs=>qR tb cx xs) xs fun x=>o1 (R.t cx x) fun _ h1=>some ⟨_, .qOne h1⟩)
noncomputable def trI1(x:PySem.Expr):Option (iR tb cx x):=oE (R.r cx x) (o1 (R.e cx false x) fun c h1=>some ⟨(.lst,c), .iLst h1⟩)
noncomputable def trR1(x:PySem.Expr):Option (iR tb cx x):=
 xF (β:=fun x=>iR tb cx x) x fun f args ks pos=>l0 (β:=fun ks=>iR tb cx (.Call f args ks pos)) ks (xN (β:=fun f=>iR tb cx (.Call f args [] pos)) f fun n p2=>oF (dbg n) fun hd=>oD (cx.sc.names.lookup n=some .globalImplicit) fun h=>oT (dj args) fun hp=>
  oO (tb.glb.lookup n) fun x=>@P.casesOn (fun x=>tb.glb.lookup n=some x→Option (iR tb cx (.Call (.Name n p2) args [] pos))) x (fun _=>none) (fun _ _=>none) (fun _ _=>none) (fun _ _=>none) (fun _ _=>none)
   (fun b=>@Bi.casesOn (fun b=>tb.glb.lookup n=some (.fn b)→Option (iR tb cx (.Call (.Name n p2) args [] pos))) b (fun _=>none) (fun _=>none) (fun hx=>o1 (R.l cx args) fun c h1=>some ⟨(.rng,c), .iRng h hx hd hp h1⟩)
    (fun hx=>l1 (β:=fun as=>iR tb cx (.Call (.Name n p2) as [] pos)) args fun a=>oT (dj [a]) fun hp=>o1 (R.l cx [a]) fun c h1=>some ⟨(.rev,c), .iRev h hx hd hp h1⟩)
    (fun _=>none) (fun _=>none) (fun _=>none) (fun _=>none) (fun _=>none) (fun _=>none) (fun _=>none) (fun _=>none) (fun _=>none) (fun _=>none) (fun _=>none) (fun _=>none))
   (fun _ _=>none) (fun _ _=>none) (fun _ _=>none))
noncomputable def trS1(x:Stmt):Option (sR tb cx x):=exS (β:=fun x=>sR tb cx x) x
 (k3:=fun l pos=>oE (n0 (β:=fun l=>sR tb cx (.Return l pos)) l (some ⟨_, .sRet0⟩)) (n1 (β:=fun l=>sR tb cx (.Return l pos)) l fun l=>o1 (R.e cx false l) fun _ h1=>some ⟨_, .sRet h1⟩))
 (k5:=fun ts l pos=>l1 (β:=fun ts=>sR tb cx (.Assign ts l pos)) ts fun tg=>oE (xN (β:=fun tg=>sR tb cx (.Assign [tg] l pos)) tg fun x p2=>o1 (Ao tb cx x p2) fun _ h0=>oE (xK (β:=fun l=>sR tb cx (.Assign [.Name x p2] l pos)) l fun elt gs sc lp=>l1 (β:=fun gs=>sR tb cx (.Assign [.Name x p2] (.ListComp elt gs sc lp) pos)) gs fun g=>@PySem.Comprehension.casesOn (fun g=>Option (sR tb cx (.Assign [.Name x p2] (.ListComp elt [g] sc lp) pos))) g fun t it ifs a=>oT (Eu cx.sc sc x p2.line lp.line) fun bh=>oT (Cc sc cx.sc) fun a4=>oT (eE it) fun a3=>oD (a=0) fun ha=>o1 (R.it cx it) fun _ h1=>o1 (trG tb (cx.inner sc) t) fun tt h2=>o1 (R.e (cx.inner sc) false elt) fun _ h3=>o1 (R.q (cx.inner sc) ifs) fun _ h4=>oT (nH tt cx.nm.length) fun hk=>some ⟨_, .sAsgC ha bh a4 a3 rfl hk h0 h1 h2 h3 h4⟩)
   (oF (fS l) fun hc=>o1 (R.e cx (cx.own.contains x) l) fun _ h1=>some ⟨_, .sAsgN hc h0 h1⟩)) (oF (fS l) fun hc=>oE (xT (β:=fun tg=>sR tb cx (.Assign [tg] l pos)) tg fun es k p2=>oF (tU l) fun ht=>o1 (FY tb cx es) fun _ h0=>o1 (R.e cx false l) fun _ h1=>some ⟨_, .sAsgT hc ht h0 h1⟩)
  (oE (xA (β:=fun tg=>sR tb cx (.Assign [tg] l pos)) tg fun o a p2=>oF (tU l) fun ht=>oO (tb.at_.lookup a) fun i hi=>o1 (R.e cx false o) fun _ h0=>o1 (R.e cx true l) fun _ h1=>some ⟨_, .sSetA hc ht hi h0 h1⟩)
  (xS (β:=fun tg=>sR tb cx (.Assign [tg] l pos)) tg fun o i p2=>o1 (R.e cx false o) fun _ h0=>o1 (R.e cx false l) fun _ h3=>oE (xC (β:=fun i=>sR tb cx (.Assign [.Subscript o i p2] l pos)) i fun lo hi sp p3=>n0 (β:=fun sp=>sR tb cx (.Assign [.Subscript o (.Slice lo hi sp p3) p2] l pos)) sp (o1 (R.o cx lo) fun _ h1=>o1 (R.o cx hi) fun _ h2=>some ⟨_, .sSetS hc h0 h1 h2 h3⟩)) (oT (jI i) fun hs=>o1 (R.e cx false i) fun _ h1=>some ⟨_, .sSetI hc hs h0 h1 h3⟩)))))
 (k7:=fun t op l pos=>xN (β:=fun t=>sR tb cx (.AugAssign t op l pos)) t fun x p2=>oT (op==.Add||op==.Sub||op==.Mult||op==.BitAnd) fun b3=>oF (dbg x) fun hd=>o1 (Ao tb cx x p2) fun _ h0=>o1 (R.e cx false l) fun _ h1=>some ⟨_, .sAug b3 hd h0 h1⟩)
 (k9:=fun t it a b pos=>l0 (β:=fun b=>sR tb cx (.For t it a b pos)) b (oT (eE it) fun hs=>o1 (trG tb cx t) fun _ h0=>o1 (R.it cx it) fun _ h1=>o1 (R.ss cx a) fun _ h2=>some ⟨_, .sFor hs h0 h1 h2⟩))
 (k11:=fun t a b pos=>l0 (β:=fun b=>sR tb cx (.While t a b pos)) b (o1 (R.t cx t) fun _ h0=>o1 (R.ss cx a) fun _ h1=>some ⟨_, .sWhl h0 h1⟩))
 (k12:=fun t a b pos=>o1 (R.t cx t) fun _ h0=>o1 (R.ss cx a) fun _ h1=>o1 (R.ss cx b) fun _ h2=>some ⟨_, .sIf h0 h1 h2⟩)
 (k16:=fun _ _ _=>some ⟨_, .sRaise⟩)
 (k19:=fun t m pos=>o1 (R.t cx t) fun _ h0=>some ⟨_, .sAssert h0⟩)
 (k24:=fun l pos=>oF (fS l) fun hc=>o1 (R.e cx false l) fun _ h1=>some ⟨_, .sExpr hc h1⟩)
 (k25:=fun _=>some ⟨_, .sPass⟩)
 (k26:=fun _=>some ⟨_, .sBrk⟩)
 (k27:=fun _=>some ⟨_, .sCont⟩)
noncomputable def EN(xs:List Stmt):Option (uR tb cx xs):=List.rec (motive:=fun xs=>Option (uR tb cx xs)) (some ⟨_, .sNil⟩) (fun x xs _=>o1 (R.s cx x) fun _ h0=>o1 (R.ss cx xs) fun _ h1=>some ⟨_, .sCons h0 h1⟩) xs
end
noncomputable def tr(tb:Tb)(n:Nat):TR tb:=Nat.rec (motive:=fun _=>TR tb) ⟨fun _ _ _=>none,fun _ _=>none,fun _ _=>none,fun _ _=>none,fun _ _=>none,fun _ _=>none,fun _ _=>none,fun _ _=>none,fun _ _=>none⟩ (fun _ R=>⟨trE1 tb R,trT1 tb R,trL1 tb R,trO1 tb R,trQ1 tb R,trI1 tb R,trR1 tb R,trS1 tb R,EN tb R⟩) n
noncomputable def trB(tb:Tb)(cx:Cx)(xs:List Stmt):Option S:=((tr tb 60).ss cx xs).map (·.1)
theorem Cu{tb:Tb}{cx:Cx}{xs:List Stmt}{s:S}(h:trB tb cx xs=some s):Cq cx tb (.ss xs s):=by
 refine e1b (Option.map_eq_some_iff.mp h) fun ct _ b6=>?_;clear h;subst b6;obtain⟨s',hs⟩:=ct;exact hs
end
section
section
variable {prog:Program}{wd:World}{A:Around}{s:Shared}
theorem js{id:String}{args:Args}{b:Builtin}{R:Flow→Shared→Prop}(hq:(PySem.Code.builtin id args).quiet=true)(hb:entryFor table id=some b)(hd:Builtin.Bytes.decodersThatHold.contains id=false)
  (h:wpN (model prog wd) A.in1 (checkBuiltinCall id args) (fun _ s₁=>wpN (model prog wd) (A.under (.builtin id args)) (b args) (Bz (model prog wd) A R) s₁) s):eP (model prog wd) A (.call (.builtin id) args) R s:=by
 refine cT rfl ?_;refine(?_:wpN _ A.in1 (do checkBuiltinCall id args;again (.builtin id args)) _ s)
 exact cy (cE h fun _ s₁ ag=>wpN_pure ⟨hq,iB hb hd ag⟩)
theorem Ff{c:Addr}{rest:List Value}{kw:List (Str×Value)}{fI:Addr}{R:Flow→Shared→Prop}(Y:Makes (model prog wd) s.heap c)(hi:Looks (model prog wd) s.heap (typeLookup (.ref c) "__init__") (some (.ref fI)))
  (hb:∀self,Looks (model prog wd) s.heap (bindSpecial (.ref fI) self) (.ref fI,[self]))
  (hq:eP (model prog wd) (A.under (.builtin "type.__call__" ⟨.ref c::rest,kw⟩)) (.call (.ref fI) ⟨.ref (s.heap.objs.size+1)::rest,kw⟩)
   (fun f s'=>f=.ret .none∧R (.ret (.ref (s.heap.objs.size+1))) s') {s with heap:=(s.heap.push emptyDict).push (kL c s.heap.objs.size #[])}) :
  eP (model prog wd) A (.call (.ref c) ⟨rest,kw⟩) R s:=by
 have Y':=Y;obtain⟨ct,made,base,self,top,call,typ⟩:=Y;refine e4d ct fun oc od cd sl hC e1 e2 e4=>?_;refine cT rfl ?_;refine(?_:wpN _ _ (callAny (.ref c) _) _ _);refine cH (wpAny_load hC ?_);refine(?_:wpN _ _ (callAny.viaDunder (.ref c) _) _ _);unfold callAny.viaDunder;refine cH (call.here ?_);dsimp only;rw[tc_bind];refine cy (wpN_pure (cy (wpN_pure ?_)));refine wpN_pure (a:=PySem.Fin.again (.call (.builtin "type.__call__") ⟨.ref c::rest,kw⟩)) ⟨rfl,?_⟩;refine js (Code.quiet_builtin _ (by decide +kernel)) entry_typeCall (by decide +kernel) (cA (check_slot tc_kind tc_split typ (tc_args _ _ _) ?_))
 unfold Builtin.«type.__call__»;have hm:Looks (model prog wd) s.heap (mroOf (.ref c)) cd.mro:=((Looks.ld (part:=none) hC).andThen .now).andThen .now;refine cF rfl ?_;refine cH (hm.here ?_);refine cF e4 ?_;refine cH (made.here ?_);refine cy (wpN_pure ?_);have ag:codeAny (model prog wd) (A.under (.builtin "type.__call__" ⟨.ref c::rest,kw⟩)) (.call (.builtin "object.__new__") ⟨.ref c::rest,kw⟩) (okR fun f s'=>f=.ret (.ref (s.heap.objs.size+1))∧s'={s with heap:=(s.heap.push emptyDict).push (kL c s.heap.objs.size #[])}) s:=by
  clear typ call top base made ct hm e4 e2 e1 hC sl cd od oc;obtain⟨hh,g,d,t,os⟩:=s;exact new_K Y' hi (.inl rfl) ⟨rfl,rfl⟩
 refine cy (cB (wpN_call (dJ (qM ag) fun f s₁ hf=>?_)));refine e0b hf fun b6 a3=>?_;clear hf;subst b6 a3;have k:∀b o,s.heap.get? b=some o→((s.heap.push emptyDict).push (kL c s.heap.objs.size #[])).get? b=some o:=fun b o e=>Gy _ (Gy _ e);have hx:((s.heap.push emptyDict).push (kL c s.heap.objs.size #[])).get? (s.heap.objs.size+1)=some (kL c s.heap.objs.size #[]):=by heap_get
 have t1:Looks (model prog wd) ((s.heap.push emptyDict).push (kL c s.heap.objs.size #[])) (typeOf (.ref (s.heap.objs.size+1))) (.ref c):=(Looks.ld hx).andThen .now;dsimp only;unfold isInstance;refine cy ?_;refine cH (Looks.here (s:={s with heap:=(s.heap.push emptyDict).push (kL c s.heap.objs.size #[])}) t1 ?_);refine cA (Looks.here (s:={s with heap:=(s.heap.push emptyDict).push (kL c s.heap.objs.size #[])}) (self.keeps k) ?_);refine cF rfl ?_;refine cy (cB ?_);unfold callSpecial? specialOf;refine cy ?_;refine cH (Looks.here (s:={s with heap:=(s.heap.push emptyDict).push (kL c s.heap.objs.size #[])}) t1 ?_);refine cA (Looks.here (s:={s with heap:=(s.heap.push emptyDict).push (kL c s.heap.objs.size #[])}) (hi.keeps k) ?_);dsimp only;refine cB ?_;refine cH (Looks.here (s:={s with heap:=(s.heap.push emptyDict).push (kL c s.heap.objs.size #[])}) ((hb (.ref (s.heap.objs.size+1))).keeps k) ?_);dsimp only;refine cy (wpN_call (dJ hq fun f ar hf=>?_));refine e0b hf fun b6 hR=>?_;clear hf;subst b6;exact wpN_pure (cF rfl (wpN_pure hR))
end
end
section
theorem Inv.newInst{H0:Heap}{f:Gm}{G:Gh}{σ:List O}{h:Heap}(I:Inv H0 f G σ h)(c:Addr)(n:Nat) :
  ∃G':Gh,G.Le G'∧Inv H0 f G' (σ++[.cinst c (List.replicate n .unset) 0]) ((h.push emptyDict).push (kL c h.objs.size #[]))∧G'.k.id σ.length=some (h.objs.size+1)∧((∀a j,G.ow a≠some (0,j))→∀a j,G'.ow a≠some (0,j)):=by
 have fresh:∀a,h.objs.size≤a→G.g a=none∧f a=none∧G.ow a=none:=fun a ha=>by
  refine⟨?_,?_,?_⟩
  ·cases q:G.g a with
   |none=>rfl
   |some o=>exact absurd (GT (I.gg _ _ q)) (Nat.not_lt.mpr ha)
  ·cases q:f a with
   |none=>rfl
   |some o=>exact absurd (GT (I.ff _ _ q)) (Nat.not_lt.mpr ha)
  ·cases q:G.ow a with
   |none=>rfl
   |some o=>refine e1a ((I.own _ _ q).2.2) fun x hx=>?_;exact absurd (GT hx) (Nat.not_lt.mpr ha)
 refine e0c (fresh h.objs.size (Gw _)) fun d1 d2 d3=>?_;refine e0c (fresh (h.objs.size+1) (Nat.le_succ _)) fun x1 x2 x3=>?_;have hk:∀b o,h.get? b=some o→((h.push emptyDict).push (kL c h.objs.size #[])).get? b=some o:=fun b o e=>Gy _ (Gy _ e);have hd:((h.push emptyDict).push (kL c h.objs.size #[])).get? h.objs.size=some emptyDict:=Gy _ (GG _ rfl);have hx:((h.push emptyDict).push (kL c h.objs.size #[])).get? (h.objs.size+1)=some (kL c h.objs.size #[]):=by heap_get
 let G':Gh:=⟨fun a=>if a=h.objs.size then some emptyDict else G.g a,⟨fun i=>if i=σ.length then some (h.objs.size+1)else G.k.id i,G.k.inn⟩,fun a=>if a=h.objs.size+1 then some (σ.length+1,0)else G.ow a⟩
 have hg:∀a o,G.g a=some o→G'.g a=some o:=fun a o e=>(if_neg fun q=>by subst q;rw[d1]at e;exact ns e).trans e
 have c3:∀i a,G.k.id i=some a→G'.k.id i=some a:=fun i a e=>(if_neg fun q=>by subst q;rw[(I.dom _ (Gw _)).1]at e;exact ns e).trans e
 have how:∀a y,G.ow a=some y→G'.ow a=some y:=fun a y e=>(if_neg fun q=>by subst q;rw[x3]at e;exact ns e).trans e
 refine⟨G',⟨hg,c3,fun _ _ _ _ e=>e⟩,⟨fun a o e=>hg _ _ (I.base a o e),fun a o e=>?_,fun a o e=>hk _ _ (I.ff a o e),fun a o e=>?_,fun a y e=>?_,fun i o e=>?_,fun i e=>?_⟩,if_pos rfl,fun b4 a j e=>?_⟩
 ·change (if a=h.objs.size then some emptyDict else G.g a)=some o at e
  split at e
  ·rename_i q;subst q;obtain rfl:=sj e;exact hd
  ·exact hk _ _ (I.gg a o e)
 ·exact(if_neg fun q=>by subst q;rw[d2]at e;exact ns e).trans (I.fg a o e)
 ·change (if a=h.objs.size+1 then some (σ.length+1,0)else G.ow a)=some y at e
  split at e
  ·rename_i q;subst q;exact⟨(if_neg (Nat.succ_ne_self _)).trans x1,x2,_,hx⟩
  ·refine e0c (I.own a y e) fun h1 h2 zr=>e1a zr fun o h3=>?_;exact⟨(if_neg fun q=>by subst q;exact absurd (GT h3) (Nat.lt_irrefl _)).trans h1,h2,o,hk _ _ h3⟩
 ·rcases Nat.lt_trichotomy i σ.length with hi|hi|hi
  ·rw[G7 hi]at e;exact ny.mono (G:=G) hg (c3 i) (fun _ _=>rfl) (fun a j e=>⟨how _ _ e,hk a⟩) (I.obj i o e)
  ·subst hi;rw[List.getElem?_append_right (Gw _),Nat.sub_self]at e;obtain rfl:=sj e;refine⟨h.objs.size+1,h.objs.size,#[],if_pos rfl,if_pos rfl,hx,if_pos rfl,fun m y hy=>?_,fun m v a hy=>?_⟩
   ·rw[List.getElem?_replicate]at hy
    split at hy
    ·obtain rfl:=sj hy;simp[Ch]
    ·exact ns hy
   ·have:G.k.inn σ.length m v=some a:=hy;rw[(I.dom _ (Gw _)).2]at this;exact ns this
  ·rw[List.getElem?_eq_none (by simp;exact hi)]at e;exact ns e
 ·simp only[Gr,GR,List.length_nil]at e;exact⟨(if_neg (by exact Nat.ne_of_gt (cG [] [_,_] bc ae 1 [.j 1 (.a ab bj) ae] rfl e))).trans (I.dom i (by exact cG [] [_,_] ab ae 1 [.j 1 (.a ab bj) ae] rfl e)).1,(I.dom i (by exact cG [] [_,_] ab ae 1 [.j 1 (.a ab bj) ae] rfl e)).2⟩
 ·change (if a=h.objs.size+1 then some (σ.length+1,0)else G.ow a)=some (0,j)at e
  split at e
  ·cases e
  ·exact b4 a j e
noncomputable def fu(ctr:Ctr)(c:Addr)(n:Nat):Ctr:=fun args kws objs Q=>ctr (.ref objs.length::args) kws (objs++[.cinst c (List.replicate n .unset) 0]) fun v a0=>s6 v=true∧Q (.ref objs.length) a0
theorem xt(A:Around)(c:Addr)(rest:List Value)(kw:List (Str×Value)):(A.under (.builtin "type.__call__" ⟨.ref c::rest,kw⟩)).guards=A.guards∧(A.under (.builtin "type.__call__" ⟨.ref c::rest,kw⟩)).handled=A.handled∧(A.under (.builtin "type.__call__" ⟨.ref c::rest,kw⟩)).depth≤A.depth+1:=by
 refine⟨?_,rfl,?_⟩
 ·have:PySem.Code.guards (.builtin "type.__call__" ⟨.ref c::rest,kw⟩)=[]:=by unfold PySem.Code.guards;rw[if_neg];refine(?_:¬(guardIds.contains "type.__call__" = true));decide +kernel
  unfold Around.under;dsimp only;rw[this];rfl
 ·unfold Around.under;dsimp only;have:PySem.Code.weight (.builtin "type.__call__" ⟨.ref c::rest,kw⟩)≤1:=by
   unfold PySem.Code.weight;have h1:PySem.Code.frames (.builtin "type.__call__" ⟨.ref c::rest,kw⟩)=0:=by kernel_rfl
   have h2:PySem.Code.isGuard (.builtin "type.__call__" ⟨.ref c::rest,kw⟩)=false:=by refine(?_:guardIds.contains "type.__call__" = false);decide +kernel
   have h3:PySem.Code.isCaller (.builtin "type.__call__" ⟨.ref c::rest,kw⟩)=false:=by kernel_rfl
   rw[h1,h2,h3];simp only[Bool.false_eq_true,if_false]
   split<;>(first|exact(cG [] [] (.a (.a bj ax) ax) ai 1 [] rfl)|exact cG [] [] (.a (.a (.a ax ax) ax) ax) ai 1 [] rfl)
  exact cG [] [_,_] bg bc 1 [.j 1 ae ai] rfl this
theorem oK.make{H0:Heap}{prog:Program}{wd:World}{n:Nat}{c fi:Addr}{ctr:Ctr}{K:Frag}{k:Nat}(X:K.In H0)(hF:oK H0 prog wd n fi ctr)(a0:makesIn K c=true)(ep:findIn K (.ref c) "__init__" = some (some (.ref fi)))(ht:typeIn K (.ref fi)=some (.type "function")) :
  oK H0 prog wd (n+1) c (fu ctr c k):=by
 refine⟨?_,fun A f G s σ args kws vs kvs Q gd I b4 hv hk h=>?_⟩
 ·have Y:=makes_of (M:=model prog wd) X a0;obtain⟨ct,_,_,_,_,call,_⟩:=Y;refine e4b ct fun oc od cd sl hC _=>?_;refine⟨.machine,?_⟩;unfold keeperOf;refine(Looks.ld hC).andThen ?_;refine call.andThen ?_;exact .now
 ·have h0:∀b o,H0.get? b=some o→s.heap.get? b=some o:=fun b o e=>I.gg b o (I.base b o e);have Xs:K.In s.heap:=X.keeps h0;refine e1d (I.newInst c k) fun G₁ a4 b3 c3 ah=>?_;refine Ff (makes_of Xs a0) (looks_findIn Xs ep) (fun self=>bind_fn Xs self ht) ?_;refine e0c (xt A c vs kvs) fun u1 u2 u3=>?_;have gu:(A.under (.builtin "type.__call__" ⟨.ref c::vs,kvs⟩)).units=A.units+1:=by
   have h1:PySem.Code.frames (.builtin "type.__call__" ⟨.ref c::vs,kvs⟩)=0:=by kernel_rfl
   refine(?_:A.units+(1+3*PySem.Code.frames (.builtin "type.__call__" ⟨.ref c::vs,kvs⟩))=_);rw[h1]
  have gd':nS n (A.under (.builtin "type.__call__" ⟨.ref c::vs,kvs⟩)):=⟨u1.trans gd.guards,u2.trans gd.handled,by have:=gd.depth;exact(cG [] [_,_,_] bg (.n 900) 1 [.j 1 ab bf,.j 1 (.a aj be) (.n 900)] rfl u3 this),by have:=gd.units;exact cG [] [_,_,_] (.a ab (.m 8 ae)) aZ 1 [.f 1 ab bf,.j 1 (.a aj (.m 8 be)) aZ] rfl gu this⟩
  have hw:=hF.call (A.under (.builtin "type.__call__" ⟨.ref c::vs,kvs⟩)) f G₁ {s with heap:=(s.heap.push emptyDict).push (kL c s.heap.objs.size #[])} _ (.ref σ.length::args) kws (.ref (s.heap.objs.size+1)::vs) kvs _ gd' b3 (ah b4)
   ⟨_,_,rfl,⟨_,c3,rfl⟩,hv.le a4⟩ (hk.mono a4.g) h
  refine dJ hw fun fl s' zp=>e1b zp fun v a3 zp=>e3g zp fun G' σ' x sm le hl I' hx hn q=>?_;subst a3;have d4:v=.none:=by have:=mU hx;rw[hn]at this;exact beq_iff_eq.mp this
  subst d4;refine⟨rfl,_,rfl,G',σ', .ref σ.length,(show gi s {s with heap:=(s.heap.push emptyDict).push (kL c s.heap.objs.size #[])}from⟨rfl,rfl,rfl⟩).trans sm,(a4.toN _).trans (le.mono (by simp)),by simp at hl;exact(cG [] [_,_] ab ae 1 [.j 1 bc ae] rfl hl),I',⟨_,le.id _ _ (by simp) c3,rfl⟩,q⟩
end
section
theorem gN(i:Int)(n d:Nat)(h0:0≤i)(h1:i≤n):wM (.int i) n d=some i.toNat:=by
 refine(?_:some (max 0 (min (at_ i n) n)).toNat=_);have:at_ i n=i:=if_neg (by exact Int.not_lt.mpr (h0))
 rw[this]
 congr 1
 exact jl [_,_,_] [_,_] ab ae [.e 1 aa am,.e (-1) ak am,.e 1 aD aa,.e 1 af aD] rfl (Int.min_eq_left (h1)) (Gl (h0)) (Int.max_eq_right (G9 h0 (G6 (Eq.symm (Int.min_eq_left (h1)))))) (Gl ((Int.le_max_left _ _)))
theorem Fy(w:Nat)(n:Int):(gl (le w n):Int)=n % 2 ^ (8*w):=by
 have key:∀(w k m:Nat),gl ((List.range' k w).map fun j=>(m / 256 ^ j % 256).toUInt8)=m / 256 ^ k % 256 ^ w:=by
  intro w
  induction w with
  |zero=>intro k m;simp[gl,Nat.mod_one]
  |succ w ih=>
   intro k m;rw[List.range'_succ,List.map_cons];refine(?_:gl _*256+(m / 256 ^ k % 256).toUInt8.toNat=_);rw[ih];have h1:(m / 256 ^ k % 256).toUInt8.toNat=m / 256 ^ k % 256:=by
    simp[Nat.toUInt8,UInt8.toNat_ofNat']
   rw[h1,Nat.pow_succ 256 k,←Nat.div_div_eq_div_mul,Nat.pow_succ 256 w,Nat.mul_comm (256 ^ w) 256,Nat.mod_mul];exact jl [] [_,_] (.a (.r ab 256) ae) (.a ae (.m 256 ab)) [] rfl
 unfold le;rw[List.range_eq_range',key w 0];have h2:(256:Nat) ^ w=2 ^ (8*w):=by rw[show(256:Nat)=2 ^ 8 from rfl,←Nat.pow_mul]
 rw[Nat.pow_zero,Nat.div_one,h2];have hp:(0:Int)<2 ^ (8*w):=Int.pow_pos (by decide)
 have h0:(0:Int)≤n % 2 ^ (8*w):=Int.emod_nonneg _ (by exact Int.ne_of_gt (hp))
 rw[Nat.mod_eq_of_lt]
 ·exact Gl h0
 ·have:=Int.emod_lt_of_pos n hp;have e:((2 ^ (8*w):Nat):Int)=2 ^ (8*w):=by push_cast;rfl
  exact cG [_,_] [_,_] bc ae 1 [.i 1 bi am,.e (-1) ak am,.e 1 af aa] rfl this e (Gl (h0))
theorem E7(F:Fm)(n:Int)(h0:F.lo≤n)(h1:n≤F.hi):F.rd (le F.w n)=n:=by
 have h:=Fy F.w n;unfold Fm.rd;by_cases hd:gl (le F.w n)≥2 ^ (8*F.w-1)
 ·rw[decide_eq_true hd]
  cases F<;>simp only[Fm.lo,Fm.hi]at h0 h1<;>simp only[Fm.w,Fm.sg,Nat.reduceMul,Nat.reduceSub,Nat.reducePow,Int.reducePow,Bool.and_true,Bool.false_eq_true,if_false,if_true]at h hd ⊢<;>lia
 ·rw[decide_eq_false hd]
  cases F<;>simp only[Fm.lo,Fm.hi]at h0 h1<;>simp only[Fm.w,Fm.sg,Nat.reduceMul,Nat.reduceSub,Nat.reducePow,Int.reducePow,Bool.and_false,Bool.false_eq_true,if_false]at h hd ⊢<;>lia
theorem mS{n0:Nat}{chk:St→Prop}{step:P→St→(Fl→St→Prop)→Prop}{Q:Fl→St→Prop}(I:List P→St→Prop)
  (a0:∀x xs st (K:Fl→St→Prop),I (x::xs) st→(∀b3,I xs (iu n0 b3)→K .next b3∧K .cont b3)→(∀b3,Q .next b3→K .brk b3)→(∀v b3,Q (.ret v) b3→K (.ret v) b3)→chk st∧step x st K)
  (b4:∀st,I [] st→chk st∧Q .next st):∀xs st,I xs st→vV n0 chk step xs st Q
 |[],st,h=>b4 st h
 |x::xs,st,h=>a0 x xs st _ h (fun b3 h'=>⟨mS I a0 b4 xs _ h',mS I a0 b4 xs _ h'⟩) (fun _ h=>h) (fun _ _ h=>h)
theorem qJ{chk:St→Prop}{step:P→St→(List P→St→Prop)→Prop}{Q:List P→St→Prop}(I:List P→List P→St→Prop)
  (a0:∀x xs acc st (K:List P→St→Prop),I (x::xs) acc st→(∀ys b3,I xs (acc++ys) b3→K ys b3)→chk st∧step x st K)
  (b4:∀acc st,I [] acc st→chk st∧Q acc st):∀xs acc st,I xs acc st→qK chk step xs acc st Q
 |[],acc,st,h=>b4 acc st h
 |x::xs,acc,st,h=>a0 x xs acc st _ h fun ys b3 h'=>qJ I a0 b4 xs _ _ h'
theorem qu{n0:Nat}{chk:St→Prop}{step:P→St→(Fl→St→Prop)→Prop}{Q:Fl→St→Prop}(I:List P→St→Prop)
  (a0:∀x xs st (K:Fl→St→Prop),I (x::xs) st→(∀b3,I xs (iu n0 b3)→K .next b3∧K .cont b3)→(∀b3,Q .next b3→K .brk b3)→(∀v b3,Q (.ret v) b3→K (.ret v) b3)→chk st∧step x st K)
  (b4:∀st,I [] st→chk st∧Q .next st) (xs:List P) (st:St) (h:I xs st):km n0 chk step xs st Q:=by
 unfold km;exact mS I a0 b4 xs st h
theorem qL{chk:St→Prop}{step:P→St→(List P→St→Prop)→Prop}{Q:List P→St→Prop}(I:List P→List P→St→Prop)
  (a0:∀x xs acc st (K:List P→St→Prop),I (x::xs) acc st→(∀ys b3,I xs (acc++ys) b3→K ys b3)→chk st∧step x st K)
  (b4:∀acc st,I [] acc st→chk st∧Q acc st) (xs acc:List P) (st:St) (h:I xs acc st):uc chk step xs acc st Q:=by
 unfold uc;exact qJ I a0 b4 xs acc st h
theorem Af{n0:Nat}{test:St→(Bool→St→Prop)→Prop}{body:St→(Fl→St→Prop)→Prop}{Q:Fl→St→Prop}(I:Nat→St→Prop)
  (a0:∀k st (K:Fl→St→Prop),I k st→(∀b3 m,m<k→I m (iu n0 b3)→K .next b3∧K .cont b3)→(∀b3,Q .next b3→K .brk b3)→(∀v b3,Q (.ret v) b3→K (.ret v) b3)→
   test st fun b st=>br b (body st K) (Q .next st)) (k:Nat) (st:St) (h:I k st):∃n,Ag n0 test body n st Q:=by
 refine⟨k+1,?_⟩;have key:∀n k st,k<n→I k st→Ag n0 test body n st Q:=by
  intro n
  induction n with
  |zero=>intro k st h;lia
  |succ n ih=>
   intro k st hk h;exact a0 k st _ h (fun b3 m hm h'=>⟨ih m _ (by exact cG [] [_,_,_] bc ae 1 [.j 1 bf be,.j 1 bc aj] rfl hk hm) h',ih m _ (by exact cG [] [_,_,_] bc ae 1 [.j 1 bf be,.j 1 bc aj] rfl hk hm) h'⟩) (fun _ h=>h) (fun _ _ h=>h)
 exact key _ k st (Nat.lt_succ_self k) h
structure Ab where
 T:List UInt8
 room:Int
 mal:Int
 vt:Option (List Int)
 nested:Bool
 oe:P
 force:Bool
 fin:Bool
 sh:P
 vne:Option P
 vts:List (P×P)
noncomputable def vtS(v:Option (List Int)):Sl:=match v with|none=>.v .none|some l=>.bx (.lst (l.map .int))
noncomputable def vneS(v:Option P):Sl:=match v with|none=>.unset|some p=>.v p
noncomputable def bo(c:Addr)(a:Ab)(bytes:List UInt8)(head:Int)(ver:Nat):O:=
 .cinst c [.bx (.ba bytes),vtS a.vt, .v (.bool a.fin), .v (.bool a.force), .v (.int head), .v (.int a.mal), .v (.bool a.nested), .v a.oe, .v a.sh,vneS a.vne, .bx (.dict a.vts)] ver
structure Rb(T:List UInt8)(room:Int)(bytes:List UInt8)(head:Int):Prop where
 h0:0≤head
 rm:room≤head
 eq:bytes.drop head.toNat=T
 le:head≤bytes.length
 cap:bytes.length≤4194304
theorem Rb.len{T:List UInt8}{room:Int}{bytes:List UInt8}{head:Int}(h:Rb T room bytes head):(bytes.length:Int)-head=T.length:=by
 have:=congrArg List.length h.eq;rw[GX]at this;have:=h.h0;have:=h.le;exact gL [_] [_,_,_,_] bl ak [.f 1 aj ae,.e 1 az aa,.f (-1) bG ab] rfl (by assumption) (Gl ((by assumption))) (Go (cG [_] [_,_] ab ae 1 [.i 1 aa ak,.e 1 af aa] rfl this (Gl ((by assumption)))))
theorem EF{b:Bool}{X Y:Prop}(h:b=true)(x:X):br b X Y:=⟨fun _=>x,fun q=>(by rw[h]at q;exact tf q)⟩
theorem uB{b:Bool}{X Y:Prop}(h:b=false)(y:Y):br b X Y:=⟨fun q=>(by rw[h]at q;exact ft q),fun _=>y⟩
theorem u5{G:Pg}{a b:S}{st:St}{Q:Fl→St→Prop}(R:St→Prop)(h1:∀K:Fl→St→Prop,(∀b3,R b3→K .next b3)→(∀f b3,f≠.next→Q f b3→K f b3)→wS G a st K)(h2:∀b3,R b3→wS G b b3 Q) :
  wS G (.seq a b) st Q:=by
 refine(?_:wS G a st fun f st=>match f with|.next=>wS G b st Q|f=>Q f st)
 refine h1 _ (fun b3 h=>h2 b3 h) fun f b3 hf h=>?_;clear h2 h1 R st;cases f<;>first|exact absurd rfl hf|exact h
noncomputable def um(k:Nat)(d:P):List V→List (Str×P)→Option (List V):=fun args kws=>k0 kws (bif Nat.beq args.length k then some (args++[.p d])else bif Nat.beq args.length (k+1)then some args else none)
noncomputable def y6(k:Nat)(n:Str):List V→List (Str×P)→Option (List V):=fun args kws=>k1 kws fun m x=>bif decide (m=n)&&Nat.beq args.length k then some (args++[.p x])else none
theorem uk{k:Nat}{n:Str}{args:List V}{x:P}(h:Nat.beq args.length k=true):y6 k n args [(n,x)]=some (args++[.p x]):=by
 refine(?_:(bif decide (n=n)&&Nat.beq args.length k then some (args++[.p x])else none)=_)
 rw[decide_eq_true rfl,h];rfl
end
section
section
variable {H0:Heap}{prog:Program}{wd:World}{K:Frag}{fd:FuncData}{pn:List Str}{k:Nat}
theorem Ad{pn:List Str}{vs:List Value}(h:pn.length=vs.length):(pn.zip vs).map (·.1)=pn:=List.map_fst_zip (by exact(GF h))
theorem Ac{pn:List Str}{vs:List Value}(h:pn.length=vs.length):(pn.zip vs).map (·.2)=vs:=List.map_snd_zip (by exact(GF (Eq.symm h)))
theorem mq{A:Around}{f:Gm}{G:Gh}{s:Shared}{σ:List O}{us:List Value}{env:List V}{t:Sem (List (Str×Value))}(X:K.In H0)(I:Inv H0 f G σ s.heap)(b4:∀a j,G.ow a≠some (0,j))(hp:peek K ⟨prog,wd.params⟩ t=some (pn.zip us))(hl:pn.length=us.length)(hv:cZ G.g G.k env us) :
  wpN (model prog wd) A t (fun binds s'=>∃G',gi s s'∧G.Le G'∧Inv H0 f G' σ s'.heap∧(∀a j,G'.ow a≠some (0,j))∧binds.map (·.1)=pn∧cZ G'.g G'.k env (binds.map (·.2))) s:=
 cA ((Looks.of_peek (X.keeps fun b o h=>I.gg b o (I.base b o h)) hp).here ⟨G, .refl _, .refl _,I,b4,Ad hl,(Ac hl).symm▸hv⟩)
theorem qY(X:K.In H0)(hk:pn.length=k)(h:∀vs:List Value,vs.length=k→∀S,peek K S (bindArgs fd ⟨vs,[]⟩)=some (pn.zip vs)):oL H0 prog wd fd pn (cQ k):=by
 intro A f G s σ args kws vs kvs env I b4 hv a5 hb;refine e0b (Bg hb) fun ek hb=>e0b (tA hb) fun hl ee=>?_;clear hb;subst ek ee a5;have a0:vs.length=k:=hv.length.trans (Nat.eq_of_beq_eq_true hl);exact mq X I b4 (h vs a0 _) (hk.trans a0.symm) hv
theorem cZ.snoc{g:Gm}{b:lg}:∀{xs:List V} {vs:List Value} {x:V} {v:Value},cZ g b xs vs→dk g b x v→cZ g b (xs++[x]) (vs++[v])
 |[],vs,x,v,h,hx=>by subst h;exact⟨v,[],rfl,hx,rfl⟩
 |y::ys,vs,x,v,h,hx=>by
  refine e2c h fun w r b6 h1 h2=>?_;clear h;subst b6;exact⟨w,r++[v],rfl,h1,h2.snoc hx⟩
theorem ul(X:K.In H0){n:Str}(hk:pn.length=k+1)(h:∀(vs:List Value) (v:Value),vs.length=k→∀S,peek K S (bindArgs fd ⟨vs,[(n,v)]⟩)=some (pn.zip (vs++[v]))):oL H0 prog wd fd pn (y6 k n):=by
 intro A f G s σ args kws vs kvs env I b4 hv a5 hb;refine e2b (Fu hb) fun m x ek hb=>e0b (tA hb) fun hc ee=>e0b (Bool.and_eq_true_iff.mp hc) fun hm hl=>?_;have hm:=GI hm;clear hb hc;subst ek ee hm;have a0:vs.length=k:=hv.length.trans (Nat.eq_of_beq_eq_true hl);refine e2c a5 fun v t b6 hx ht=>?_;clear a5 hl;subst b6 ht;exact mq X I b4 (h vs v a0 _) (by rw[Gr,a0,hk];rfl) (hv.snoc (vp hx))
theorem Inv.pushG{f:Gm}{G:Gh}{σ:List O}{h:Heap}(I:Inv H0 f G σ h)(o:Obj)(hf:o.isFreed=false) :
  ∃G',G.Le G'∧Inv H0 f G' σ (h.push o)∧G'.g h.objs.size=some o∧G'.k=G.k∧G'.ow=G.ow:=by
 have hk:∀a x,h.get? a=some x→(h.push o).get? a=some x:=fun a x e=>Gy _ e;have I1:=I.keeps hk;have fr:∀a,h.objs.size≤a→G.g a=none∧f a=none∧G.ow a=none:=fun a q=>by
  refine⟨?_,?_,?_⟩
  ·cases e:G.g a with
   |none=>rfl
   |some o=>exact absurd (GT (I.gg _ _ e)) (Nat.not_lt.mpr q)
  ·cases e:f a with
   |none=>rfl
   |some o=>exact absurd (GT (I.ff _ _ e)) (Nat.not_lt.mpr q)
  ·cases e:G.ow a with
   |none=>rfl
   |some o=>refine e1a ((I.own _ _ e).2.2) fun x hx=>?_;exact absurd (GT hx) (Nat.not_lt.mpr q)
 refine e0c (fr _ (Gw _)) fun f1 f2 f3=>?_;have key:∀b x,G.g b=some x→(if b=h.objs.size then some o else G.g b)=some x:=fun b x e=>by
  by_cases q:b=h.objs.size
  ·clear fr hk;subst q;rw[f1]at e;exact ns e
  ·rw[if_neg q];exact e
 refine⟨⟨fun b=>if b=h.objs.size then some o else G.g b,G.k,G.ow⟩,⟨key,fun _ _ e=>e,fun _ _ _ _ e=>e⟩,?_,if_pos rfl,rfl,rfl⟩
 exact{
  base:=fun a x e=>key a x (I.base a x e)
  gg:=fun a x e=>by
   dsimp only at e
   split at e
   ·rename_i q;obtain rfl:=sj e;clear fr hk f1;subst q;exact GG _ hf
   ·exact I1.gg a x e
  ff:=I1.ff
  fg:=fun a x e=>by
   dsimp only
   split
   ·rename_i q;clear hf fr hk f1;subst q;rw[f2]at e;exact ns e
   ·exact I.fg a x e
  own:=fun a x e=>by
   refine e0c (I1.own a x e) fun o1 o2 o3=>?_;refine⟨?_,o2,o3⟩;dsimp only
   split
   ·rename_i q;clear hf I o3 o2 fr hk f2 f1;subst q;rw[f3]at e;exact ns e
   ·exact o1
  obj:=fun i x e=>(I1.obj i x e).mono key (fun _ e=>e) (fun _ _=>rfl) fun a j y=>⟨y,fun o z=>z⟩
  dom:=I1.dom}
set_option tactic.hygienic true in
theorem uE{α:Type}{A:Around}{Q:α→Shared→Prop}{s:Shared}{o:Obj}{r:Addr→α}(X:K.In s.heap)(hf:o.isFreed=false)(q:Q (r s.heap.objs.size) {s with heap:=s.heap.push o}) :
  ∀(t:Sem α) (g:Addr→Option α),peek1 K ⟨prog,wd.params⟩ t=some (o,g)→(∀D,g D=some (r D))→wpN (model prog wd) A t Q s:=by
 suffices H:∀(t:Sem α) (g:Addr→Option α),peek1 K ⟨prog,wd.params⟩ t=some (o,g)→(∀D,g D=some (r D))→wpAny (model prog wd) A t Q noE s from fun t g e h=>cA (H t g e h)
 intro t
 induction t with
 |rule _ k ih=>intro g e hg Γ p hΓ;exact ih () g e hg Γ p hΓ
 |point _ k ih=>intro g e hg Γ p hΓ;exact ih () g e hg Γ p hΓ
 |ask k ih=>intro g e hg Γ p hΓ;exact ih _ g e hg Γ p hΓ
 |load a _ k ih=>
  intro g e hg Γ p hΓ;simp only[peek1]at e
  split at e
  ·rename_i ob ho;exact⟨ob,X _ _ ho,ih ob g e hg Γ p hΓ⟩
  ·exact ns e
 |alloc ob k _=>
  intro g e hg;have e:some (ob,fun D=>peek K ⟨prog,wd.params⟩ (k D))=some (o,g):=e;refine e0b (Prod.mk.inj (Option.some.inj e)) fun e1 e2=>?_;clear hf;subst e1;subst e2;have X':K.In (s.heap.push ob):=X.keeps fun b x hb=>Gy _ hb;refine(?_:wpAny (model prog wd) A (alloc ob>>=k) Q noE s);refine Gn (wpAny_alloc ?_);exact(Looks.of_peek (M:=model prog wd) (h:=s.heap.push ob) X' (hg s.heap.objs.size)).here (s:={s with heap:=s.heap.push ob}) q
 |_=>intro g e;exact ns e
noncomputable def w0:List V→List (Str×P)→Option (List V):=fun args kws=>match args with
 |[]=>none
 |a::r=>(ps? r).bind fun ps=>bif Nat.beq ps.length 3&&kws.isEmpty then some [a, .p (.tup ps)]else none
theorem uo{args:List V}{kws:List (Str×P)}{env:List V}(h:w0 args kws=some env){G:Prop}(k:∀a x y z,args=[a, .p x, .p y, .p z]→kws=[]→env=[a, .p (.tup [x,y,z])]→G):G:=by
 cases args with
 |nil=>exact ns h
 |cons a r=>
  refine e1b (Option.bind_eq_some_iff.mp h) fun ps h1 h2=>?_;have h1:=zy h1;clear h;cases q:Nat.beq ps.length 3&&kws.isEmpty with
  |false=>rw[q]at h2;exact ns h2
  |true=>
   rw[q]at h2;refine e0b (Bool.and_eq_true_iff.mp q) fun q1 q2=>?_;have h2:=sj h2;clear q
   cases ps with
   |nil=>exact ft q1
   |cons x ps=>cases ps with
    |nil=>exact ft q1
    |cons y ps=>cases ps with
     |nil=>exact ft q1
     |cons z ps=>cases ps with
      |nil=>exact k a x y z (h1▸rfl) (List.isEmpty_iff.mp q2) h2.symm
      |cons _ _=>exact ft q1
theorem uq(X:K.In H0){m n:Str}(h:∀a b c d:Value,∀S,peek1 K S (bindArgs fd ⟨[a,b,c,d],[]⟩)=some ({cls:=.type "tuple",data:=.seq #[b,c,d]},fun D=>some [(m,a),(n, .ref D)])):oL H0 prog wd fd [m,n] w0:=by
 intro A f G s σ args kws vs kvs env I b4 hv a5 hb;have Xs:K.In s.heap:=X.keeps fun b o h=>I.gg b o (I.base b o h);refine uo hb fun a x y z q1 q2 q3=>?_;clear hb X;subst q1 q2 q3 a5;refine e2c hv fun va r1 q ha cc=>?_;clear hv;subst q;refine e2c cc fun vx r2 q hx ac=>?_;clear cc;subst q;refine e2c ac fun vy r3 q hy a0=>?_;clear ac;subst q;refine e2c a0 fun vz r4 q hz hv4=>?_;clear a0;subst q;subst hv4;refine uE Xs rfl ?_ _ _ (h va vx vy vz _) (r:=fun D=>[(m,va),(n, .ref D)]) (fun D=>rfl);refine e1e (I.pushG {cls:=.type "tuple",data:=.seq #[vx,vy,vz]} rfl) fun G' le I' g' k' o'=>?_;refine⟨G',⟨rfl,rfl,rfl⟩,le,I',fun a j=>by rw[o'];exact b4 a j,rfl,va,_,rfl,ha.le le, .ref s.heap.objs.size,[],rfl,?_,rfl⟩
 exact vp (x:=.tup [x,y,z]) ⟨s.heap.objs.size,_,[vx,vy,vz],0,rfl,g',rfl,vx,_,rfl,PRel.mono le.g hx,vy,_,rfl,PRel.mono le.g hy,vz,_,rfl,PRel.mono le.g hz,rfl⟩
end
end
section
noncomputable section
noncomputable abbrev Au:=PySem.W.Fast.tw10156331382660048174
noncomputable abbrev FG:=PySem.W.Fast.tw11892475500146522536
noncomputable abbrev EP:=PySem.W.Fast.tw14364793385576792824
noncomputable abbrev okQ:=PySem.W.Fast.tw6613529449190102663
noncomputable abbrev Dw:=PySem.W.Fast.tw3805553451399329143
noncomputable abbrev pT:=PySem.W.Fast.tw1435165496053646825
noncomputable abbrev wD:=PySem.W.Fast.tw14289696077712309145
noncomputable abbrev vH:=PySem.W.Fast.tw8920871248978507458
noncomputable abbrev CS:=PySem.W.Fast.tw4187177175401517315
theorem sH : @stepT=Au:=PySem.W.Fast.te10156331382660048174
theorem wJ : @denote=FG:=PySem.W.Fast.te11892475500146522536
theorem uL : @treeTable=EP:=PySem.W.Fast.te14364793385576792824
theorem C4 : @stepOk=okQ:=PySem.W.Fast.te6613529449190102663
theorem yG : @Thread.atExitBegin=Dw:=PySem.W.Fast.te3805553451399329143
theorem uS : @start=pT:=PySem.W.Fast.te1435165496053646825
theorem wC : @fenceModules?=wD:=PySem.W.Fast.te14289696077712309145
theorem vG : @Heap.nsMap=vH:=PySem.W.Fast.te8920871248978507458
theorem xW : @openSeen=CS:=PySem.W.Fast.te4187177175401517315
noncomputable def Dj(p:Program)(w:World):Nat→SharedT→Thread→Option SharedT
 |0,_,_=>none
 |n+1,s,t=>match Dw t with
  |some []=>some s
  |some (_::_)=>none
  |none=>match Au (FG EP) p w s t with
   |some (s',t')=>Dj p w n s' t'
   |none=>none
noncomputable def Cv(p:Program)(w:World)(a0:Nat)(ann:Option Value):Nat→SharedT→Thread→Option SharedT
 |0,_,_=>none
 |n+1,s,t=>match through t with
  |true=>some s
  |false=>match okQ a0 ann t with
   |false=>none
   |true=>match Au (FG EP) p w s t with
    |some (s',t')=>Cv p w a0 ann n s' t'
    |none=>none
theorem wn{p:Program}{w:World}:∀{n:Nat} {s r:SharedT} {t:Thread},Dj p w n s t=some r→importEnds treeTable p w n s.abs t=some r.abs
 |0,_,_,_,h=>by exact ns h
 |n+1,s,r,t,h=>by
  unfold Dj at h;unfold importEnds;rw[←yG]at h
  cases he:t.atExitBegin with
  |some l=>cases l with
   |nil=>rw[he]at h;obtain rfl:=sj h;rfl
   |cons a l=>rw[he]at h;exact ns h
  |none=>
   rw[he]at h;rw[←sH,←wJ,←uL]at h
   cases hs:stepT (denote treeTable) p w s t with
   |none=>rw[hs]at h;exact ns h
   |some x=>obtain⟨s',t'⟩:=x;rw[hs]at h;dsimp only;rw[stepT_spec hs];exact wn h
theorem uI{p:Program}{w:World}{a0:Nat}{ann:Option Value}:∀{n:Nat} {s r:SharedT} {t:Thread},Cv p w a0 ann n s t=some r→topRun treeTable p w a0 ann n s.abs t=some r.abs
 |0,_,_,_,h=>by exact ns h
 |n+1,s,r,t,h=>by
  unfold Cv at h;unfold topRun
  cases he:through t with
  |true=>rw[he]at h;obtain rfl:=sj h;rfl
  |false=>
   rw[he,←C4]at h
   cases hk:stepOk a0 ann t with
   |false=>rw[hk]at h;exact ns h
   |true=>
    rw[hk,←sH,←wJ,←uL]at h
    cases hs:stepT (denote treeTable) p w s t with
    |none=>rw[hs]at h;exact ns h
    |some x=>obtain⟨s',t'⟩:=x;rw[hs]at h;dsimp only;rw[stepT_spec hs];exact uI h
noncomputable def DS:List Obj→Nat→BT→Option (BT×Nat)
 |[],n,t=>some (t,n)
 |o::l,n,t=>match((t.ins n o).get n).isSome with
  |true=>DS l (n+1) (t.ins n o)
  |false=>none
noncomputable def nX(s:Shared):Option SharedT:=match DS s.heap.objs.toList 0 .nil with
 |some (t,n)=>some ⟨t,n,s.heap.life,s.gens,s.drawn,s.toks,s.os⟩
 |none=>none
theorem wV{life:Life}:∀{l:List Obj} {n:Nat} {t t':BT} {n':Nat},DS l n t=some (t',n')→∀{k:List Obj},absHeap t n life=⟨k.toArray,life⟩→absHeap t' n' life=⟨(k++l).toArray,life⟩
 |[],n,t,t',n',h,k,e=>by cases h;rw[List.append_nil];exact e
 |o::l,n,t,t',n',h,k,e=>by
  unfold DS at h
  cases q:((t.ins n o).get n).isSome with
  |false=>rw[q]at h;exact ns h
  |true=>
   rw[q]at h;have e2:absHeap (t.ins n o) (n+1) life=⟨(k++[o]).toArray,life⟩:=by
    rw[absHeap_ins q,e];refine(?_:Heap.mk _ _=_);simp
   have:=wV h e2;rw[this,GE];rfl
theorem nW{s:Shared}{x:SharedT}(h:nX s=some x):x.abs=s:=by
 unfold nX at h
 cases q:DS s.heap.objs.toList 0 .nil with
 |none=>rw[q]at h;exact ns h
 |some r=>
  obtain⟨t,n⟩:=r;rw[q]at h;obtain rfl:=sj h;have e:absHeap t n s.heap.life=s.heap:=(wV (life:=s.heap.life) q (k:=[]) rfl).trans rfl;refine(?_:Shared.mk (absHeap t n s.heap.life) s.gens s.drawn s.toks s.os=s);rw[e]
noncomputable def vE(p:Program)(w:World)(N:Nat):Option (Shared×SharedT):=(nX (pT (opening p)).1).bind fun s=>(Dj (opening p) w N s (pT (opening p)).2).bind fun s=>(wD p s.abs).bind fun b4=>
 bif b4.heap.isNs mainGlobals&&b4.gens.size==0 then(nX b4).bind fun s=>(Cv p w b4.heap.objs.size (vH b4.heap mainGlobals "__annotations__") N s (topStub p)).map fun s₁=>(b4,s₁)else none
theorem pE{α β:Type}{o:Option α}{k:α→Option β}{r:β}{G:Prop}(h:o.bind k=some r)(K:∀a,o=some a→k a=some r→G):G:=by
 cases o with
 |none=>exact ns h
 |some a=>exact K a rfl h
theorem BL{α:Type}{b:Bool}{x:Option α}{r:α}{G:Prop}(h:(bif b then x else none)=some r)(K:b=true→x=some r→G):G:=by
 cases b with
 |false=>exact ns h
 |true=>exact K rfl h
theorem yh{p:Program}{w:World}{N:Nat}{b4:Shared}{s₁:SharedT}{G:Prop}(h:vE p w N=some (b4,s₁))
  (K:∀a b d,nX (pT (opening p)).1=some a→Dj (opening p) w N a (pT (opening p)).2=some b→wD p b.abs=some b4→(b4.heap.isNs mainGlobals&&b4.gens.size==0)=true→nX b4=some d→
   Cv p w b4.heap.objs.size (vH b4.heap mainGlobals "__annotations__") N d (topStub p)=some s₁→G):G:=
 pE h fun a h1 h=>pE h fun b h2 h=>pE h fun c h3 h=>BL h fun h4 h=>pE h fun d h5 h=>(Option.map_eq_some_iff.mp h).elim fun e h=>by cases h.2;exact K a b d h1 h2 h3 h4 h5 h.1
theorem yg{p:Program}{w:World}{N:Nat}{b4:Shared}{s₁:SharedT}(h:vE p w N=some (b4,s₁)) :
  fencedOpening treeTable p w N=some b4∧(b4.heap.isNs mainGlobals&&b4.gens.size==0)=true∧topRun treeTable p w b4.heap.objs.size (b4.heap.nsMap mainGlobals "__annotations__") N b4 (topStub p)=some s₁.abs:=
 yh h fun a b d h1 h2 h3 h4 h5 h6=>by
  rw[←uS]at h1 h2;rw[←wC]at h3;rw[←vG]at h6;have i1:=wn h2;rw[nW h1]at i1;have i2:=uI h6;rw[nW h5]at i2;exact⟨by unfold fencedOpening;rw[i1];exact h3,h4,i2⟩
noncomputable def yo{α:Type}(p q:Program)(loose:List Str)(Yt:SharedT→α)(x:Shared×SharedT):=
 (staticsOk (importedModules p.main.body) x.1.heap x.2.abs.heap&&namesBound p x.2.abs.heap&&gensDone x.2.abs&&laidKept x.1.heap x.2.abs.heap,CS q loose (importedModules p.main.body) (fun _=>true) true x.2.abs,Yt x.2)
theorem Fp{p q:Program}{loose:List Str}{α:Type}{Yf:Shared→α}{Yt:SharedT→α}{Ya:World→α}{N:Nat}(hy:∀x,Yt x=Yf x.abs)(h:∀w,(vE p w N).map (yo p q loose Yt)=some (true,openGood q loose,Ya w)):LeftO p q loose (fun _=>true) Yf Ya N:=fun w=>by
 refine e1b (Option.map_eq_some_iff.mp (h w)) fun ct e l=>?_;clear h;obtain⟨b4,s₁⟩:=ct;refine e0c (yg e) fun e1 e2 e3=>?_;unfold yo at l;rw[←xW]at l;refine e0b (Prod.mk.inj l) fun l1 l2=>?_;dsimp only at l1 l2;rw[hy]at l2;clear hy l e;generalize s₁.abs=s₁ at *;have t:topFrom treeTable p w N b4=some s₁:=by
  unfold topFrom;rw[e2,e3];refine(?_:(match staticsOk (importedModules p.main.body) b4.heap s₁.heap&&namesBound p s₁.heap&&gensDone s₁&&laidKept b4.heap s₁.heap with|true=>_|false=>_)=_)
  rw[l1]
 unfold openEnds;rw[e1];refine(?_:(topFrom treeTable p w N _).map _=_);rw[t];exact congrArg some l2
end
end
section
noncomputable section
inductive BK where
 |pos (k:Nat)|dflt (k:Nat) (d:P)|kw (k:Nat) (n:Str)|star
structure Fe where
 fa:Addr
 pn:List Str
 ln:List Str
 own:List Str
 bk:BK
 s:S
structure zj where
 tb:Tb
 fm:List (Addr×Fm)
 cl:List (Addr×Addr)
 fe:List Fe
noncomputable def Bs(K:Frag)(tb:Tb):Bool:=tb.glb.all fun e=>jN K e.1 e.2
noncomputable def FP(K:Frag)(tb:Tb):Bool:=tb.at_.all fun e=>e.2.slots.all (fun x=>jF K x.1 e.1 x.2)&&e.2.stat.all fun x=>oV K x.1 e.1 x.2
noncomputable def fnB(v:P)(k:Bi→Bool):Bool:=match v with|.fn a=>k a|_=>false
theorem Ds{v:P}{k:Bi→Bool}(h:fnB v k=true):∃a,v=.fn a∧k a=true:=by cases v<;>first|exact ft h|exact⟨_,rfl,h⟩
theorem bi0{b:Bi}(h:Nat.beq b.ctorIdx 0=true):b=.int:=by cases b<;>first|rfl|exact ft h
noncomputable def Bl(K:Frag)(n:Str)(x:Addr×P):Bool:=fnB x.2 fun b=>Nat.beq b.ctorIdx 0&&rN K x.1 n
theorem yv{K:Frag}{H0:Heap}{prog:Program}{wd:World}(X:K.In H0){c:Addr}{n:Str}{x:P}(h:Bl K n (c,x)=true):xh H0 prog wd n c x:=by
 refine e1b (Ds h) fun b e h=>e0b (Bool.and_eq_true_iff.mp h) fun h1 h2=>?_
 cases bi0 h1;subst e
 exact tW X h2
theorem bm0{b:Bm}(h:Nat.beq b.ctorIdx 0=true):b=.none:=by cases b<;>first|rfl|exact ft h
noncomputable def Fd(K:Frag)(tb:Tb):Bool:=tb.me.all fun e=>e.2.fn.all (fun x=>mi K x.1 e.1 x.2)&&e.2.val.all (fun x=>Bl K e.1 x)&&(!e.2.bd||e.2.fn.all fun x=>pD K x.1 e.1 x.2)&&(Nat.beq e.2.bm.ctorIdx 0||e.1==tu e.2.bm)
noncomputable def ED(K:Frag)(c:Addr×Addr):Bool:=makesIn K c.1&&findIn K (.ref c.1) "__init__" == some (some (.ref c.2))&&typeIn K (.ref c.2)==some (.type "function")
noncomputable abbrev Bd:=Option (List (Str×Value))
noncomputable abbrev Bt:=Option (List Str×List Value×Bool)
noncomputable def CC(d:P)(k:Nat):Bd→Bt
 |some l=>some (l.map (·.1),(l.map (·.2)).take k,match(l.map (·.2)).drop k with|[v]=>x9 d v|_=>false)
 |none=>none
noncomputable abbrev Ob:=Bd×Bt×Bd×Option (Obj×(Addr→Bd))
noncomputable def BK.obs(K:Frag)(fd:FuncData)(S:Setting)(v:List Value)(a:Value):BK→Ob
 |.pos k=>(peek K S (bindArgs fd ⟨v.take k,[]⟩),none,none,none)
 |.dflt k d=>(none,CC d k (peek K S (bindArgs fd ⟨v.take k,[]⟩)),peek K S (bindArgs fd ⟨v.take (k+1),[]⟩),none)
 |.kw k n=>(peek K S (bindArgs fd ⟨v.take k,[(n,a)]⟩),none,none,none)
 |.star=>(none,none,none,peek1 K S (bindArgs fd ⟨v.take 4,[]⟩))
noncomputable def BK.exp(pn:List Str)(v:List Value)(a:Value):BK→Ob
 |.pos k=>(some (pn.zip (v.take k)),none,none,none)
 |.dflt k d=>(none,some (pn,v.take k,true),some (pn.zip (v.take (k+1))),none)
 |.kw k n=>(some (pn.zip (v.take k++[a])),none,none,none)
 |.star=>(none,none,none,some ({cls:=.type "tuple",data:=.seq ((v.take 4).drop 1).toArray},fun D=>some (pn.zip [v.headD .none, .ref D])))
noncomputable def BK.fit(n:Nat):BK→Bool
 |.pos k=>n==k&&Nat.ble k 6|.dflt k _=>n==k+1&&Nat.ble k 5|.kw k _=>n==k+1&&Nat.ble k 6|.star=>n==2
noncomputable abbrev F6(β:Type):=Value→Value→Value→Value→Value→Value→Value→β
noncomputable def ff6{β:Type}(f:List Value→Value→β):F6 β:=fun a0 a1 a2 a3 a4 a5 a=>f [a0,a1,a2,a3,a4,a5] a
noncomputable abbrev Fo:=Option (Bool×Option S×(Setting→F6 Ob))
noncomputable def Fe.see(tb:Tb)(K:Frag)(e:Fe):Fo:=(Dr K e.fa).map fun fd=>(s9 K e.fa e.pn e.ln,trB tb ⟨fd.scope,(e.pn++e.ln).map some,e.own⟩ (wX fd.body),fun S=>ff6 fun v a=>e.bk.obs K fd S v a)
noncomputable def Fe.exp(e:Fe):Fo:=some (true,some e.s,fun S=>ff6 fun v a=>e.bk.exp e.pn v a)
noncomputable abbrev Gj:=Bool×List Fo
noncomputable def zj.see(t:zj)(K:Frag):Gj:=(Bs K t.tb&&FP K t.tb&&Fd K t.tb&&t.fm.all (fun x=>mW K x.1 x.2)&&t.cl.all (ED K),t.fe.map (Fe.see t.tb K))
noncomputable def zj.exp(t:zj):Gj:=(true,t.fe.map Fe.exp)
section
variable {K:Frag}{H0:Heap}{prog:Program}{wd:World}{t:zj}
theorem ir{α β:Type}[BEq α][LawfulBEq α]{p:α×β→Bool}{n:α}{x:β}:∀{l:List (α×β)},l.all p=true→List.lookup n l=some x→p (n,x)=true
 |[],_,h=>ns h
 |(k,v)::l,ha,h=>by
  rw[List.all_cons,GC]at ha;rw[List.lookup_cons]at h
  cases q:n==k with
  |true=>rw[q]at h;obtain rfl:=sj h;rw[eq_of_beq q];exact ha.1
  |false=>rw[q]at h;exact ir ha.2 h
theorem iX(h:t.see K=t.exp):Bs K t.tb=true∧FP K t.tb=true∧Fd K t.tb=true∧t.fm.all (fun x=>mW K x.1 x.2)=true∧t.cl.all (ED K)=true∧t.fe.map (Fe.see t.tb K)=t.fe.map Fe.exp:=by
 have h1:(Bs K t.tb&&FP K t.tb&&Fd K t.tb&&t.fm.all (fun x=>mW K x.1 x.2)&&t.cl.all (ED K))=true:=congrArg Prod.fst h;have h2:=congrArg Prod.snd h;rw[GC,GC,GC,GC]at h1;exact⟨h1.1.1.1.1,h1.1.1.1.2,h1.1.1.2,h1.1.2,h1.2,h2⟩
theorem As(X:K.In H0){mg mb:Str→Option Value}(hg:H0.Ns mainGlobals mg)(hb:H0.Ns builtinsNs mb)(a3:∀x:Str,x≠"__name__"→mb x=bootBuiltins x)(h:t.see K=t.exp):Ek H0 prog wd t.tb:=by
 have hs:=iX h;have at2:∀n i,t.tb.at_.lookup n=some i→i.slots.all (fun x=>jF K x.1 n x.2)=true∧i.stat.all (fun x=>oV K x.1 n x.2)=true:=fun n i e=>by
  have:=ir hs.2.1 e;rw[GC]at this;exact this
 have a0:∀n m,t.tb.me.lookup n=some m→((m.fn.all (fun x=>mi K x.1 n x.2)=true∧m.val.all (fun x=>Bl K n x)=true)∧(!m.bd||m.fn.all fun x=>pD K x.1 n x.2)=true)∧(Nat.beq m.bm.ctorIdx 0||n==tu m.bm)=true:=fun n m e=>by
  have:=ir hs.2.2.1 e;rw[GC,GC,GC]at this;exact this
 refine⟨fun n x e=>rR X hg hb a3 (ir hs.1 e),fun n i e=>⟨fun c k e2=>pW X (ir (at2 n i e).1 e2),fun c x e2=>rq X (ir (at2 n i e).2 e2)⟩,
  fun n i e=>⟨fun c k e2=>pV X (ir (at2 n i e).1 e2)⟩,fun n m e=>⟨fun c fa e2=>rJ X (ir (a0 n m e).1.1.1 e2),fun c x e2=>yv X (ir (a0 n m e).1.1.2 e2),fun q c fa e2=>?_,fun q=>?_⟩⟩
 ·have:=(a0 n m e).1.2;rw[q]at this;exact uj X (ir this e2)
 ·have:=(a0 n m e).2;rw[Bool.or_eq_true]at this;exact this.elim (fun z=>absurd (bm0 z) q) eq_of_beq
theorem yB(X:K.In H0)(h:t.see K=t.exp){Φ:Addr→Option Ctr}{own:Addr→Bool}:uw H0 ⟨Φ,fun a=>t.fm.lookup a,own⟩:=fun S F e=>t0 X (ir (iX h).2.2.2.1 e)
theorem BM(h:t.see K=t.exp){c fi:Addr}(e:t.cl.lookup c=some fi):makesIn K c=true∧findIn K (.ref c) "__init__" = some (some (.ref fi))∧typeIn K (.ref fi)=some (.type "function"):=by
 have:=ir (iX h).2.2.2.2.1 e;unfold ED at this;rw[GC,GC]at this;exact⟨this.1.1,eq_of_beq this.1.2,eq_of_beq this.2⟩
theorem zI{α β:Type}{f g:α→β}:∀{l:List α},l.map f=l.map g→∀{i:Nat} {e:α},l[i]?=some e→f e=g e
 |[],_,i,e,h=>by exact ns h
 |a::l,h,0,e,q=>by obtain rfl:=sj q;exact(List.cons.inj h).1
 |a::l,h,i+1,e,q=>zI (List.cons.inj h).2 q
theorem FE(h:t.see K=t.exp){i:Nat}{e:Fe}(q:t.fe[i]?=some e):∃fd,Dr K e.fa=some fd∧s9 K e.fa e.pn e.ln=true∧trB t.tb ⟨fd.scope,(e.pn++e.ln).map some,e.own⟩ (wX fd.body)=some e.s∧
  ∀S a0 a1 a2 a3 a4 a5 a,e.bk.obs K fd S [a0,a1,a2,a3,a4,a5] a=e.bk.exp e.pn [a0,a1,a2,a3,a4,a5] a:=by
 have:=zI (iX h).2.2.2.2.2 q;unfold Fe.see Fe.exp at this
 cases hf:Dr K e.fa with
 |none=>rw[hf]at this;exact ns this
 |some fd=>
  rw[hf]at this;have:=Option.some.inj this;have h1:=congrArg (fun x=>x.2.2) this;exact⟨fd,rfl,congrArg Prod.fst this,congrArg (fun x=>x.2.1) this,fun S a0 a1 a2 a3 a4 a5 a=>congrFun (congrFun (congrFun (congrFun (congrFun (congrFun (congrFun (congrFun h1 S) a0) a1) a2) a3) a4) a5) a⟩
theorem six{w:List Value}(h:w.length=6):∃a0 a1 a2 a3 a4 a5,w=[a0,a1,a2,a3,a4,a5]:=by
 refine e2a (Hb h) fun a0 w b6=>?_;subst b6;refine e2a (Hb (Nat.succ.inj h)) fun a1 w b6=>?_;subst b6;refine e2a (Hb (Nat.succ.inj (Nat.succ.inj h))) fun a2 w b6=>?_;subst b6;refine e2a (Hb (Nat.succ.inj (Nat.succ.inj (Nat.succ.inj h)))) fun a3 w b6=>?_;subst b6;refine e2a (Hb (Nat.succ.inj (Nat.succ.inj (Nat.succ.inj (Nat.succ.inj h))))) fun a4 w b6=>?_;subst b6;refine e2a (Hb (Nat.succ.inj (Nat.succ.inj (Nat.succ.inj (Nat.succ.inj (Nat.succ.inj h)))))) fun a5 w b6=>?_;subst b6;exact⟨a0,a1,a2,a3,a4,a5,congrArg (fun w=>[a0,a1,a2,a3,a4,a5]++w) (List.eq_nil_of_length_eq_zero (Nat.succ.inj (Nat.succ.inj (Nat.succ.inj (Nat.succ.inj (Nat.succ.inj (Nat.succ.inj h)))))))⟩
theorem xE{vs:List Value}(h:vs.length≤6):∃a0 a1 a2 a3 a4 a5,vs=[a0,a1,a2,a3,a4,a5].take vs.length:=by
 obtain⟨a0,a1,a2,a3,a4,a5,e⟩:=six (w:=vs++List.replicate (6-vs.length) .none) (by rw[Gr,GQ];exact Nat.add_sub_of_le h)
 exact⟨a0,a1,a2,a3,a4,a5,by rw[←e,List.take_left]⟩
noncomputable def BK.fn:BK→List V→List (Str×P)→Option (List V)
 |.pos k=>cQ k|.dflt k d=>um k d|.kw k n=>y6 k n|.star=>w0
theorem sv{fd:FuncData}{pn:List Str}{k:Nat}(X:K.In H0){d:P}(hk:pn.length=k+1)(h1:∀vs:List Value,vs.length=k→∀S,∃dv,x9 d dv=true∧peek K S (bindArgs fd ⟨vs,[]⟩)=some (pn.zip (vs++[dv])))
  (h2:∀vs:List Value,vs.length=k+1→∀S,peek K S (bindArgs fd ⟨vs,[]⟩)=some (pn.zip vs)):oL H0 prog wd fd pn (um k d):=by
 intro A f G s σ args kws vs kvs env I b4 hv a5 hb;refine e0b (Bg hb) fun ek dh=>?_;clear hb;subst ek a5
 cases q:Nat.beq args.length k with
 |true=>
  rw[q]at dh;obtain rfl:=sj dh;have a0:vs.length=k:=hv.length.trans (Nat.eq_of_beq_eq_true q);refine e1b (h1 vs a0 ⟨prog,wd.params⟩) fun dv hd h1=>?_;exact mq X I b4 h1 (by rw[Gr,a0,hk];rfl) (hv.snoc (vp (x:=d) (ls hd)))
 |false=>
  rw[q]at dh;refine e0b (tA dh) fun q2 ee=>?_;subst ee;have a0:vs.length=k+1:=hv.length.trans (Nat.eq_of_beq_eq_true q2);exact mq X I b4 (h2 vs a0 _) (hk.trans a0.symm) hv
theorem xG{d:P}{k:Nat}{x:Bd}{pn:List Str}{vs:List Value}(h:CC d k x=some (pn,vs,true)):∃dv,x9 d dv=true∧x=some (pn.zip (vs++[dv])):=by
 cases x with
 |none=>exact ns h
 |some l=>
  have e:=Option.some.inj h;have e1:l.map (·.1)=pn:=congrArg Prod.fst e;have e2:(l.map (·.2)).take k=vs:=congrArg (fun x=>x.2.1) e;have e3:(match(l.map (·.2)).drop k with|[v]=>x9 d v|_=>false)=true:=congrArg (fun x=>x.2.2) e
  have e4:(l.map (·.2)).take k++(l.map (·.2)).drop k=l.map (·.2):=List.take_append_drop ..;generalize (l.map (·.2)).drop k=r at e3 e4
  cases r with
  |nil=>exact ft e3
  |cons v r=>cases r with
   |cons _ _=>exact ft e3
   |nil=>
    refine⟨v,e3,?_⟩;rw[e2]at e4;rw[e4,←e1,←List.unzip_fst,←List.unzip_snd,List.zip_unzip]
theorem BQ{fd:FuncData}{pn:List Str}{bk:BK}(X:K.In H0)(hf:bk.fit pn.length=true)(h:∀S a0 a1 a2 a3 a4 a5 a,bk.obs K fd S [a0,a1,a2,a3,a4,a5] a=bk.exp pn [a0,a1,a2,a3,a4,a5] a):oL H0 prog wd fd pn bk.fn:=by
 cases bk with
 |pos k=>
  refine e0b (Bool.and_eq_true_iff.mp hf) fun f1 f2=>?_;refine qY X (eq_of_beq f1) fun vs hv S=>?_;obtain⟨a0,a1,a2,a3,a4,a5,e⟩:=xE (vs:=vs) (hv▸GB f2);have:=congrArg Prod.fst (h S a0 a1 a2 a3 a4 a5 .none);rw[hv]at e;rw[e];exact this
 |dflt k d=>
  refine e0b (Bool.and_eq_true_iff.mp hf) fun f1 f2=>?_;have f2:=GB f2;refine sv X (eq_of_beq f1) (fun vs hv S=>?_) fun vs hv S=>?_
  ·obtain⟨a0,a1,a2,a3,a4,a5,e⟩:=xE (vs:=vs) (hv▸Nat.le_succ_of_le f2);have:=congrArg (fun x=>x.2.1) (h S a0 a1 a2 a3 a4 a5 .none);rw[hv]at e;rw[e];exact xG this
  ·obtain⟨a0,a1,a2,a3,a4,a5,e⟩:=xE (vs:=vs) (hv▸Nat.succ_le_succ f2);have:=congrArg (fun x=>x.2.2.1) (h S a0 a1 a2 a3 a4 a5 .none);rw[hv]at e;rw[e];exact this
 |kw k n=>
  refine e0b (Bool.and_eq_true_iff.mp hf) fun f1 f2=>?_;refine ul X (eq_of_beq f1) fun vs v hv S=>?_;obtain⟨a0,a1,a2,a3,a4,a5,e⟩:=xE (vs:=vs) (hv▸GB f2);have:=congrArg Prod.fst (h S a0 a1 a2 a3 a4 a5 v);rw[hv]at e;rw[e];exact this
 |star=>
  refine e2a (Cr (eq_of_beq hf)) fun m n e=>?_;clear hf;subst e;exact uq X fun a b c d S=>congrArg (fun x=>x.2.2.2) (h S a b c d .none .none .none)
theorem fn_of{d:Nat}{Φ:Addr→Option Ctr}{own:Addr→Bool}{ctr:Ctr}(b5:H0.NoLimit)(hsm:∃b o,sysModules≤b∧H0.get? b=some o)(X:K.In H0)(T:Ek H0 prog wd t.tb)(h:t.see K=t.exp)(hP:xg H0 prog wd d ⟨Φ,fun a=>t.fm.lookup a,own⟩)
  (i:Nat) {e:Fe} (q:t.fe[i]?=some e) (hb:e.bk.fit e.pn.length=true) (hw:∀args kws objs Q,ctr args kws objs Q→ez e.bk.fn e.ln.length e.s ⟨Φ,fun a=>t.fm.lookup a,own⟩ args kws objs Q):oK H0 prog wd (d+1) e.fa ctr:=by
 refine e1d (FE h q) fun fd h1 h2 h3 h4=>?_;exact(oK.of_body b5 (qz X h1 h2) (BQ X hb h4) (fun A e' gd hsc hgl hbi=>ES hP (yB X h) gd hsm T (cx:=⟨fd.scope,(e.pn++e.ln).map some,e.own⟩) hsc (qz X h1 h2).kind hgl hbi (Cu h3))).weaken (Gw _) hw
end
noncomputable def yA(as:List Addr)(h:Heap):Frag:=as.filterMap fun a=>(h.get? a).map fun o=>(a,o)
noncomputable def yy(as:List Addr)(t:BT)(n:Nat):Frag:=as.filterMap fun a=>match Nat.blt a n with
 |true=>(alive ((t.get a).getD default)).map fun o=>(a,o)
 |false=>none
theorem yz(as:List Addr)(h:Heap):(yA as h).In h:=by
 intro a o e;have key:∀(l:List Nat),List.lookup a (l.filterMap fun a=>(h.get? a).map fun o=>(a,o))=some o→h.get? a=some o:=by
  intro l
  induction l with
  |nil=>intro e;exact ns e
  |cons b l ih=>
   intro e;rw[List.filterMap_cons]at e
   cases q:h.get? b with
   |none=>rw[q]at e;exact ih e
   |some x=>
    rw[q]at e;dsimp only[Option.map_some]at e;rw[List.lookup_cons]at e
    cases z:a==b with
    |true=>rw[z]at e;obtain rfl:=sj e;rw[show a=b by simpa using z];exact q
    |false=>rw[z]at e;exact ih e
 exact key _ e
theorem yx(as:List Addr){t:BT}{n:Nat}{life:Life}:yy as t n=yA as (absHeap t n life):=by
 unfold yy yA
 congr 1
 funext a
 cases q:Nat.blt a n with
 |false=>rw[abs_get_none (fun z=>by rw[show Nat.blt a n=true from Nat.ble_eq_true_of_le z]at q;exact tf q)];rfl
 |true=>
  have lt:a<n:=GB q;have e:(absHeap t n life).get? a=alive ((t.get a).getD default):=by
   unfold Heap.get?;rw[absHeap_at,if_pos lt];generalize (t.get a).getD default=o;obtain⟨c,d,dt,sl⟩:=o
   cases dt<;>rfl
  rw[e]
end
end
section
noncomputable section
set_option tactic.hygienic true in
theorem Fc{K:Frag}{h:Heap}{mg:Str→Option Value}{n:Str}{a:Addr}{v:Value}(X:K.In h)(hg:h.Ns mainGlobals mg)(hf:jN K n (.st a)=true)(hn:mg n=some v):v=.ref a:=by
 unfold jN at hf
 split at hf
 ·rename_i v' hv
  have:=mg_of X hg hv;rw[hn]at this;obtain rfl:=sj this;exact ls (g:=fun _=>none) hf
 ·rename_i hv
  have:=mg_none_of X hg hv;rw[hn]at this;exact sn this
 ·exact ft hf
theorem tF{P:Params}{h:Heap}{xs:List Int}:∀{vs:List Value},WellAll P h vs (xs.map .int)→cV h.get? (xs.map .int) vs:=by
 induction xs with
 |nil=>intro vs w;cases w;exact rfl
 |cons x xs ih=>intro vs w;cases w with|cons a r=>cases a;exact⟨_,_,rfl,⟨_,rfl⟩,ih r⟩
theorem E8{xs:List Int}(h:WTm.holds [] (.and (.not (.lt (.lit (.int ((63:Nat):Int))) (.len (.arg 0)))) (.lit (.bool true))) {args:=[.list (xs.map .int)]}=true):xs.length≤63:=by
 by_cases q:(63:Int)<xs.length
 ·exfalso
  have e:WTm.value [] (.lt (.lit (.int ((63:Nat):Int))) (.len (.arg 0))) {args:=[.list (xs.map .int)]}=some (.bool (decide ((63:Int)<xs.length))):=by
   simp only[WTm.value,List.getElem?_cons_zero,GA];rfl
  have e2:WTm.value [] (.not (.lt (.lit (.int ((63:Nat):Int))) (.len (.arg 0)))) {args:=[.list (xs.map .int)]}=some (.bool false):=by
   rw[WTm.value,e,decide_eq_true q];rfl
  unfold WTm.holds at h;rw[WTm.value,e2]at h;exact ft h
 ·exact cG [] [_] ab (.n 63) 1 [.i 1 af (.n 63)] rfl (Int.not_lt.mp q)
theorem AV(args:List WData):(WShape.has [] (.bool true) .bool&&WTm.holds [] (.eq .res (.lit (.bool true))) {args:=args,res:=some (.bool true),after:=args})=true:=by
 have e:WTm.value [] (.eq .res (.lit (.bool true))) {args:=args,res:=some (.bool true),after:=args}=some (.bool true):=by
  simp[WTm.value,same]
 unfold WTm.holds;rw[e];rfl
@[irreducible] noncomputable def BO:Ctr:=fun args kws objs Q=>∃xs:List Int,args=[.p (.lst (xs.map .int))]∧kws=[]∧objs=[]∧xs.length≤64∧Q (.p (.bool true)) []
noncomputable def qOf(l:OpenLaw):Program:={l.prog with main:={l.prog.main with body:=l.prog.main.body.filter fun st=>match st with|.FunctionDef n ..=>n==l.name|_=>false}}
noncomputable def vX(l:OpenLaw):List Str:=l.prog.boundNames.filter (· != l.name)
structure Gd(t:zj)(K:Frag)(H0:Heap)(prog:Program)(wd:World):Prop where
 X:K.In H0
 T:Ek H0 prog wd t.tb
 lim:H0.NoLimit
 sm:∃b o,sysModules≤b∧H0.get? b=some o
 see:t.see K=t.exp
set_option tactic.hygienic true in
theorem By{t:zj}{K:Frag}{prog:Program}{w:World}{s:Shared}{mg:Str→Option Value}{fl a:Addr}(B:Gd t K s.heap prog w)(hg:s.heap.Ns mainGlobals mg)(hgl:jN K "law" (.st fl)=true)(F:oK s.heap prog w 40 fl BO)
  (aw:mg "law" = some (.ref a)) {vals:List Value} {xs:List Int} (hw:WellAll w.params s.heap vals [.list (xs.map .int)]) (hl:xs.length≤63) :
  wpN (model prog w) callerA (_root_.PySem.call (.ref a) vals) (fun v s'=>v=.bool true∧(∀b o,s.heap.get? b=some o→s'.heap.get? b=some o)∧s'.os=s.os∧s'.gens=s.gens) s:=by
 cases Fc B.X hg hgl aw
 refine e2c (wellAll_cons_inv hw) fun v vs' b6 hv bh=>?_;clear hw aw hgl hg B mg K t;subst b6
 cases bh
 cases hv with
 |list ho hit=>
  rename_i l vs
  have I:Inv s.heap (fun _=>none) ⟨s.heap.get?,⟨fun _=>none,fun _ _ _=>none⟩,fun _=>none⟩ [] s.heap:={
   base:=fun _ _ e=>e
   gg:=fun _ _ e=>e
   ff:=fun _ _ e=>ns e
   fg:=fun _ _ e=>ns e
   own:=fun _ _ e=>ns e
   obj:=fun i o e=>by exact ns e
   dom:=fun _ _=>⟨rfl,fun _ _=>rfl⟩}
  have hc:BO [.p (.lst (xs.map .int))] [] [] (fun v _=>v=.p (.bool true)):=by
   unfold BO;exact⟨xs,rfl,rfl,rfl,Nat.le_succ_of_le hl,rfl⟩
  refine wpN_call (dJ (F.call callerA (fun _=>none) ⟨s.heap.get?,⟨fun _=>none,fun _ _ _=>none⟩,fun _=>none⟩ s [] [.p (.lst (xs.map .int))] [] [.ref l] [] _ ⟨rfl,rfl,by decide,by decide⟩ I (fun _ _ e=>ns e)
   ⟨_,[],rfl,vp (x:=.lst (xs.map .int)) ⟨l,_,vs,0,rfl,ho,rfl,tF hit⟩,rfl⟩ rfl hc) fun fl s' zp=>e1b zp fun v a3 zp=>e3f zp fun G' σ' x sm le hl I' hx q=>?_)
  clear hl F prog zp hc hit ho vs;subst a3;clear hl xs fl w zp;subst q;have hx:v=.bool true:=hx;exact⟨hx,fun b o e=>I'.gg b o (le.g b o e),sm.os,sm.gens⟩
theorem v9{l:OpenLaw}(as:List Addr)(t:zj)(N:Nat)(fl:Addr){d:DefRec}{a5:List (Str×PySem.Expr)}
  (vW:∀w,(vE l.prog w N).map (yo l.prog (qOf l) (vX l) fun x=>t.see (yy as x.tree x.n))=some (true,openGood (qOf l) (vX l),t.exp)) (ok:l.wellSaid=true)
  (a0:defOf (qOf l) l.name=some (d,a5)) (hp:l.prog.theDef l.name=some (d.params,d.body,d.scope)) (hk:kwWritten? d.params.kwonlyargs d.params.kw_defaults=some a5) (hn:d.name = "law")
  (ok2:(chainsOk (qOf l)&&opensWell l.row.prog&&(frees l.row.toRowW&&l.row.within.isEmpty))=true) (hb:l.row.prog.bare) (hw:l.row.toRowW.promised)
  (ac:l.pre=.and (.not (.lt (.lit (.int ((63:Nat):Int))) (.len (.arg 0)))) (.lit (.bool true))) (hgl:t.tb.glb.lookup ("law" : Str)=some (.st fl))
  (hF:∀{K:Frag} {H0:Heap} {prog:Program} {wd:World},Gd t K H0 prog wd→oK H0 prog wd 40 fl BO):l.Holds:=by
 refine holds_law ok fun b5=>PySem.W.holds_open (r:=l.row) (q:=qOf l) (loose:=vX l) (Xt:=fun _=>true) (XP:=fun _ _=>True) (Yf:=fun s=>t.see (yA as s.heap)) (Ya:=fun _=>t.exp) (YP:=fun _ h=>∃K:Frag,K.In h∧t.see K=t.exp)
  (Fp (fun x=>congrArg t.see (yx as)) vW) (fun w s e=>⟨_,yz as s.heap,e⟩) (fun w h h' y k=>e1b y fun K x e=>⟨K,x.keeps k,e⟩) (fun _ _=>trivial) (fun _ _ _ _ _=>trivial) a0 hp hk (fun _ _=>recFacts_nil rfl)
  (by refine(?_:(!l.row.writes||true)=true);rw[Bool.or_true]) b5 ok2 hb hw ?_
 intro w b4 s₁ mg mb G Y a o pm cd doc dV kV ha b3 hcr hdf aw a4 args vals as ar ag b7 ah has;refine e1b Y fun K X see=>?_;refine e0b (pre_splitW ar) fun h1 h2=>?_;refine e2c (hasAllW_cons (e:=.list .int) (es:=[]) h1) fun dd r b6 h3 h4=>?_;clear has b7 ag ar as hdf hcr b3 kV dV doc cd pm Y;subst b6
 cases hasAllW_nil h4
 refine e1b (hasW_list h3) fun ds a3 h5=>?_;subst a3;refine e1a (items_int h5) fun xs a3=>?_;subst a3;have hl:xs.length≤63:=E8 (ac▸h2);have lim:=G.T.nolimit;have B:Gd t K s₁.heap l.row.prog w:=⟨X,As X G.T.g G.T.b G.T.builtins see,lim,by refine e1b lim fun mc hn _=>?_;refine e3b hn fun o es ep ho _=>?_;exact⟨cStatics,o,by decide,ho⟩,see⟩
 have gl:=ir (iX see).1 hgl;refine cE (By B G.T.g gl (hF B) (hn▸aw) ah hl) fun v s' q=>?_;refine e0d q fun q1 q2 q3 q4=>?_;clear ah vals aw G mb mg;subst q1;refine⟨.inl ⟨_, .bool true,[],rfl,fun cls=>rfl, .bool true,AV _,fun _=>⟨.nil,fun a ha=>nomatch ha⟩⟩, .of_keep q2,q3, .of_eq (q4.trans a4)⟩
end
end
section
noncomputable abbrev eZ:Addr:=64
noncomputable abbrev fV:Addr:=78
noncomputable abbrev fp:Addr:=92
noncomputable abbrev fj:Addr:=106
noncomputable abbrev fc:Addr:=120
noncomputable abbrev dU:Addr:=134
noncomputable abbrev dT:Addr:=146
noncomputable abbrev dS:Addr:=158
noncomputable abbrev ej:Addr:=263
noncomputable abbrev cz:Addr:=749
noncomputable abbrev l9:Addr:=50
noncomputable abbrev iT:Addr:=51
noncomputable abbrev gp:Addr:=52
noncomputable abbrev ma:Addr:=53
noncomputable abbrev gI:Addr:=54
noncomputable abbrev cJ:Addr:=167
noncomputable abbrev mY:Addr:=174
noncomputable abbrev jq:Addr:=181
noncomputable abbrev kS:Addr:=196
noncomputable abbrev d0:Addr:=203
noncomputable abbrev fT:Addr:=210
noncomputable abbrev ip:Addr:=217
noncomputable abbrev dz:Addr:=224
noncomputable abbrev io:Addr:=231
noncomputable abbrev kq:Addr:=245
noncomputable abbrev dR:Addr:=252
noncomputable abbrev kU:Addr:=363
noncomputable abbrev gm:Addr:=377
noncomputable abbrev d7:Addr:=384
noncomputable abbrev eO:Addr:=391
noncomputable abbrev eQ:Addr:=398
noncomputable abbrev dN:Addr:=405
noncomputable abbrev kW:Addr:=412
noncomputable abbrev ec:Addr:=419
noncomputable abbrev mZ:Addr:=426
noncomputable abbrev fK:Addr:=433
noncomputable abbrev cS:Addr:=440
noncomputable abbrev cK:Addr:=447
noncomputable abbrev d6:Addr:=454
noncomputable abbrev ew:Addr:=462
noncomputable abbrev eD:Addr:=476
noncomputable abbrev dq:Addr:=490
noncomputable abbrev c8:Addr:=497
noncomputable abbrev jO:Addr:=511
noncomputable abbrev fH:Addr:=519
noncomputable abbrev gn:Addr:=527
noncomputable abbrev c7:Addr:=535
noncomputable abbrev eY:Addr:=542
noncomputable abbrev d8:Addr:=549
noncomputable abbrev dy:Addr:=605
noncomputable abbrev dw:Addr:=612
noncomputable abbrev cM:Addr:=626
noncomputable abbrev eC:Addr:=696
noncomputable abbrev dF:Addr:=717
noncomputable abbrev gD:Addr:=724
noncomputable abbrev d9:Addr:=738
noncomputable abbrev dB:Addr:=745
noncomputable abbrev eN:Addr:=778
noncomputable abbrev gC:Addr:=785
noncomputable abbrev gk:Addr:=792
noncomputable abbrev dQ:Addr:=799
noncomputable abbrev eg:Addr:=806
noncomputable abbrev yF:Addr:=811
noncomputable def cU:AI:=⟨[(cz,0),(ej,0)],[]⟩
noncomputable def cY:AI:=⟨[(cz,1)],[]⟩
noncomputable def iE:AI:=⟨[(cz,2)],[]⟩
noncomputable def eW:AI:=⟨[(cz,3)],[]⟩
noncomputable def dW:AI:=⟨[(cz,4)],[]⟩
noncomputable def gF:AI:=⟨[(cz,5)],[]⟩
noncomputable def fz:AI:=⟨[(cz,6)],[]⟩
noncomputable def gP:AI:=⟨[(cz,7)],[]⟩
noncomputable def iN:AI:=⟨[(cz,8)],[]⟩
noncomputable def dC:AI:=⟨[(cz,9)],[]⟩
noncomputable def jR:AI:=⟨[(cz,10)],[]⟩
noncomputable def lT:AI:=⟨[(ej,1)],[]⟩
noncomputable def cN:AI:=⟨[],[(eZ, .int 1),(fV, .int 2),(fp, .int 4),(fj, .int 2),(fc, .int 4),(dU, .int 4),(dT, .int 4),(dS, .int 2)]⟩
noncomputable def jS:AI:=⟨[],[(eZ, .int 0),(fV, .int 0),(fp, .int 0),(fj, .int (-32768)),(fc, .int (-2147483648)),(dU, .int (-2147483648)),(dT, .int 0),(dS, .int 0)]⟩
noncomputable def jT:AI:=⟨[],[(eZ, .int 255),(fV, .int 65535),(fp, .int 4294967295),(fj, .int 32767),(fc, .int 2147483647),(dU, .int 2147483647),(dT, .int 4294967295),(dS, .int 65535)]⟩
noncomputable def dm:AI:=⟨[],[(eZ, .st l9),(fV, .st iT),(fp, .st gp),(fj, .st ma),(fc, .st gI),(dU, .st gI),(dT, .st gp),(dS, .st iT)]⟩
noncomputable def eI:AI:=⟨[],[(cz, .int 2147483648)]⟩
noncomputable def dp:MI:=⟨[(ej,d0),(cz,ec)], .none,[],false⟩
noncomputable def mQ:MI:=⟨[(ej,fT)], .none,[],false⟩
noncomputable def qj:MI:=⟨[(ej,ip)], .none,[],false⟩
noncomputable def je:MI:=⟨[(ej,dz)], .none,[],false⟩
noncomputable def qi:MI:=⟨[(ej,io)], .none,[],false⟩
noncomputable def oj:MI:=⟨[(ej,kq)], .none,[],false⟩
noncomputable def jK:MI:=⟨[(ej,dR)], .none,[],false⟩
noncomputable def qk:MI:=⟨[(cz,gm)], .none,[],false⟩
noncomputable def gU:MI:=⟨[(cz,d7)], .none,[],false⟩
noncomputable def jW:MI:=⟨[(cz,eO)], .none,[],false⟩
noncomputable def ji:MI:=⟨[(cz,eQ)], .none,[],false⟩
noncomputable def ij:MI:=⟨[(cz,dN)], .none,[],false⟩
noncomputable def vM:MI:=⟨[(cz,kW)], .none,[],false⟩
noncomputable def zH:MI:=⟨[(cz,mZ)], .none,[],false⟩
noncomputable def iy:MI:=⟨[(cz,fK)], .none,[],false⟩
noncomputable def eS:MI:=⟨[(cz,cS)], .none,[],false⟩
noncomputable def di:MI:=⟨[(cz,cK)], .none,[],false⟩
noncomputable def jX:MI:=⟨[(cz,d6)], .none,[],false⟩
noncomputable def jg:MI:=⟨[(cz,ew)], .none,[],false⟩
noncomputable def jj:MI:=⟨[(cz,eD)], .none,[],false⟩
noncomputable def fq:MI:=⟨[(cz,dq)], .none,[],false⟩
noncomputable def eF:MI:=⟨[(cz,c8)], .none,[],false⟩
noncomputable def rI:MI:=⟨[(cz,jO)], .none,[],false⟩
noncomputable def eX:MI:=⟨[(cz,fH)], .none,[],false⟩
noncomputable def ql:MI:=⟨[(cz,gn)], .none,[],false⟩
noncomputable def fQ:MI:=⟨[(cz,c7)], .none,[],false⟩
noncomputable def jJ:MI:=⟨[(cz,eY)], .none,[],false⟩
noncomputable def gV:MI:=⟨[(cz,d8)], .none,[],true⟩
noncomputable def gz:MI:=⟨[(cz,dy)], .none,[],false⟩
noncomputable def gy:MI:=⟨[(cz,dw)], .none,[],false⟩
noncomputable def dn:MI:=⟨[(cz,cM)], .none,[],false⟩
noncomputable def jf:MI:=⟨[(cz,eC)], .none,[],false⟩
noncomputable def eG:MI:=⟨[(cz,dF)], .none,[],false⟩
noncomputable def mh:MI:=⟨[(cz,gD)], .none,[],false⟩
noncomputable def iL:MI:=⟨[(cz,d9)], .none,[],false⟩
noncomputable def fY:MI:=⟨[(cz,dB)], .none,[],false⟩
noncomputable def dY:MI:=⟨[], .none,[(eZ, .fn .int),(fV, .fn .int),(fp, .fn .int),(fj, .fn .int),(fc, .fn .int),(dU, .fn .int),(dT, .fn .int),(dS, .fn .int)],false⟩
noncomputable def jd:MI:=⟨[], .append,[],false⟩
noncomputable def zG:MI:=⟨[], .get,[],false⟩
noncomputable def lK:MI:=⟨[], .pack_into,[],false⟩
noncomputable def jV:MI:=⟨[], .unpack_from,[],false⟩
noncomputable def qh:MI:=⟨[], .encode,[],false⟩
noncomputable def tb0:Tb:=⟨[(("len" : Str),(.fn .len:P)),(("min" : Str),(.fn .min:P)),(("bytearray" : Str),(.fn .bytearray:P)),(("bytes" : Str),(.fn .bytes:P)),(("tuple" : Str),(.fn .tuple:P)),(("reversed" : Str),(.fn .reversed:P)),(("range" : Str),(.fn .range:P)),(("sorted" : Str),(.fn .sorted:P)),(("isinstance" : Str),(.fn .isinstance:P)),(("unpack" : Str),(.fn .unpack:P)),(("enforce_number" : Str),(.st cJ:P)),(("Get" : Str),(.st mY:P)),(("Write" : Str),(.st jq:P)),(("_law_take" : Str),(.st eN:P)),(("_law_text" : Str),(.st gC:P)),(("_law_key" : Str),(.st gk:P)),(("_law_seen" : Str),(.st dQ:P)),(("_law_ahead" : Str),(.st eg:P)),(("law" : Str),(.st yF:P)),(("Get_encode" : Str),(.st mY:P)),(("Uint8Flags" : Str),(.st eZ:P)),(("Uint32Flags" : Str),(.st fp:P)),(("Int16Flags" : Str),(.st fj:P)),(("Int32Flags" : Str),(.st fc:P)),(("SOffsetTFlags" : Str),(.st dU:P)),(("UOffsetTFlags" : Str),(.st dT:P)),(("VOffsetTFlags" : Str),(.st dS:P)),(("Table" : Str),(.st ej:P)),(("Builder" : Str),(.st cz:P)),(("uint32" : Str),(.st gp:P)),(("int32" : Str),(.st gI:P)),(("uoffset" : Str),(.st gp:P)),(("soffset" : Str),(.st gI:P)),(("FILE_IDENTIFIER_LENGTH" : Str),(.int 4:P)),(("VtableMetadataFields" : Str),(.int 2:P)),(("string_types" : Str),(.tup [.fn .str]:P)),(("binary_types" : Str),(.tup [.fn .bytes, .fn .bytearray]:P)),(("_law_signs" : Str),(.lst [.tup [.str "a", .lst [.int 97]], .tup [.str "b", .lst [.int 98]], .tup [.str "é", .lst [.int 195, .int 169]], .tup [.str "😀", .lst [.int 240, .int 159, .int 152, .int 128]]]:P))],
 [(("Bytes" : Str),cU),(("current_vtable" : Str),cY),(("finished" : Str),iE),(("forceDefaults" : Str),eW),(("head" : Str),dW),(("minalign" : Str),gF),(("nested" : Str),fz),(("objectEnd" : Str),gP),(("sharedStrings" : Str),iN),(("vectorNumElems" : Str),dC),(("vtables" : Str),jR),(("Pos" : Str),lT),(("bytewidth" : Str),cN),(("min_val" : Str),jS),(("max_val" : Str),jT),(("packer_type" : Str),dm),(("MAX_BUFFER_SIZE" : Str),eI)],
 [(("Offset" : Str),dp),(("Indirect" : Str),mQ),(("String" : Str),qj),(("VectorLen" : Str),je),(("Vector" : Str),qi),(("Get" : Str),oj),(("GetSlot" : Str),jK),(("Output" : Str),qk),(("StartObject" : Str),gU),(("WriteVtable" : Str),jW),(("EndObject" : Str),ji),(("GrowByteBuffer" : Str),ij),(("Head" : Str),vM),(("Pad" : Str),zH),(("Prep" : Str),iy),(("PrependSOffsetTRelative" : Str),eS),(("PrependUOffsetTRelative" : Str),di),(("StartVector" : Str),jX),(("EndVector" : Str),jg),(("CreateString" : Str),jj),(("assertNested" : Str),fq),(("assertNotNested" : Str),eF),(("Slot" : Str),rI),(("_Builder__Finish" : Str),eX),(("Finish" : Str),ql),(("FinishSizePrefixed" : Str),fQ),(("Prepend" : Str),jJ),(("PrependSlot" : Str),gV),(("PrependInt16Slot" : Str),gz),(("PrependInt32Slot" : Str),gy),(("PrependUOffsetTRelativeSlot" : Str),dn),(("PrependInt32" : Str),jf),(("PrependVOffsetT" : Str),eG),(("Place" : Str),mh),(("PlaceSOffsetT" : Str),iL),(("PlaceUOffsetT" : Str),fY),(("py_type" : Str),dY),(("append" : Str),jd),(("get" : Str),zG),(("pack_into" : Str),lK),(("unpack_from" : Str),jV),(("encode" : Str),qh)]⟩
noncomputable def wx:Addr→Option Fm:=fun a=>[(l9,Fm.B),(iT,Fm.H),(gp,Fm.I),(ma,Fm.h),(gI,Fm.i)].lookup a
noncomputable def sS:Addr→Bool:=fun c=>Nat.beq c cz
end
section
noncomputable def iH:S:=(.seq (.ite (.and (.cmp .Is (.attr (.var 1) jS) (.lit .none)) (.cmp .Is (.attr (.var 1) jT) (.lit .none))) (.seq (.ret (.lit .none)) .skip) .skip) (.seq (.ite (.not (.chain .LtE .LtE (.attr (.var 1) jS) (.var 0) (.attr (.var 1) jT))) (.seq .raise .skip) .skip) .skip))
noncomputable def CU:S:=(.seq (.ret (.idx (.meth (.var 0) jV (.cons (.var 1) (.cons (.var 2) .nil))) (.lit (.int 0)))) .skip)
noncomputable def vc:S:=(.seq (.expr (.meth (.var 0) lK (.cons (.var 1) (.cons (.var 2) (.cons (.var 3) .nil))))) .skip)
noncomputable def sJ:S:=(.seq (.expr (.call (.glob (.st 167)) (.cons (.var 2) (.cons (.glob (.st 146)) .nil)))) (.seq (.setA (.var 0) cU (.var 1)) (.seq (.setA (.var 0) lT (.var 2)) .skip)))
noncomputable def n6:S:=(.seq (.asg (.var 2) (.bin .Sub (.attr (.var 0) lT) (.meth (.var 0) oj (.cons (.glob (.st 134)) (.cons (.attr (.var 0) lT) .nil))))) (.seq (.asg (.var 3) (.meth (.var 0) oj (.cons (.glob (.st 158)) (.cons (.var 2) .nil)))) (.seq (.ite (.cmp .Lt (.var 1) (.var 3)) (.seq (.ret (.meth (.var 0) oj (.cons (.glob (.st 158)) (.cons (.bin .Add (.var 2) (.var 1)) .nil)))) .skip) .skip) (.seq (.ret (.lit (.int 0))) .skip))))
noncomputable def lG:S:=(.seq (.expr (.call (.glob (.st 167)) (.cons (.var 1) (.cons (.glob (.st 146)) .nil)))) (.seq (.ret (.bin .Add (.var 1) (.call (.glob (.st 174)) (.cons (.attr (.glob (.st 146)) dm) (.cons (.attr (.var 0) cU) (.cons (.var 1) .nil)))))) .skip))
noncomputable def n5:S:=(.seq (.expr (.call (.glob (.st 167)) (.cons (.var 1) (.cons (.glob (.st 146)) .nil)))) (.seq (.aug 1 .Add (.call (.glob (.st 174)) (.cons (.attr (.glob (.st 146)) dm) (.cons (.attr (.var 0) cU) (.cons (.var 1) .nil))))) (.seq (.asg (.var 2) (.bin .Add (.var 1) (.attr (.glob (.st 146)) cN))) (.seq (.asg (.var 3) (.call (.glob (.st 174)) (.cons (.attr (.glob (.st 146)) dm) (.cons (.attr (.var 0) cU) (.cons (.var 1) .nil))))) (.seq (.ret (.call (.glob (.fn .bytes)) (.cons (.slc (.attr (.var 0) cU) (.var 2) (.bin .Add (.var 2) (.var 3)) (.lit .none)) .nil))) .skip)))))
noncomputable def kC:S:=(.seq (.expr (.call (.glob (.st 167)) (.cons (.var 1) (.cons (.glob (.st 146)) .nil)))) (.seq (.aug 1 .Add (.attr (.var 0) lT)) (.seq (.aug 1 .Add (.call (.glob (.st 174)) (.cons (.attr (.glob (.st 146)) dm) (.cons (.attr (.var 0) cU) (.cons (.var 1) .nil))))) (.seq (.asg (.var 2) (.call (.glob (.st 174)) (.cons (.attr (.glob (.st 146)) dm) (.cons (.attr (.var 0) cU) (.cons (.var 1) .nil))))) (.seq (.ret (.var 2)) .skip)))))
noncomputable def n4:S:=(.seq (.expr (.call (.glob (.st 167)) (.cons (.var 1) (.cons (.glob (.st 146)) .nil)))) (.seq (.aug 1 .Add (.attr (.var 0) lT)) (.seq (.asg (.var 2) (.bin .Add (.var 1) (.meth (.var 0) oj (.cons (.glob (.st 146)) (.cons (.var 1) .nil))))) (.seq (.aug 2 .Add (.attr (.glob (.st 146)) cN)) (.seq (.ret (.var 2)) .skip)))))
noncomputable def vd:S:=(.seq (.expr (.call (.glob (.st 167)) (.cons (.var 2) (.cons (.glob (.st 146)) .nil)))) (.seq (.ret (.meth (.var 1) dY (.cons (.call (.glob (.st 174)) (.cons (.attr (.var 1) dm) (.cons (.attr (.var 0) cU) (.cons (.var 2) .nil)))) .nil))) .skip))
noncomputable def mJ:S:=(.seq (.expr (.call (.glob (.st 167)) (.cons (.var 1) (.cons (.glob (.st 158)) .nil)))) (.seq (.ite (.cmp .IsNot (.var 3) (.lit .none)) (.seq (.expr (.call (.glob (.st 167)) (.cons (.var 2) (.cons (.var 3) .nil)))) .skip) .skip) (.seq (.asg (.var 4) (.meth (.var 0) dp (.cons (.var 1) .nil))) (.seq (.ite (.cmp .Eq (.var 4) (.lit (.int 0))) (.seq (.ret (.var 2)) .skip) .skip) (.seq (.ret (.meth (.var 0) oj (.cons (.var 3) (.cons (.bin .Add (.attr (.var 0) lT) (.var 4)) .nil)))) .skip)))))
noncomputable def sK:S:=(.seq (.ite (.not (.chain .LtE .LtE (.lit (.int 0)) (.var 1) (.attr (.glob (.st 749)) eI))) (.seq (.asg (.var 2) (.lit (.str (PySem.Str.ofString "flatbuffers: Cannot create Builder larger than 2 gigabytes.")))) (.seq .raise .skip)) .skip) (.seq (.setA (.var 0) cU (.call (.glob (.fn .bytearray)) (.cons (.var 1) .nil))) (.seq (.setA (.var 0) cY (.lit .none)) (.seq (.setA (.var 0) dW (.meth (.glob (.st 146)) dY (.cons (.var 1) .nil))) (.seq (.setA (.var 0) gF (.lit (.int 1))) (.seq (.setA (.var 0) gP (.lit .none)) (.seq (.setA (.var 0) jR .dict0) (.seq (.setA (.var 0) fz (.lit (.bool false))) (.seq (.setA (.var 0) eW (.lit (.bool false))) (.seq (.setA (.var 0) iN (.lit .none)) (.seq (.setA (.var 0) iE (.lit (.bool false))) .skip)))))))))))
noncomputable def n7:S:=(.seq (.ite (.not (.attr (.var 0) iE)) (.seq .raise .skip) .skip) (.seq (.ret (.slc (.attr (.var 0) cU) (.attr (.var 0) dW) (.lit .none) (.lit .none))) .skip))
noncomputable def i4:S:=(.seq (.expr (.meth (.var 0) eF .nil)) (.seq (.setA (.var 0) cY (.repl true (.lst false (.cons (.lit (.int 0)) .nil)) (.var 1))) (.seq (.setA (.var 0) gP (.meth (.var 0) dp .nil)) (.seq (.setA (.var 0) fz (.lit (.bool true))) .skip))))
noncomputable def iY:S:=(.seq (.expr (.meth (.var 0) eS (.cons (.lit (.int 0)) .nil))) (.seq (.asg (.var 1) (.meth (.var 0) dp .nil)) (.seq (.asg (.var 2) (.lst true .nil)) (.seq (.asg (.var 3) (.lit (.bool true))) (.seq (.forIn (.var 4) .rev (.cons (.attr (.var 0) cY) .nil) (.seq (.ite (.cmp .Eq (.var 4) (.lit (.int 0))) (.seq (.ite (.var 3) (.seq .cont .skip) .skip) .skip) (.seq (.asg (.var 4) (.bin .Sub (.var 1) (.var 4))) (.seq (.asg (.var 3) (.lit (.bool false))) .skip))) (.seq (.expr (.meth (.var 2) jd (.cons (.var 4) .nil))) .skip))) (.seq (.asg (.var 5) (.meth (.glob (.st 146)) dY (.cons (.bin .Sub (.var 1) (.attr (.var 0) gP)) .nil))) (.seq (.expr (.meth (.var 2) jd (.cons (.var 5) .nil))) (.seq (.asg (.var 2) (.call (.glob (.fn .tuple)) (.cons (.var 2) .nil))) (.seq (.asg (.var 6) (.meth (.attr (.var 0) jR) zG (.cons (.var 2) .nil))) (.seq (.ite (.cmp .Is (.var 6) (.lit .none)) (.seq (.asg (.var 7) (.bin .Sub (.call (.glob (.fn .len)) (.cons (.attr (.var 0) cY) .nil)) (.lit (.int 1)))) (.seq (.asg (.var 8) (.lit (.int 0))) (.seq (.asg (.var 3) (.lit (.bool true))) (.seq (.whl (.cmp .GtE (.var 7) (.lit (.int 0))) (.seq (.asg (.var 9) (.lit (.int 0))) (.seq (.asg (.var 4) (.idx (.attr (.var 0) cY) (.var 7))) (.seq (.aug 7 .Sub (.lit (.int 1))) (.seq (.ite (.cmp .Eq (.var 4) (.lit (.int 0))) (.seq (.ite (.var 3) (.seq (.aug 8 .Add (.lit (.int 1))) (.seq .cont .skip)) .skip) .skip) (.seq (.asg (.var 9) (.bin .Sub (.var 1) (.var 4))) (.seq (.asg (.var 3) (.lit (.bool false))) .skip))) (.seq (.expr (.meth (.var 0) eG (.cons (.var 9) .nil))) .skip)))))) (.seq (.expr (.meth (.var 0) eG (.cons (.meth (.glob (.st 158)) dY (.cons (.var 5) .nil)) .nil))) (.seq (.asg (.var 10) (.bin .Add (.bin .Sub (.call (.glob (.fn .len)) (.cons (.attr (.var 0) cY) .nil)) (.var 8)) (.glob (.int 2)))) (.seq (.aug 10 .Mult (.attr (.glob (.st 158)) cN)) (.seq (.expr (.meth (.var 0) eG (.cons (.meth (.glob (.st 158)) dY (.cons (.var 10) .nil)) .nil))) (.seq (.asg (.var 11) (.meth (.glob (.st 134)) dY (.cons (.bin .Sub (.call (.glob (.fn .len)) (.cons (.attr (.var 0) cU) .nil)) (.var 1)) .nil))) (.seq (.expr (.call (.glob (.st 181)) (.cons (.glob (.st 54)) (.cons (.attr (.var 0) cU) (.cons (.var 11) (.cons (.meth (.glob (.st 134)) dY (.cons (.bin .Sub (.meth (.var 0) dp .nil) (.var 1)) .nil)) .nil)))))) (.seq (.setI (.attr (.var 0) jR) (.var 2) (.meth (.var 0) dp .nil)) .skip))))))))))) (.seq (.asg (.var 11) (.meth (.glob (.st 134)) dY (.cons (.bin .Sub (.call (.glob (.fn .len)) (.cons (.attr (.var 0) cU) .nil)) (.var 1)) .nil))) (.seq (.setA (.var 0) dW (.meth (.glob (.st 146)) dY (.cons (.var 11) .nil))) (.seq (.expr (.call (.glob (.st 181)) (.cons (.glob (.st 54)) (.cons (.attr (.var 0) cU) (.cons (.meth (.var 0) vM .nil) (.cons (.meth (.glob (.st 134)) dY (.cons (.bin .Sub (.var 6) (.var 1)) .nil)) .nil)))))) .skip)))) (.seq (.setA (.var 0) cY (.lit .none)) (.seq (.ret (.var 1)) .skip))))))))))))
noncomputable def kF:S:=(.seq (.expr (.meth (.var 0) fq .nil)) (.seq (.setA (.var 0) fz (.lit (.bool false))) (.seq (.ret (.meth (.var 0) jW .nil)) .skip)))
noncomputable def gJ:S:=(.seq (.ite (.cmp .Eq (.call (.glob (.fn .len)) (.cons (.attr (.var 0) cU) .nil)) (.attr (.glob (.st 749)) eI)) (.seq (.asg (.var 1) (.lit (.str (PySem.Str.ofString "flatbuffers: cannot grow buffer beyond 2 gigabytes")))) (.seq .raise .skip)) .skip) (.seq (.asg (.var 2) (.call (.glob (.fn .min)) (.cons (.bin .Mult (.call (.glob (.fn .len)) (.cons (.attr (.var 0) cU) .nil)) (.lit (.int 2))) (.cons (.attr (.glob (.st 749)) eI) .nil)))) (.seq (.ite (.cmp .Eq (.var 2) (.lit (.int 0))) (.seq (.asg (.var 2) (.lit (.int 1))) .skip) .skip) (.seq (.asg (.var 3) (.call (.glob (.fn .bytearray)) (.cons (.var 2) .nil))) (.seq (.setS (.var 3) (.bin .Sub (.var 2) (.call (.glob (.fn .len)) (.cons (.attr (.var 0) cU) .nil))) (.lit .none) (.attr (.var 0) cU)) (.seq (.setA (.var 0) cU (.var 3)) .skip))))))
noncomputable def sN:S:=(.seq (.ret (.attr (.var 0) dW)) .skip)
noncomputable def n8:S:=(.seq (.ret (.bin .Sub (.call (.glob (.fn .len)) (.cons (.attr (.var 0) cU) .nil)) (.attr (.var 0) dW))) .skip)
noncomputable def ve:S:=(.seq (.ite (.cmp .LtE (.var 1) (.lit (.int 0))) (.seq (.ret (.lit .none)) .skip) .skip) (.seq (.asg (.var 2) (.bin .Sub (.attr (.var 0) dW) (.var 1))) (.seq (.setS (.attr (.var 0) cU) (.var 2) (.attr (.var 0) dW) (.bin .Mult (.lit (.bytes [0])) (.var 1))) (.seq (.setA (.var 0) dW (.var 2)) .skip))))
noncomputable def sM:S:=(.seq (.ite (.cmp .Gt (.var 1) (.attr (.var 0) gF)) (.seq (.setA (.var 0) gF (.var 1)) .skip) .skip) (.seq (.asg (.var 3) (.attr (.var 0) dW)) (.seq (.asg (.var 4) (.call (.glob (.fn .len)) (.cons (.attr (.var 0) cU) .nil))) (.seq (.asg (.var 5) (.bin .Add (.un PySem.UnaryOp.Invert (.bin .Add (.bin .Sub (.var 4) (.var 3)) (.var 2))) (.lit (.int 1)))) (.seq (.aug 5 .BitAnd (.bin .Sub (.var 1) (.lit (.int 1)))) (.seq (.asg (.var 6) (.bin .Add (.bin .Add (.var 5) (.var 1)) (.var 2))) (.seq (.whl (.cmp .Lt (.var 3) (.var 6)) (.seq (.asg (.var 7) (.var 4)) (.seq (.expr (.meth (.var 0) ij .nil)) (.seq (.asg (.var 4) (.call (.glob (.fn .len)) (.cons (.attr (.var 0) cU) .nil))) (.seq (.aug 3 .Add (.bin .Sub (.var 4) (.var 7))) .skip))))) (.seq (.setA (.var 0) dW (.var 3)) (.seq (.expr (.meth (.var 0) zH (.cons (.var 5) .nil))) .skip)))))))))
noncomputable def eM:S:=(.seq (.expr (.meth (.var 0) iy (.cons (.attr (.glob (.st 134)) cN) (.cons (.lit (.int 0)) .nil)))) (.seq (.ite (.not (.cmp .LtE (.var 1) (.meth (.var 0) dp .nil))) (.seq (.asg (.var 2) (.lit (.str (PySem.Str.ofString "flatbuffers: Offset arithmetic error.")))) (.seq .raise .skip)) .skip) (.seq (.asg (.var 3) (.bin .Add (.bin .Sub (.meth (.var 0) dp .nil) (.var 1)) (.attr (.glob (.st 134)) cN))) (.seq (.expr (.meth (.var 0) iL (.cons (.var 3) .nil))) .skip))))
noncomputable def eL:S:=(.seq (.expr (.meth (.var 0) iy (.cons (.attr (.glob (.st 146)) cN) (.cons (.lit (.int 0)) .nil)))) (.seq (.ite (.not (.cmp .LtE (.var 1) (.meth (.var 0) dp .nil))) (.seq (.asg (.var 2) (.lit (.str (PySem.Str.ofString "flatbuffers: Offset arithmetic error.")))) (.seq .raise .skip)) .skip) (.seq (.asg (.var 3) (.bin .Add (.bin .Sub (.meth (.var 0) dp .nil) (.var 1)) (.attr (.glob (.st 146)) cN))) (.seq (.expr (.meth (.var 0) fY (.cons (.var 3) .nil))) .skip))))
noncomputable def iZ:S:=(.seq (.expr (.meth (.var 0) eF .nil)) (.seq (.setA (.var 0) fz (.lit (.bool true))) (.seq (.setA (.var 0) dC (.var 2)) (.seq (.expr (.meth (.var 0) iy (.cons (.attr (.glob (.st 92)) cN) (.cons (.bin .Mult (.var 1) (.var 2)) .nil)))) (.seq (.expr (.meth (.var 0) iy (.cons (.var 3) (.cons (.bin .Mult (.var 1) (.var 2)) .nil)))) (.seq (.ret (.meth (.var 0) dp .nil)) .skip))))))
noncomputable def kE:S:=(.seq (.expr (.meth (.var 0) fq .nil)) (.seq (.setA (.var 0) fz (.lit (.bool false))) (.seq (.ite (.var 1) (.seq (.ite (.cmp .NotEq (.var 1) (.attr (.var 0) dC)) (.seq .raise .skip) .skip) .skip) .skip) (.seq (.expr (.meth (.var 0) fY (.cons (.attr (.var 0) dC) .nil))) (.seq (.setA (.var 0) dC (.lit .none)) (.seq (.ret (.meth (.var 0) dp .nil)) .skip))))))
noncomputable def iK:S:=(.seq (.expr (.meth (.var 0) eF .nil)) (.seq (.setA (.var 0) fz (.lit (.bool true))) (.seq (.ite (.call (.glob (.fn .isinstance)) (.cons (.var 1) (.cons (.glob (.tup [(.fn .str)])) .nil))) (.seq (.asg (.var 2) (.meth (.var 1) qh (.cons (.lit (.str (PySem.Str.ofString "utf-8"))) .nil))) .skip) (.seq (.ite (.call (.glob (.fn .isinstance)) (.cons (.var 1) (.cons (.glob (.tup [(.fn .bytes),(.fn .bytearray)])) .nil))) (.seq (.asg (.var 2) (.var 1)) .skip) (.seq .raise .skip)) .skip)) (.seq (.asg (.var 3) (.call (.glob (.fn .len)) (.cons (.var 2) .nil))) (.seq (.expr (.meth (.var 0) iy (.cons (.attr (.glob (.st 146)) cN) (.cons (.bin .Mult (.bin .Add (.var 3) (.lit (.int 1))) (.attr (.glob (.st 64)) cN)) .nil)))) (.seq (.expr (.meth (.var 0) mh (.cons (.lit (.int 0)) (.cons (.glob (.st 64)) .nil)))) (.seq (.asg (.var 4) (.bin .Sub (.attr (.var 0) dW) (.var 3))) (.seq (.setA (.var 0) dW (.var 4)) (.seq (.setS (.attr (.var 0) cU) (.var 4) (.bin .Add (.var 4) (.var 3)) (.var 2)) (.seq (.setA (.var 0) dC (.var 3)) (.seq (.ret (.meth (.var 0) jg .nil)) .skip)))))))))))
noncomputable def iI:S:=(.seq (.ite (.not (.attr (.var 0) fz)) (.seq .raise .skip) .skip) .skip)
noncomputable def gt:S:=(.seq (.ite (.attr (.var 0) fz) (.seq .raise .skip) .skip) .skip)
noncomputable def sL:S:=(.seq (.expr (.meth (.var 0) fq .nil)) (.seq (.setI (.attr (.var 0) cY) (.var 1) (.meth (.var 0) dp .nil)) .skip))
noncomputable def mL:S:=(.seq (.expr (.call (.glob (.st 167)) (.cons (.var 1) (.cons (.glob (.st 146)) .nil)))) (.seq (.asg (.var 4) (.attr (.glob (.st 146)) cN)) (.seq (.ite (.cmp .IsNot (.var 3) (.lit .none)) (.seq (.aug 4 .Add (.attr (.glob (.st 120)) cN)) .skip) .skip) (.seq (.ite (.var 2) (.seq (.aug 4 .Add (.attr (.glob (.st 120)) cN)) .skip) .skip) (.seq (.expr (.meth (.var 0) iy (.cons (.attr (.var 0) gF) (.cons (.var 4) .nil)))) (.seq (.ite (.cmp .IsNot (.var 3) (.lit .none)) (.seq (.expr (.meth (.var 0) iy (.cons (.attr (.glob (.st 146)) cN) (.cons (.glob (.int 4)) .nil)))) (.seq (.asg (.var 3) (.call (.glob (.fn .unpack)) (.cons (.lit (.str (PySem.Str.ofString ">BBBB"))) (.cons (.var 3) .nil)))) (.seq (.forIn (.var 5) .rng (.cons (.bin .Sub (.glob (.int 4)) (.lit (.int 1))) (.cons (.un PySem.UnaryOp.USub (.lit (.int 1))) (.cons (.un PySem.UnaryOp.USub (.lit (.int 1))) .nil))) (.seq (.expr (.meth (.var 0) mh (.cons (.idx (.var 3) (.var 5)) (.cons (.glob (.st 64)) .nil)))) .skip)) .skip))) .skip) (.seq (.expr (.meth (.var 0) di (.cons (.var 1) .nil))) (.seq (.ite (.var 2) (.seq (.asg (.var 6) (.bin .Sub (.call (.glob (.fn .len)) (.cons (.attr (.var 0) cU) .nil)) (.attr (.var 0) dW))) (.seq (.expr (.call (.glob (.st 167)) (.cons (.var 6) (.cons (.glob (.st 120)) .nil)))) (.seq (.expr (.meth (.var 0) jf (.cons (.var 6) .nil))) .skip))) .skip) (.seq (.setA (.var 0) iE (.lit (.bool true))) (.seq (.ret (.attr (.var 0) dW)) .skip))))))))))
noncomputable def n9:S:=(.seq (.ret (.methK (.var 0) eX (.cons (.var 1) (.cons (.lit (.bool false)) .nil)) (PySem.Str.ofString "file_identifier") (.var 2))) .skip)
noncomputable def fC:S:=(.seq (.ret (.methK (.var 0) eX (.cons (.var 1) (.cons (.lit (.bool true)) .nil)) (PySem.Str.ofString "file_identifier") (.var 2))) .skip)
noncomputable def mK:S:=(.seq (.expr (.meth (.var 0) iy (.cons (.attr (.var 1) cN) (.cons (.lit (.int 0)) .nil)))) (.seq (.expr (.meth (.var 0) mh (.cons (.var 2) (.cons (.var 1) .nil)))) .skip))
noncomputable def i5:S:=(.seq (.ite (.cmp .IsNot (.var 3) (.lit .none)) (.seq (.expr (.call (.glob (.st 167)) (.cons (.var 3) (.cons (.var 1) .nil)))) .skip) .skip) (.seq (.ite (.cmp .IsNot (.var 4) (.lit .none)) (.seq (.expr (.call (.glob (.st 167)) (.cons (.var 4) (.cons (.var 1) .nil)))) .skip) .skip) (.seq (.ite (.or (.cmp .NotEq (.var 3) (.var 4)) (.and (.attr (.var 0) eW) (.cmp .IsNot (.var 4) (.lit .none)))) (.seq (.expr (.meth (.var 0) jJ (.cons (.var 1) (.cons (.var 3) .nil)))) (.seq (.expr (.meth (.var 0) rI (.cons (.var 2) .nil))) .skip)) .skip) .skip)))
noncomputable def f7:S:=(.seq (.expr (.methS (.var 0) gV (.cons (.glob (.st 106)) (.cons (.star (.var 1)) .nil)))) .skip)
noncomputable def f6:S:=(.seq (.expr (.methS (.var 0) gV (.cons (.glob (.st 120)) (.cons (.star (.var 1)) .nil)))) .skip)
noncomputable def dX:S:=(.seq (.ite (.or (.cmp .NotEq (.var 2) (.var 3)) (.attr (.var 0) eW)) (.seq (.expr (.meth (.var 0) di (.cons (.var 2) .nil))) (.seq (.expr (.meth (.var 0) rI (.cons (.var 1) .nil))) .skip)) .skip) .skip)
noncomputable def iJ:S:=(.seq (.expr (.meth (.var 0) jJ (.cons (.glob (.st 120)) (.cons (.var 1) .nil)))) .skip)
noncomputable def gv:S:=(.seq (.expr (.meth (.var 0) jJ (.cons (.glob (.st 158)) (.cons (.var 1) .nil)))) .skip)
noncomputable def pY:S:=(.seq (.expr (.call (.glob (.st 167)) (.cons (.var 1) (.cons (.var 2) .nil)))) (.seq (.asg (.var 3) (.bin .Sub (.attr (.var 0) dW) (.attr (.var 2) cN))) (.seq (.setA (.var 0) dW (.var 3)) (.seq (.expr (.call (.glob (.st 181)) (.cons (.attr (.var 2) dm) (.cons (.attr (.var 0) cU) (.cons (.var 3) (.cons (.var 1) .nil)))))) .skip))))
noncomputable def ic:S:=(.seq (.expr (.call (.glob (.st 167)) (.cons (.var 1) (.cons (.glob (.st 134)) .nil)))) (.seq (.asg (.var 2) (.bin .Sub (.attr (.var 0) dW) (.attr (.glob (.st 134)) cN))) (.seq (.setA (.var 0) dW (.var 2)) (.seq (.expr (.call (.glob (.st 181)) (.cons (.glob (.st 54)) (.cons (.attr (.var 0) cU) (.cons (.var 2) (.cons (.var 1) .nil)))))) .skip))))
noncomputable def ib:S:=(.seq (.expr (.call (.glob (.st 167)) (.cons (.var 1) (.cons (.glob (.st 146)) .nil)))) (.seq (.asg (.var 2) (.bin .Sub (.attr (.var 0) dW) (.attr (.glob (.st 146)) cN))) (.seq (.setA (.var 0) dW (.var 2)) (.seq (.expr (.call (.glob (.st 181)) (.cons (.glob (.st 52)) (.cons (.attr (.var 0) cU) (.cons (.var 2) (.cons (.var 1) .nil)))))) .skip))))
noncomputable def mH:S:=(.seq (.ite (.cmp .GtE (.idx (.var 0) (.lit (.int 1))) (.call (.glob (.fn .len)) (.cons (.idx (.var 0) (.lit (.int 0))) .nil))) (.seq (.ret (.lit (.int 0))) .skip) .skip) (.seq (.asg (.var 2) (.idx (.idx (.var 0) (.lit (.int 0))) (.idx (.var 0) (.lit (.int 1))))) (.seq (.setI (.var 0) (.lit (.int 1)) (.bin .Add (.idx (.var 0) (.lit (.int 1))) (.lit (.int 1)))) (.seq (.ret (.bin .Mod (.var 2) (.var 1))) .skip))))
noncomputable def mG:S:=(.seq (.asg (.var 2) (.lit (.str (PySem.Str.ofString "")))) (.seq (.asg (.var 3) (.lst false .nil)) (.seq (.forIn (.var 4) .rng (.cons (.call (.glob (.st 778)) (.cons (.var 0) (.cons (.var 1) .nil))) .nil) (.seq (.asg (.tup [5,6]) (.idx (.glob (.lst [(.tup [(.str (PySem.Str.ofString "a")),(.lst [(.int 97)])]),(.tup [(.str (PySem.Str.ofString "b")),(.lst [(.int 98)])]),(.tup [(.str (PySem.Str.ofString "é")),(.lst [(.int 195),(.int 169)])]),(.tup [(.str (PySem.Str.ofString "😀")),(.lst [(.int 240),(.int 159),(.int 152),(.int 128)])])])) (.call (.glob (.st 778)) (.cons (.var 0) (.cons (.lit (.int 4)) .nil))))) (.seq (.asg (.var 2) (.bin .Add (.var 2) (.var 5))) (.seq (.asg (.var 3) (.bin .Add (.var 3) (.var 6))) .skip)))) (.seq (.ret (.tup (.cons (.var 2) (.cons (.var 3) .nil)))) .skip))))
noncomputable def nZ:S:=(.seq (.ite (.var 1) (.seq (.asg (.tup [2,3]) (.call (.glob (.st 785)) (.cons (.var 0) (.cons (.lit (.int 4)) .nil)))) (.seq (.ret (.tup (.cons (.var 2) (.cons (.call (.glob (.fn .tuple)) (.cons (.var 3) .nil)) .nil)))) .skip)) .skip) (.seq (.asg (.var 4) (.bin .Sub (.bin .Mult (.call (.glob (.st 778)) (.cons (.var 0) (.cons (.lit (.int 11)) .nil))) (.lit (.int 1000))) (.lit (.int 5000)))) (.seq (.ret (.tup (.cons (.var 4) (.cons (.var 4) .nil)))) .skip)))
noncomputable def mI:S:=(.seq (.asg (.var 3) (.meth (.var 0) dp (.cons (.lit (.int 6)) .nil))) (.seq (.asg (.var 4) (.call (.glob (.st 263)) (.cons (.attr (.var 0) cU) (.cons (.meth (.var 0) mQ (.cons (.bin .Add (.meth (.var 0) qi (.cons (.var 3) .nil)) (.bin .Mult (.lit (.int 4)) (.var 1))) .nil)) .nil)))) (.seq (.ite (.var 2) (.seq (.ret (.tup (.cons (.call (.glob (.fn .tuple)) (.cons (.meth (.var 4) qj (.cons (.bin .Add (.attr (.var 4) lT) (.meth (.var 4) dp (.cons (.lit (.int 4)) .nil))) .nil)) .nil)) (.cons (.var 4) .nil)))) .skip) .skip) (.seq (.ret (.tup (.cons (.meth (.var 4) jK (.cons (.lit (.int 4)) (.cons (.lit (.int 0)) (.cons (.glob (.st 106)) .nil)))) (.cons (.var 4) .nil)))) .skip))))
noncomputable def lF:S:=(.seq (.asg (.var 3) (.lit (.int 0))) (.seq (.asg (.var 4) (.meth (.var 0) je (.cons (.meth (.var 0) dp (.cons (.lit (.int 6)) .nil)) .nil))) (.seq (.asg (.var 5) (.lit (.int 0))) (.seq (.whl (.cmp .Lt (.var 3) (.var 4)) (.seq (.asg (.var 6) (.bin .FloorDiv (.bin .Add (.var 3) (.var 4)) (.lit (.int 2)))) (.seq (.asg (.tup [7,8]) (.call (.glob (.st 799)) (.cons (.var 0) (.cons (.var 6) (.cons (.var 2) .nil))))) (.seq (.asg (.var 5) (.bin .Add (.var 5) (.lit (.int 1)))) (.seq (.ite (.cmp .Lt (.var 7) (.var 1)) (.seq (.asg (.var 3) (.bin .Add (.var 6) (.lit (.int 1)))) .skip) (.seq (.asg (.var 4) (.var 6)) .skip)) .skip))))) (.seq (.ret (.tup (.cons (.var 3) (.cons (.var 5) .nil)))) .skip)))))
noncomputable def pX:S:=(.seq (.asg (.var 1) (.lst true (.cons (.slc (.var 0) (.lit .none) (.lit (.int 40)) (.lit .none)) (.cons (.lit (.int 0)) .nil)))) (.seq (.asg (.var 2) (.call (.glob (.st 749)) (.cons (.idx (.lst false (.cons (.lit (.int 0)) (.cons (.lit (.int 1)) (.cons (.lit (.int 100)) .nil)))) (.call (.glob (.st 778)) (.cons (.var 1) (.cons (.lit (.int 3)) .nil)))) .nil))) (.seq (.asg (.var 3) (.cmp .Eq (.call (.glob (.st 778)) (.cons (.var 1) (.cons (.lit (.int 2)) .nil))) (.lit (.int 1)))) (.seq (.asg (.var 4) .dict0) (.seq (.asg (.var 5) .dict0) (.seq (.asg (.var 6) (.bin .Add (.lit (.int 1)) (.call (.glob (.st 778)) (.cons (.var 1) (.cons (.lit (.int 7)) .nil))))) (.seq (.forIn (.var 7) .rng (.cons (.var 6) .nil) (.seq (.asg (.tup [8,9]) (.call (.glob (.st 792)) (.cons (.var 1) (.cons (.var 3) .nil)))) (.seq (.asg (.var 10) (.bin .Sub (.bin .Mult (.call (.glob (.st 778)) (.cons (.var 1) (.cons (.lit (.int 7)) .nil))) (.lit (.int 40000))) (.lit (.int 120000)))) (.seq (.ite (.cmp .NotIn (.var 9) (.var 4)) (.seq (.setI (.var 4) (.var 9) (.var 10)) (.seq (.asg (.var 11) (.ite (.var 3) (.meth (.var 2) jj (.cons (.var 8) .nil)) (.lit (.int 0)))) (.seq (.expr (.meth (.var 2) gU (.cons (.lit (.int 2)) .nil))) (.seq (.ite (.var 3) (.seq (.expr (.meth (.var 2) dn (.cons (.lit (.int 0)) (.cons (.var 11) (.cons (.lit (.int 0)) .nil))))) .skip) (.seq (.expr (.meth (.var 2) gz (.cons (.lit (.int 0)) (.cons (.var 8) (.cons (.lit (.int 0)) .nil))))) .skip)) (.seq (.expr (.meth (.var 2) gy (.cons (.lit (.int 1)) (.cons (.var 10) (.cons (.lit (.int 0)) .nil))))) (.seq (.setI (.var 5) (.var 9) (.meth (.var 2) ji .nil)) .skip)))))) .skip) .skip)))) (.seq (.asg (.var 12) (.call (.glob (.fn .sorted)) (.cons (.var 4) .nil))) (.seq (.expr (.meth (.var 2) jX (.cons (.lit (.int 4)) (.cons (.call (.glob (.fn .len)) (.cons (.var 12) .nil)) (.cons (.lit (.int 4)) .nil))))) (.seq (.forIn (.var 9) .lst (.slc (.var 12) (.lit .none) (.lit .none) (.un PySem.UnaryOp.USub (.lit (.int 1)))) (.seq (.expr (.meth (.var 2) di (.cons (.idx (.var 5) (.var 9)) .nil))) .skip)) (.seq (.asg (.var 13) (.meth (.var 2) jg .nil)) (.seq (.expr (.meth (.var 2) gU (.cons (.lit (.int 2)) .nil))) (.seq (.expr (.meth (.var 2) dn (.cons (.lit (.int 1)) (.cons (.var 13) (.cons (.lit (.int 0)) .nil))))) (.seq (.asg (.var 14) (.meth (.var 2) ji .nil)) (.seq (.asg (.var 15) (.call (.glob (.st 778)) (.cons (.var 1) (.cons (.lit (.int 3)) .nil)))) (.seq (.ite (.cmp .Eq (.var 15) (.lit (.int 1))) (.seq (.expr (.meth (.var 2) fQ (.cons (.var 14) .nil))) .skip) (.seq (.expr (.meth (.var 2) ql (.cons (.var 14) (.cons (.ite (.cmp .Eq (.var 15) (.lit (.int 2))) (.lit (.bytes [75,69,89,83])) (.lit .none)) .nil)))) .skip)) (.seq (.asg (.var 16) (.call (.glob (.fn .bytes)) (.cons (.meth (.var 2) qk .nil) .nil))) (.seq (.asg (.var 17) (.ite (.cmp .Eq (.var 15) (.lit (.int 1))) (.lit (.int 4)) (.lit (.int 0)))) (.seq (.asg (.var 18) (.call (.glob (.st 263)) (.cons (.var 16) (.cons (.bin .Add (.var 17) (.call (.glob (.st 174)) (.cons (.glob (.st 52)) (.cons (.var 16) (.cons (.var 17) .nil))))) .nil)))) (.seq (.asg (.var 19) (.lit (.int 0))) (.seq (.whl (.cmp .LtE (.bin .Pow (.lit (.int 2)) (.var 19)) (.call (.glob (.fn .len)) (.cons (.var 12) .nil))) (.seq (.asg (.var 19) (.bin .Add (.var 19) (.lit (.int 1)))) .skip)) (.seq (.asg (.var 21) (.bin .Add (.comp false (.idx (.call (.glob (.st 792)) (.cons (.var 1) (.cons (.var 3) .nil))) (.lit (.int 1))) (.var 28) 1 .rng (.cons (.lit (.int 3)) .nil) (.lit (.bool true))) (.lst false (.cons (.idx (.var 12) (.un PySem.UnaryOp.USub (.lit (.int 1)))) (.cons (.idx (.var 12) (.bin .FloorDiv (.call (.glob (.fn .len)) (.cons (.var 12) .nil)) (.lit (.int 2)))) .nil))))) (.seq (.asg (.var 22) (.lst true .nil)) (.seq (.forIn (.var 9) .lst (.var 21) (.seq (.asg (.tup [23,24]) (.call (.glob (.st 806)) (.cons (.var 18) (.cons (.var 9) (.cons (.var 3) .nil))))) (.seq (.ite (.or (.cmp .Gt (.var 24) (.var 19)) (.cmp .NotEq (.var 23) (.call (.glob (.fn .len)) (.cons (.comp false (.var 28) (.var 28) 1 .lst (.var 12) (.cmp .Lt (.var 28) (.var 9))) .nil)))) (.seq (.ret (.lit (.bool false))) .skip) .skip) (.seq (.asg (.var 26) (.lit .none)) (.seq (.ite (.cmp .Lt (.var 23) (.meth (.var 18) je (.cons (.meth (.var 18) dp (.cons (.lit (.int 6)) .nil)) .nil))) (.seq (.asg (.tup [27,25]) (.call (.glob (.st 799)) (.cons (.var 18) (.cons (.var 23) (.cons (.var 3) .nil))))) (.seq (.ite (.cmp .Eq (.var 27) (.var 9)) (.seq (.asg (.var 26) (.meth (.var 25) jK (.cons (.lit (.int 6)) (.cons (.lit (.int 0)) (.cons (.glob (.st 120)) .nil))))) .skip) .skip) .skip)) .skip) (.seq (.ite (.cmp .NotEq (.var 26) (.ite (.cmp .In (.var 9) (.var 4)) (.idx (.var 4) (.var 9)) (.lit .none))) (.seq (.ret (.lit (.bool false))) .skip) .skip) (.seq (.expr (.meth (.var 22) jd (.cons (.var 23) .nil))) .skip))))))) (.seq (.asg (.var 8) (.lst true .nil)) (.seq (.forIn (.var 20) .rng (.cons (.idx (.var 22) (.lit (.int 0))) (.cons (.idx (.var 22) (.lit (.int 1))) .nil)) (.seq (.asg (.tup [27,25]) (.call (.glob (.st 799)) (.cons (.var 18) (.cons (.var 20) (.cons (.var 3) .nil))))) (.seq (.expr (.meth (.var 8) jd (.cons (.tup (.cons (.var 27) (.cons (.meth (.var 25) jK (.cons (.lit (.int 6)) (.cons (.lit (.int 0)) (.cons (.glob (.st 120)) .nil)))) .nil))) .nil))) .skip))) (.seq (.ret (.cmp .Eq (.var 8) (.comp false (.tup (.cons (.var 28) (.cons (.idx (.var 4) (.var 28)) .nil))) (.var 28) 1 .lst (.var 12) (.chain .LtE .Lt (.idx (.var 21) (.lit (.int 0))) (.var 28) (.idx (.var 21) (.lit (.int 1))))))) .skip)))))))))))))))))))))))))))
end
section
noncomputable def as0:List Addr:=[2,3,50,51,52,53,54,63,64,77,78,91,92,105,106,119,120,133,134,145,146,157,158,166,167,173,174,180,181,195,196,202,203,209,210,216,217,223,224,230,231,244,245,251,252,262,263,264,265,268,269,356,362,363,376,377,383,384,390,391,397,398,404,405,411,412,418,419,425,426,432,433,439,440,446,447,453,454,455,461,462,475,476,489,490,496,497,510,511,512,518,519,520,526,527,528,534,535,541,542,548,549,604,605,611,612,625,626,695,696,716,717,723,724,737,738,744,745,748,749,750,751,752,753,754,755,756,757,758,759,760,763,764,765,766,767,768,769,770,771,777,778,784,785,791,792,798,799,805,806,810,811]
noncomputable def j6:zj:=⟨tb0,[(l9,Fm.B),(iT,Fm.H),(gp,Fm.I),(ma,Fm.h),(gI,Fm.i)],[(ej,kS),(cz,kU)],[
 ⟨cJ,["n","flags"],[],[], .pos 2,iH⟩,
 ⟨mY,["packer_type","buf","head"],[],[], .pos 3,CU⟩,
 ⟨jq,["packer_type","buf","head","n"],[],[], .pos 4,vc⟩,
 ⟨dq,["self"],[],[], .pos 1,iI⟩,
 ⟨c8,["self"],[],[], .pos 1,gt⟩,
 ⟨ec,["self"],[],[], .pos 1,n8⟩,
 ⟨kW,["self"],[],[], .pos 1,sN⟩,
 ⟨dN,["self"],["msg","newSize","bytes2"],[], .pos 1,gJ⟩,
 ⟨mZ,["self","n"],["new_head"],[], .pos 2,ve⟩,
 ⟨fK,["self","size","additionalBytes"],["head","buf_len","alignSize","needed","oldBufSize"],[], .pos 3,sM⟩,
 ⟨gD,["self","x","flags"],["new_head"],[], .pos 3,pY⟩,
 ⟨d9,["self","x"],["new_head"],[], .pos 2,ic⟩,
 ⟨dB,["self","x"],["new_head"],[], .pos 2,ib⟩,
 ⟨eY,["self","flags","off"],[],[], .pos 3,mK⟩,
 ⟨cS,["self","off"],["msg","off2"],[], .pos 2,eM⟩,
 ⟨cK,["self","off"],["msg","off2"],[], .pos 2,eL⟩,
 ⟨d6,["self","elemSize","numElems","alignment"],[],[], .pos 4,iZ⟩,
 ⟨ew,["self","numElems"],[],[], .dflt 1 .none,kE⟩,
 ⟨jO,["self","slotnum"],[],[], .pos 2,sL⟩,
 ⟨d7,["self","numfields"],[],[], .pos 2,i4⟩,
 ⟨d8,["self","flags","o","x","d"],[],[], .pos 5,i5⟩,
 ⟨dy,["self","args"],[],[], .star,f7⟩,
 ⟨dw,["self","args"],[],[], .star,f6⟩,
 ⟨cM,["self","o","x","d"],[],[], .pos 4,dX⟩,
 ⟨eC,["self","x"],[],[], .pos 2,iJ⟩,
 ⟨dF,["self","x"],[],[], .pos 2,gv⟩,
 ⟨gm,["self"],[],[], .pos 1,n7⟩,
 ⟨eO,["self"],["objectOffset","vtKey","trim","elem","objectSize","vt2Offset","i","trailing","off","vBytes","objectStart"],["vtKey"], .pos 1,iY⟩,
 ⟨eQ,["self"],[],[], .pos 1,kF⟩,
 ⟨kU,["self","initialSize"],["msg"],[], .dflt 1 (.int 1024),sK⟩,
 ⟨kS,["self","buf","pos"],[],[], .pos 3,sJ⟩,
 ⟨kq,["self","flags","off"],[],[], .pos 3,vd⟩,
 ⟨d0,["self","vtableOffset"],["vtable","vtableEnd"],[], .pos 2,n6⟩,
 ⟨fT,["self","off"],[],[], .pos 2,lG⟩,
 ⟨dz,["self","off"],["ret"],[], .pos 2,kC⟩,
 ⟨io,["self","off"],["x"],[], .pos 2,n4⟩,
 ⟨dR,["self","slot","d","validator_flags"],["off"],[], .pos 4,mJ⟩,
 ⟨eD,["self","s"],["x","payload_len","new_head"],[], .pos 2,iK⟩,
 ⟨fH,["self","rootTable","sizePrefix","file_identifier"],["prepSize","i","size"],[], .kw 3 "file_identifier",mL⟩,
 ⟨gn,["self","rootTable","file_identifier"],[],[], .dflt 2 .none,n9⟩,
 ⟨c7,["self","rootTable","file_identifier"],[],[], .dflt 2 .none,fC⟩,
 ⟨ip,["self","off"],["start","length"],[], .pos 2,n5⟩,
 ⟨eN,["box","many"],["number"],[], .pos 2,mH⟩,
 ⟨gC,["box","most"],["text","octets","k","sign","part"],[], .pos 2,mG⟩,
 ⟨gk,["box","textual"],["text","octets","number"],[], .pos 2,nZ⟩,
 ⟨dQ,["table","k","textual"],["row","other"],[], .pos 3,mI⟩,
 ⟨eg,["table","key","textual"],["low","high","looks","middle","seen","other"],[], .pos 3,lF⟩,
 ⟨yF,["script"],["box","builder","textual","held","places","many","turn","told","key","worth","name","ordered","row","root","how","data","first","table","steps","k","asked","found","low","looks","other","answer","seen"],["box","found","told"], .pos 1,pX⟩]⟩
end
section
theorem Fk(w:World):(vE PySem.Challenge.rw_ar0012_01.prog w 20000).map (yo PySem.Challenge.rw_ar0012_01.prog (qOf PySem.Challenge.rw_ar0012_01) (vX PySem.Challenge.rw_ar0012_01) fun x=>j6.see (yy as0 x.tree x.n))=some (true,openGood (qOf PySem.Challenge.rw_ar0012_01) (vX PySem.Challenge.rw_ar0012_01),j6.exp):=by kernel_rfl
end
section
abbrev AT(Φ:Addr→Option Ctr)(a:Addr)(c:Ctr):Prop:=(Pg.mk Φ wx sS).Φ a=some c
abbrev BD(Φ:Addr→Option Ctr)(c:Ctr)(b:List V→List (Str×P)→Option (List V))(n:Nat)(s:S):Prop:=∀args kws objs Q,c args kws objs Q→ez b n s ⟨Φ,wx,sS⟩ args kws objs Q
structure Lv where
 b:List UInt8:=[]
 h:Int:=0
 v:Nat:=0
 k:Nat:=0
 x:Int:=0
 y:Int:=0
 o:Option P:=none
 q:Option P:=none
 r:Option P:=none
 t:Bool:=false
 l:List Int:=[]
 m:List Int:=[]
 mt:List (Int×Int):=[]
 e:List (Option V):=[]
 s:List O:=[]
 a:Ab:=⟨[],0,0,none,false, .none,false,false, .none,none,[]⟩
theorem xq{n0:Nat}{test:St→(Bool→St→Prop)→Prop}{body:St→(Fl→St→Prop)→Prop}{Q:Fl→St→Prop}(stf:Lv→St)(a3:Lv→Nat)(I:Lv→Prop)
  (a0:∀i (K:Fl→St→Prop),I i→(∀b3 j,iu n0 b3=stf j→a3 j<a3 i→I j→K .next b3∧K .cont b3)→(∀b3,Q .next b3→K .brk b3)→(∀v b3,Q (.ret v) b3→K (.ret v) b3)→
   test (stf i) fun b st=>br b (body st K) (Q .next st)) (i:Lv) (h:I i):∃n,Ag n0 test body n (stf i) Q:=
 Af (fun k st=>∃i,st=stf i∧k=a3 i∧I i) (fun k st K zp hn hb hr=>e1c zp fun i e1 e2 hI=>by clear zp;subst e1 e2;exact a0 i K hI (fun b3 j e hm hj=>hn b3 _ hm ⟨j,e,rfl,hj⟩) hb hr) (a3 i) (stf i) ⟨i,rfl,rfl,h⟩
theorem C7{n0:Nat}{chk:St→Prop}{step:P→St→(Fl→St→Prop)→Prop}{Q:Fl→St→Prop}(stf:Lv→St)(I:List P→Lv→Prop)
  (a0:∀x xs i (K:Fl→St→Prop),I (x::xs) i→(∀b3 j,iu n0 b3=stf j→I xs j→K .next b3∧K .cont b3)→(∀b3,Q .next b3→K .brk b3)→(∀v b3,Q (.ret v) b3→K (.ret v) b3)→chk (stf i)∧step x (stf i) K)
  (b4:∀i,I [] i→chk (stf i)∧Q .next (stf i)) (xs:List P) (i:Lv) (h:I xs i):km n0 chk step xs (stf i) Q:=
 qu (fun xs st=>∃i,st=stf i∧I xs i) (fun x xs st K zp hn hb hr=>e1b zp fun i e1 hI=>by subst e1;exact a0 x xs i K hI (fun b3 j e hj=>hn b3 ⟨j,e,hj⟩) hb hr) (fun st zp=>e1b zp fun i e1 hI=>by clear a0 step n0 zp;subst e1;exact b4 i hI) xs (stf i) ⟨i,rfl,h⟩
theorem zQ{chk:St→Prop}{step:P→St→(List P→St→Prop)→Prop}{Q:List P→St→Prop}(stf:Lv→St)(I:List P→List P→Lv→Prop)
  (a0:∀x xs acc i (K:List P→St→Prop),I (x::xs) acc i→(∀ys j,I xs (acc++ys) j→K ys (stf j))→chk (stf i)∧step x (stf i) K)
  (b4:∀acc i,I [] acc i→chk (stf i)∧Q acc (stf i)) (xs acc:List P) (i:Lv) (h:I xs acc i):uc chk step xs acc (stf i) Q:=
 qL (fun xs acc st=>∃i,st=stf i∧I xs acc i) (fun x xs acc st K zp hn=>e1b zp fun i e1 hI=>by subst e1;exact a0 x xs acc i K hI fun ys j hj=>hn ys (stf j) ⟨j,rfl,hj⟩) (fun acc st zp=>e1b zp fun i e1 hI=>by clear zp;subst e1;exact b4 acc i hI) xs acc (stf i) ⟨i,rfl,h⟩
theorem CQ{G:Pg}{a b:S}{st:St}{Q:Fl→St→Prop}(stf:Lv→St)(I:Lv→Prop)(h1:∀K:Fl→St→Prop,(∀i,I i→K .next (stf i))→(∀f b3,f≠.next→Q f b3→K f b3)→wS G a st K)(h2:∀i,I i→wS G b (stf i) Q) :
  wS G (.seq a b) st Q:=u5 (fun st=>∃i,st=stf i∧I i) (fun K hK=>h1 K fun i hi=>hK _ ⟨i,rfl,hi⟩) fun b3 zp=>e1b zp fun i e hi=>by clear h1 st a zp;subst e;exact h2 i hi
theorem Eh{i:Int}{n:Nat}(h:0≤i):at_ i n=i:=if_neg (Int.not_lt.mpr h)
theorem pA{n d:Nat}:wM .none n d=some d:=rfl
theorem iC{lo hi:P}{n N a b:Nat}{K:Nat→Nat→Prop}(e:n=N)(h1:wM lo N 0=some a)(h2:wM hi N N=some b)(hn:N≤16777216)(h:K a b):ng lo hi n K:=by
 subst e;unfold ng;rw[h1,h2];exact⟨hn,h⟩
theorem jZ{l:List P}{i:Int}{z:P}{st:St}{Q:V→St→Prop}(h0:0≤i)(h1:l[i.toNat]?=some z)(h2:l.length≤16777216)(h:Q (.p z) st):uA l i st Q:=by
 unfold uA;rw[Eh h0];exact⟨⟨h0,h2⟩,z,h1,h⟩
theorem gB(k:Nat){l:List P}{z:P}{st:St}{Q:V→St→Prop}(h1:l[k]?=some z)(h2:Nat.ble l.length 16777216=true)(h:Q (.p z) st):uA l k st Q:=jZ (G4 k) h1 (GB h2) h
theorem oa(l:List P)(r:List Nat):fE (l.map .p) r=r:=by
 induction l generalizing r with
 |nil=>rfl
 |cons x l ih=>exact ih r
theorem qo(φ:Nat→Nat)(l:List P):nM φ (l.map .p)=l.map .p:=by
 induction l with
 |nil=>rfl
 |cons x l ih=>exact congrArg (V.p x::·) ih
theorem EY{σ:List O}{j:Nat}{o:O}:mD σ [j] [o]=σ.set j o:=List.append_nil _
theorem Ez{Q:V→St→Prop}{v:P}{env:List (Option V)}{σ:List O}{j:Nat}{o:O}(h:Q (.p v) ⟨env,σ.set j o⟩):Q (.p v) ⟨env,mD σ [j] [o]⟩:=by rw[EY];exact h
theorem mo{G:Pg}{fa:Addr}{ctr:Ctr}(a3:G.Φ fa=some ctr){j:Nat}{env:List (Option V)}{σ:List O}{o:O}{ps:List P}{kws:List (Str×P)}{Q:V→St→Prop}(hj:σ[j]?=some o)
  (h:ctr (.ref 0::ps.map .p) kws [o] fun v objs=>Q (A3 (sw [j] σ.length) v) ⟨env,mD σ [j] objs⟩):eT G fa (.ref j::ps.map .p) kws ⟨env,σ⟩ Q:=by
 unfold eT;rw[a3];have e:fE (V.ref j::ps.map .p) []=[j]:=oa ps [j];have e2:nM ([j].idxOf ·) (V.ref j::ps.map .p)=.ref 0::ps.map .p:=by
  refine(?_:V.ref ([j].idxOf j)::nM _ _=_);rw[qo,List.idxOf_cons_self]
 rw[e,e2];refine(?_:opt (qy σ [j]) _);unfold qy qy;rw[hj];exact h
set_option genCtorIdx true in
inductive Fg where|u8|v|h|i|s|u
noncomputable def Fg.c:Fg→Addr|.u8=>eZ|.v=>dS|.h=>fj|.i=>fc|.s=>dU|.u=>dT
noncomputable def Fg.F:Fg→Fm|.u8=>.B|.v=>.H|.h=>.h|.i=>.i|.s=>.i|.u=>.I
noncomputable def Fg.S:Fg→Addr|.u8=>l9|.v=>iT|.h=>ma|.i=>gI|.s=>gI|.u=>gp
theorem Dv(g:Fg):cN.stat.lookup g.c=some (.int g.F.w):=by cases g<;>rfl
theorem FC(g:Fg):dm.stat.lookup g.c=some (.st g.S):=by cases g<;>rfl
theorem Du(g:Fg):jS.stat.lookup g.c=some (.int g.F.lo):=by cases g<;>rfl
theorem FD(g:Fg):jT.stat.lookup g.c=some (.int g.F.hi):=by cases g<;>rfl
structure Ar where
 g:Fg:=.u8
 d:List UInt8:=[]
 x:Int:=0
 y:Int:=0
 z:Int:=0
@[irreducible] noncomputable def nB(c:Addr)(A:Ar→List P)(side:Ar→Ab→Prop)(new:Ar→Ab→Ab)(ret:Ar→Ab→P):Ctr:=fun args kws objs Q=>
 ∃i a bytes head ver,args=.ref 0::(A i).map .p∧kws=[]∧objs=[bo c a bytes head ver]∧Rb a.T a.room bytes head∧side i a∧∀a0 head' a5,Rb (new i a).T (new i a).room a0 head'→Q (.p (ret i a)) [bo c (new i a) a0 head' a5]
@[irreducible] noncomputable def rf{ω:Type}(o:ω→O)(A:Ar→List P)(side:Ar→ω→Prop)(ret:Ar→ω→P):Ctr:=fun args kws objs Q=>
 ∃i w,args=.ref 0::(A i).map .p∧kws=[]∧objs=[o w]∧side i w∧Q (.p (ret i w)) [o w]
@[irreducible] noncomputable def Cf{ω:Type}(o:ω→O)(A:Ar→List P)(side:Ar→ω→Prop)(o':Ar→ω→Nat→O)(ret:Ar→ω→P):Ctr:=fun args kws objs Q=>
 ∃i w,args=.ref 0::(A i).map .p∧kws=[]∧objs=[o w]∧side i w∧∀a5,Q (.p (ret i w)) [o' i w a5]
@[irreducible] noncomputable def BJ(A:Ar→List P)(side:Ar→Prop)(ret:Ar→P):Ctr:=fun args kws objs Q=>∃i,args=(A i).map .p∧kws=[]∧objs=[]∧side i∧Q (.p (ret i)) []
structure Bw where
 a:Ab
 b:List UInt8
 h:Int
 v:Nat
noncomputable def Bw.o(w:Bw):O:=bo cz w.a w.b w.h w.v
def Bw.R(w:Bw):Prop:=Rb w.a.T w.a.room w.b w.h
noncomputable def Bw.put(w:Bw)(i:Ar):O:=bo cz w.a (Fb.put w.b i.x.toNat (le i.g.F.w i.y)) w.h w.v
def FR(i:Ar)(w:Bw):Prop:=0≤i.x∧i.x+i.g.F.w≤w.b.length∧w.b.length≤16777216∧i.g.F.lo≤i.y∧i.y≤i.g.F.hi
@[irreducible] noncomputable def jw:Ctr:=fun args kws objs Q=>∃(i:Ar) (w:Bw),args=[.p (.st i.g.S), .inn 0 0 w.v, .p (.int i.x), .p (.int i.y)]∧kws=[]∧objs=[w.o]∧FR i w∧Q (.p .none) [w.put i]
section
variable {G:Pg}{fa c:Addr}{ω:Type}{o:ω→O}{A:Ar→List P}{side:Ar→Ab→Prop}{new:Ar→Ab→Ab}{ret:Ar→Ab→P}{sideG:Ar→ω→Prop}{retG:Ar→ω→P}{sideN:Ar→Prop}{retN:Ar→P}{env:List (Option V)}{σ:List O}{Q:V→St→Prop}
theorem cX(a3:G.Φ fa=some (nB c A side new ret))(j:Nat)(i:Ar){a:Ab}{bytes:List UInt8}{head:Int}{ver:Nat}(hj:σ[j]?=some (bo c a bytes head ver))(hr:Rb a.T a.room bytes head)(hs:side i a)
  (h:∀a0 head' a5,Rb (new i a).T (new i a).room a0 head'→Q (.p (ret i a)) ⟨env,σ.set j (bo c (new i a) a0 head' a5)⟩):eT G fa (.ref j::(A i).map .p) [] ⟨env,σ⟩ Q:=by
 refine mo a3 hj ?_;unfold nB;exact⟨i,a,bytes,head,ver,rfl,rfl,rfl,hr,hs,fun b h' v r=>Ez (Q:=Q) (h b h' v r)⟩
theorem ei(a3:G.Φ fa=some (rf o A sideG retG))(j:Nat)(i:Ar)(w:ω)(hj:σ[j]?=some (o w))(hs:sideG i w)(h:Q (.p (retG i w)) ⟨env,σ⟩):eT G fa (.ref j::(A i).map .p) [] ⟨env,σ⟩ Q:=by
 refine mo a3 hj ?_;unfold rf;refine⟨i,w,rfl,rfl,rfl,hs,?_⟩;have e:σ.set j (o w)=σ:=by
  refine e1a (List.getElem?_eq_some_iff.mp hj) fun hj q=>?_;rw[←q];exact List.set_getElem_self hj
 refine Ez (Q:=Q) ?_;rw[e];exact h
theorem zT{o':Ar→ω→Nat→O}(a3:G.Φ fa=some (Cf o A sideG o' retG))(j:Nat)(i:Ar)(w:ω)(hj:σ[j]?=some (o w))(hs:sideG i w)(h:∀a5,Q (.p (retG i w)) ⟨env,σ.set j (o' i w a5)⟩):eT G fa (.ref j::(A i).map .p) [] ⟨env,σ⟩ Q:=by
 refine mo a3 hj ?_;unfold Cf;exact⟨i,w,rfl,rfl,rfl,hs,fun v=>Ez (Q:=Q) (h v)⟩
theorem eH(a3:G.Φ fa=some (BJ A sideN retN))(i:Ar){st:St}(hs:sideN i)(h:Q (.p (retN i)) st):eT G fa ((A i).map .p) [] st Q:=by
 unfold eT;rw[a3,oa,qo];refine(?_:BJ A sideN retN _ _ _ _);unfold BJ;refine⟨i,rfl,rfl,rfl,hs,?_⟩;refine(?_:Q _ ⟨st.env,st.σ++[]⟩);rw[List.append_nil];exact h
theorem qQ(a3:G.Φ fa=some jw)(j:Nat)(i:Ar)(w:Bw)(hj:σ[j]?=some w.o)(hs:FR i w)(h:Q (.p .none) ⟨env,σ.set j (w.put i)⟩):eT G fa [.p (.st i.g.S), .inn j 0 w.v, .p (.int i.x), .p (.int i.y)] [] ⟨env,σ⟩ Q:=by
 unfold eT;rw[a3];refine(?_:opt (qy σ [j]) _);unfold qy qy;rw[hj];refine(?_:jw _ _ _ _);unfold jw;refine⟨i,w,?_,rfl,rfl,hs,?_⟩
 ·refine(?_:[V.p (.st i.g.S), .inn ([j].idxOf j) 0 w.v, .p (.int i.x), .p (.int i.y)]=_);rw[List.idxOf_cons_self]
 ·refine(?_:Q _ ⟨env,mD (σ.set j _) [] []⟩);unfold mD;rw[List.append_nil];exact h
theorem zW{ac:List V→List (Str×P)→Option (List V)}{k:Nat}{S:S}(E:Ar→List V)(hb:∀i,ac ((A i).map .p) []=some (E i))
  (h:∀i (K:Fl→St→Prop),sideN i→(∀fl env r,uy fl=.p (retN i)→K fl ⟨env,r⟩)→wS G S ⟨(E i).map some++List.replicate k none,[]⟩ K):∀args kws objs Q,BJ A sideN retN args kws objs Q→ez ac k S G args kws objs Q:=fun args kws objs Q hq=>by
 unfold BJ at hq;revert hq;intro zh;refine e1e zh fun i a3 b6 ck hs hq=>?_;clear zh;subst a3 b6 ck;unfold ez;rw[hb];refine h i _ hs fun fl env r e=>⟨0,⟨Gw 0,G1 _,?_⟩,?_⟩
 ·rw[e];rfl
 ·rw[e];exact hq
theorem zV{o':Ar→ω→Nat→O}{ac:List V→List (Str×P)→Option (List V)}{k:Nat}{S:S}(E:Ar→List V)(hb:∀i,ac (.ref 0::(A i).map .p) []=some (E i))
  (h:∀i w (K:Fl→St→Prop),sideG i w→(∀fl env a5 r,uy fl=.p (retG i w)→K fl ⟨env,o' i w a5::r⟩)→
   wS G S ⟨(E i).map some++List.replicate k none,[o w]⟩ K):∀args kws objs Q,Cf o A sideG o' retG args kws objs Q→ez ac k S G args kws objs Q:=fun args kws objs Q hq=>by
 unfold Cf at hq;revert hq;intro zh;refine e2e zh fun i w b6 ck c1 hs hq=>?_;clear zh;subst b6 ck c1;unfold ez;rw[hb];refine h i w _ hs fun fl env a5 r e=>⟨1,⟨Gw 1,Nat.le_add_left 1 _,?_⟩,?_⟩
 ·rw[e];rfl
 ·rw[e];exact hq _
theorem fy{ac:List V→List (Str×P)→Option (List V)}{k:Nat}{S:S}(E:Ar→List V)(hb:∀i,ac (.ref 0::(A i).map .p) []=some (E i))
  (h:∀i a bytes head ver (K:Fl→St→Prop),Rb a.T a.room bytes head→side i a→(∀fl env a0 head' a5 r,Rb (new i a).T (new i a).room a0 head'→uy fl=.p (ret i a)→K fl ⟨env,bo c (new i a) a0 head' a5::r⟩)→
   wS G S ⟨(E i).map some++List.replicate k none,[bo c a bytes head ver]⟩ K):∀args kws objs Q,nB c A side new ret args kws objs Q→ez ac k S G args kws objs Q:=fun args kws objs Q hq=>by
 unfold nB at hq;revert hq;intro zh;refine e5f zh fun i a bytes head ver a4 c2 a3 hr hs hq=>?_;clear zh;subst a4 c2 a3;unfold ez;rw[hb];refine h i a bytes head ver _ hr hs fun fl env a0 head' a5 r b5 e=>⟨1,⟨Gw 1,Nat.le_add_left 1 _,?_⟩,?_⟩
 ·rw[e];rfl
 ·rw[e];exact hq _ _ _ b5
theorem jB{ac:List V→List (Str×P)→Option (List V)}{k:Nat}{S:S}(E:Ar→List V)(hb:∀i,ac (.ref 0::(A i).map .p) []=some (E i))
  (h:∀i w (K:Fl→St→Prop),sideG i w→(∀fl env r,uy fl=.p (retG i w)→K fl ⟨env,o w::r⟩)→
   wS G S ⟨(E i).map some++List.replicate k none,[o w]⟩ K):∀args kws objs Q,rf o A sideG retG args kws objs Q→ez ac k S G args kws objs Q:=fun args kws objs Q hq=>by
 unfold rf at hq;revert hq;intro zh;refine e2e zh fun i w b6 ck c1 hs hq=>?_;clear zh;subst b6 ck c1;unfold ez;rw[hb];refine h i w _ hs fun fl env r e=>⟨1,⟨Gw 1,Nat.le_add_left 1 _,?_⟩,?_⟩
 ·rw[e];rfl
 ·rw[e];exact hq
end
end
local macro_rules |`(tactic| lk)=>`(tactic| (try ((first|refine Fb.EF rfl ?_|refine Fb.uB rfl ?_|refine GK rfl ?_|refine Fb.ka rfl ?_);lk)))
section
def inB(F:Fm)(d:List UInt8)(off:Int):Prop:=0≤off∧off+F.w≤d.length∧d.length≤16777216
noncomputable def rdF(F:Fm)(d:List UInt8)(off:Int):Int:=F.rd ((d.drop off.toNat).take F.w)
noncomputable def sq:Ctr:=BJ (fun i=>[.int i.x, .st i.g.c]) (fun i=>i.g.F.lo≤i.x∧i.x≤i.g.F.hi) fun _=>.none
noncomputable def y3:Ctr:=BJ (fun i=>[.st i.g.S, .bytes i.d, .int i.x]) (fun i=>inB i.g.F i.d i.x) fun i=>.int (rdF i.g.F i.d i.x)
section
variable {Φ:Addr→Option Ctr}
theorem w1:BD Φ sq (cQ 2) 0 iH:=
 zW (fun i=>[.p (.int i.x), .p (.st i.g.c)]) (fun _=>rfl) fun⟨g,d,x,y,z⟩ K h hK=>by
  lk;refine ka (Du g) ?_;lk;refine ka (Du g) ?_;lk;refine EF (decide_eq_true h.1) ?_;lk;refine ka (FD g) ?_;lk;refine uB (congrArg Bool.not (decide_eq_true h.2)) ?_;lk;exact hK _ _ _ rfl
theorem FN:BD Φ y3 (cQ 3) 0 CU:=
 zW (fun i=>[.p (.st i.g.S), .p (.bytes i.d), .p (.int i.x)]) (fun _=>rfl) fun⟨g,d,x,y,z⟩ K h hK=>by
  cases g
  all_goals
   lk;refine⟨h,?_⟩;lk;refine gB 0 rfl rfl ?_;lk;exact hK _ _ _ rfl
theorem BV:BD Φ jw (cQ 4) 0 vc:=fun args kws objs Q hq=>by
 unfold jw at hq;revert hq;intro zh;refine e2e zh fun ct w b6 ck c1 h hq=>?_;clear zh;subst b6 ck c1;obtain⟨g,d,x,y,z⟩:=ct
 cases g
 all_goals
  lk;refine⟨h,?_⟩;lk;exact⟨1,⟨Gw 1,Gw 1,rfl⟩,hq⟩
end
end
section
noncomputable def uh:Ctr:=rf Bw.o (fun _=>[]) (fun _ w=>w.a.nested=true) fun _ _=>.none
noncomputable def jQ:Ctr:=rf Bw.o (fun _=>[]) (fun _ w=>w.a.nested=false) fun _ _=>.none
noncomputable def gX:Ctr:=rf Bw.o (fun _=>[]) (fun _ w=>w.R) fun _ w=>.int w.a.T.length
noncomputable def y1:Ctr:=rf Bw.o (fun _=>[]) (fun _ _=>True) fun _ w=>.int w.h
section
variable {Φ:Addr→Option Ctr}
theorem D9:BD Φ uh (cQ 1) 0 iI:=
 jB (fun _=>[.ref 0]) (fun _=>rfl) fun i w K h hK=>by
  refine uB (congrArg Bool.not h) ?_;lk;exact hK _ _ [] rfl
theorem w6:BD Φ jQ (cQ 1) 0 gt:=
 jB (fun _=>[.ref 0]) (fun _=>rfl) fun i w K h hK=>by
  refine uB h ?_;lk;exact hK _ _ [] rfl
theorem ze:BD Φ gX (cQ 1) 0 n8:=
 jB (fun _=>[.ref 0]) (fun _=>rfl) fun i w K h hK=>by
  lk;refine⟨Gp h.cap (by decide),?_⟩
  lk;exact hK _ _ [] (congrArg (fun x=>V.p (.int x)) h.len)
theorem Ea:BD Φ y1 (cQ 1) 0 sN:=
 jB (fun _=>[.ref 0]) (fun _=>rfl) fun i w K h hK=>by
  lk;exact hK _ _ [] rfl
noncomputable def jp(b:List UInt8):List UInt8:=List.replicate (if b.length=0 then 1 else b.length) 0++b
noncomputable def y2:Ctr:=Cf Bw.o (fun _=>[]) (fun _ w=>w.b.length≤2097152) (fun _ w ver=>bo cz w.a (jp w.b) w.h ver) fun _ _=>.none
theorem Br{b:List UInt8}(h0:b.length≠0):List.take ((b.length:Int)*2-b.length).toNat (List.replicate ((b.length:Int)*2).toNat (0:UInt8))++b++List.drop ((b.length:Int)*2).toNat (List.replicate ((b.length:Int)*2).toNat 0)=jp b:=by
 rw[List.drop_eq_nil_of_le (by rw[GQ];exact Gw _),List.append_nil,List.take_replicate,jp,if_neg h0]
 congr 2
 exact Nat.le_antisymm (cG [] [_,_,_] ab ae 1 [.j 1 ab aj,.e 1 av (.s (.r ak 2) ak)] rfl (Nat.min_le_left _ _) (Gl (lin [] [_] an cj 1 [.j 1 bj ab] rfl (GL h0)))) (cG [] [_,_,_] ab ae 1 [.e (-1) av cj,.f (-1) ae aj] rfl (Gl (lin [] [_] an cj 1 [.j 1 bj ab] rfl (GL h0))) (G8 (cG [] [_,_,_] ab ae 1 [.j 1 bj aj,.e 1 af (.s (.r av 2) av),.e (-1) ak (.r av 2)] rfl (GL h0) (Gl (lin [] [_] an cj 1 [.j 1 bj ab] rfl (GL h0))) (Gl (lin [] [_] an bw 1 [.j 2 bj ab] rfl (GL h0))))))
theorem Eb:BD Φ y2 (cQ 1) 3 gJ:=
 zV (fun _=>[.ref 0]) (fun _=>rfl) fun i w K h hK=>by
  have h3:w.b.length≤16777216:=Gp h (by decide)
  lk;refine⟨h3,?_⟩;lk;refine uB (decide_eq_false (by exact Int.ne_of_lt (lin [] [_] bv aG 1 [.j 1 ab (.n 2097152)] rfl h))) ?_
  lk;refine⟨h3,?_⟩;lk;refine⟨by decide,?_⟩
  lk
  conv=>whnf
  rw[show min ((w.b.length:Int)*2) 2147483648=w.b.length*2 from Int.min_eq_left (by exact lin [] [_] bw aG 1 [.j 2 ab (.n 2097152)] rfl h)]
  refine c9 (fun q=>?_) (fun q=>?_)
  ·have q0:w.b.length=0:=by have q1:=GI q;exact Nat.le_antisymm (cG [] [_] ab ax 2 [.e 1 bw an] rfl q1) (cG [] [_] ax ab 2 [.e (-1) bw an] rfl q1)
   have q1:w.b=[]:=List.eq_nil_of_length_eq_zero q0;lk;refine⟨by decide,?_⟩
   lk;refine⟨h3,?_⟩;lk;refine iC (N:=1) (a:=1) rfl (by rw[q1];rfl) pA (by decide) ⟨⟨rfl,Gw 1,q0⟩,?_⟩
   lk;rw[jp,if_pos q0,←List.append_nil (List.replicate 1 0++w.b)]at hK;exact hK .next _ _ _ rfl
  ·have q0:w.b.length≠0:=by have q1:=GN q;exact fun a0=>(absurd (Int.le_antisymm (lin [] [_] bw an 1 [.f 2 ab ax] rfl a0) (lin [] [_] an bw 1 [.f (-2) ab ax] rfl a0)) q1)
   lk;refine⟨by exact(GK (lin [] [_] an bw 1 [.j 2 bj ab] rfl (GL q0)) (lin [] [_] bw aX 1 [.j 2 ab (.n 2097152)] rfl h)),?_⟩
   lk;refine⟨h3,?_⟩;lk;refine iC (GQ) (gN _ _ _ (by exact lin [] [_] an cj 1 [.j 1 bj ab] rfl (GL q0)) (by exact lin [] [_,_] cj ak 1 [.j 1 bj ab,.e (-1) ak bw] rfl (GL q0) (Gl (lin [] [_] an bw 1 [.j 2 bj ab] rfl (GL q0))))) pA (by exact cG [] [_,_] ab aq 1 [.j 2 ae (.n 2097152),.e 1 af (.r ak 2)] rfl h (Gl (lin [] [_] an bw 1 [.j 2 bj ab] rfl (GL q0)))) ⟨⟨rfl,by exact(cG [] [_,_,_] ab ae 1 [.j 1 bj aj,.e 1 af (.s (.r av 2) av),.e (-1) ak (.r av 2)] rfl (GL q0) (Gl (lin [] [_] an cj 1 [.j 1 bj ab] rfl (GL q0))) (Gl (lin [] [_] an bw 1 [.j 2 bj ab] rfl (GL q0)))),by exact jl [] [_,_,_,_] ab ae [.e (-1) av bw,.e 1 az cj,.f (-1) bV aj] rfl (Gl (lin [] [_] an bw 1 [.j 2 bj ab] rfl (GL q0))) (Gl (lin [] [_] an cj 1 [.j 1 bj ab] rfl (GL q0))) (Go (cG [] [_,_,_] ab ae 1 [.j 1 bj aj,.e (-1) ak (.r av 2),.e 1 af (.s (.r av 2) av)] rfl (GL q0) (Gl (lin [] [_] an bw 1 [.j 2 bj ab] rfl (GL q0))) (Gl (lin [] [_] an cj 1 [.j 1 bj ab] rfl (GL q0)))))⟩,?_⟩
   lk;rw[←Br q0]at hK;exact hK .next _ _ _ rfl
end
end
section
theorem AZ{x m:Int}(h:0<m):m-1-(x-1) % m=-x % m:=by
 have e : -x=m-1-(x-1) % m+m*(-((x-1) / m)-1):=by
  have q:=Int.mul_ediv_add_emod (x-1) m;rw[Int.mul_sub,Int.mul_neg];exact gL [_,_,_,_] [] (.g aa) (.a (.s (.s am ao) aD) (.s (.g aU) (.r am 1))) [.e 1 (.a aU aD) bO] rfl q
 rw[e,Int.add_mul_emod_self_left];have h0:=Int.emod_nonneg (x-1) (Int.ne_of_gt h);have h1:=Int.emod_lt_of_pos (x-1) h;exact(Int.emod_eq_of_lt (by exact lin [_,_] [] an (.s bO am) 1 [.i 1 bA aa] rfl h1) (by exact lin [_,_] [] (.a (.s bO am) ao) aa 1 [.i 1 an am] rfl h0)).symm
theorem mr(k:Nat){x:Int}(h:0<x):Builtin.bitAnd (-x) (((2 ^ k:Nat):Int)-1)=(-x) % ((2 ^ k:Nat):Int):=by
 have hp:0<2 ^ k:=Nat.two_pow_pos k;have a5:(1:Int)≤((2 ^ k:Nat):Int):=Int.ofNat_le.mpr hp;rw[bitAnd_np (by exact Int.not_le.mpr (lin [_] [] (.a (.g aa) ao) an 1 [.i 1 bt aa] rfl h)) (by exact lin [] [_] an bW 1 [.j 1 bj ab] rfl hp),show Builtin.bitNot (-x)=x-1 by rw[qX];exact(gL [_] [] (.s (.g (.g aa)) ao) bO [] rfl)]
 have e:((((2 ^ k:Nat):Int)-1).toNat &&& (x-1).toNat)=(x-1).toNat % 2 ^ k:=by
  rw[show(((2 ^ k:Nat):Int)-1).toNat=2 ^ k-1 by exact(jl [] [_,_,_] ab ae [.e 1 af (.s av ao),.f (-1) be aj] rfl (Gl (lin [] [_] an bW 1 [.j 1 bj ab] rfl hp)) (Go (cG [] [_] ai ab 1 [.j 1 bj ab] rfl hp))),Nat.and_comm,Nat.and_two_pow_sub_one_eq_mod]
 rw[e,Int.natCast_emod,Gl (by exact lin [_] [] an bO 1 [.i 1 bt aa] rfl h)]
 exact AZ (by exact lin [] [_] bt af 1 [.j 1 bj ab] rfl hp)
theorem y7(x s:Int)(hx:0≤x)(hs:s=1∨s=2∨s=4∨s=8):Builtin.bitAnd (-x-1+1) (s-1)=(-x) % s:=by
 have e : -x-1+1=-x:=by exact gL [_] [] (.a (.s (.g aa) ao) ao) (.g aa) [] rfl
 rw[e];rcases Int.lt_or_eq_of_le hx with h|h
 ·rcases hs with rfl|rfl|rfl|rfl
  ·exact mr 0 h
  ·exact mr 1 h
  ·exact mr 2 h
  ·exact mr 3 h
 ·clear hx e;subst h;rcases hs with rfl|rfl|rfl|rfl<;>rfl
noncomputable def AX(b:List UInt8)(head n:Int):List UInt8:=b.take (head-n).toNat++List.replicate n.toNat 0++b.drop head.toNat
structure FU(i:Ar)(w:Bw):Prop where
 n0:0≤i.x
 n1:i.x≤w.h
 h1:w.h≤w.b.length
 b1:w.b.length≤4194304
 n2:i.x≤16
noncomputable def EE:Ctr:=Cf Bw.o (fun i=>[.int i.x]) FU (fun i w ver=>bo cz w.a (AX w.b w.h i.x) (w.h-i.x) ver) fun _ _=>.none
theorem ta(n:Nat):(List.replicate n [(0:UInt8)]).flatten=List.replicate n 0:=by
 induction n with
 |zero=>rfl
 |succ n ih=>rw[List.replicate_succ,List.flatten_cons,ih];rfl
theorem wy(n:Nat):(List.replicate n [(0:UInt8)]).flatten.length=n:=by rw[ta,GQ]
theorem FM{Φ:Addr→Option Ctr}:BD Φ EE (cQ 2) 1 ve:=
 zV (fun i=>[.ref 0, .p (.int i.x)]) (fun _=>rfl) fun i w K h hK=>by
  have h1:=h.n0;have h2:=h.n1;have h3:=h.h1;have h4:=h.b1;have h5:=h.n2;lk;refine c9 (fun q=>?_) (fun q=>?_)
  ·have e:i.x=0:=by have q1:=GI q;exact Int.le_antisymm (q1) (h1)
   lk;rw[e,Int.sub_zero,show AX w.b w.h 0=w.b by unfold AX;rw[Int.sub_zero];refine(?_:List.take _ _++[]++_=_);rw[List.append_nil,List.take_append_drop]]at hK
   exact hK (.ret (.p .none)) _ w.v _ rfl
  ·have q1:=GN q;lk;refine⟨⟨List.cons_ne_nil _ _,by decide,h1,by exact lin [_] [] aa aH 1 [.i 1 aa (.n 16)] rfl h5⟩,?_⟩
   lk;refine iC rfl (gN _ _ _ (by exact lin [_,_] [] an bn 1 [.i 1 am aa] rfl h2) (by exact lin [_,_] [_] bn af 1 [.i 1 aa af,.i 1 bt am] rfl h3 (Int.not_le.mp q1))) (gN _ _ _ (by exact lin [_,_] [] an aa 1 [.i 1 am aa,.i 1 bt am] rfl h2 (Int.not_le.mp q1)) h3) (by exact cG [] [_] ab aq 1 [.j 1 ab (.n 4194304)] rfl h4) ⟨⟨rfl,by exact(cG [_,_] [_,_] ab ae 1 [.i 1 bt aa,.e 1 af bX,.e (-1) ak am] rfl (Int.not_le.mp q1) (Gl (lin [_,_] [] an bn 1 [.i 1 am aa] rfl h2)) (Gl (lin [_,_] [] an aa 1 [.i 1 am aa,.i 1 bt am] rfl h2 (Int.not_le.mp q1)))),(wy _).trans (by exact jl [_,_] [_,_,_,_] ab ae [.e 1 af aa,.e (-1) av am,.e 1 az bX,.f (-1) bV aj] rfl (Gl (lin [_] [] an aa 1 [.i 1 bt aa] rfl (Int.not_le.mp q1))) (Gl (lin [_,_] [] an aa 1 [.i 1 am aa,.i 1 bt am] rfl h2 (Int.not_le.mp q1))) (Gl (lin [_,_] [] an bn 1 [.i 1 am aa] rfl h2)) (Go (cG [_,_] [_,_] ab ae 1 [.i 1 bt aa,.e (-1) ak am,.e 1 af bX] rfl (Int.not_le.mp q1) (Gl (lin [_,_] [] an aa 1 [.i 1 am aa,.i 1 bt am] rfl h2 (Int.not_le.mp q1))) (Gl (lin [_,_] [] an bn 1 [.i 1 am aa] rfl h2)))))⟩,?_⟩
   lk;rw[AX,←ta]at hK;exact hK .next _ _ _ rfl
noncomputable def kJ(n add s:Int):Int:=(-(n+add)) % s
def jD(s:Int):Prop:=s=1∨s=2∨s=4∨s=8
noncomputable def cI(a:Ab)(s add:Int):Ab:={a with
 T:=List.replicate (kJ a.T.length add s).toNat 0++a.T
 room:=max (a.room-kJ a.T.length add s) (s+add)
 mal:=if a.mal<s then s else a.mal}
structure xf(i:Ar)(a:Ab):Prop where
 sz:jD i.x
 n0:0≤i.y
 n1:a.T.length+i.y≤1048576
noncomputable def pB:Ctr:=nB cz (fun i=>[.int i.x, .int i.y]) xf (fun i a=>cI a i.x i.y) fun _ _=>.none
theorem c5{n add s:Int}(hs:jD s):0≤kJ n add s∧kJ n add s<s:=by
 have h0:0<s:=by clear add n;rcases hs with rfl|rfl|rfl|rfl<;>decide
 exact⟨Int.emod_nonneg _ (Int.ne_of_gt h0),Int.emod_lt_of_pos _ h0⟩
theorem tY(b:List UInt8)(h:Int)(h0:0≤h):(jp b).drop (h+((jp b).length-b.length)).toNat=b.drop h.toNat∧(jp b).length=b.length+(if b.length=0 then 1 else b.length):=by
 have e:(jp b).length=b.length+(if b.length=0 then 1 else b.length):=by simp[jp];exact jl [] [_,_] bg (.a ae ab) [] rfl
 refine⟨?_,e⟩;rw[e];have e2:(h+(((b.length+(if b.length=0 then 1 else b.length):Nat):Int)-b.length)).toNat=(if b.length=0 then 1 else b.length)+h.toNat:=by exact jl [_] [_,_,_,_] ab bz [.e 1 af (.a aa (.s (.c (.a au ae)) az)),.e (-1) av aa] rfl (Gl (lin [_] [_,_] an (.a aa (.s (.c bg) af)) 1 [.i 1 an aa] rfl h0)) (Gl (h0))
 rw[e2,jp,←List.drop_drop]
 congr 1
 exact List.drop_left' (by simp)
theorem vA(b:List UInt8)(h n:Int)(hn:0≤n)(h1:n≤h)(h2:h≤b.length):(AX b h n).drop (h-n).toNat=List.replicate n.toNat 0++b.drop h.toNat∧(AX b h n).length=b.length:=by
 unfold AX;refine⟨?_,?_⟩
 ·rw[GE,List.drop_left' (by simp;exact Nat.le_antisymm ((Nat.min_le_left _ _)) ((GF (Eq.symm (G8 (cG [_,_] [_,_] ab ae 1 [.i 1 an aa,.i 1 am ak,.e 1 af bX] rfl hn h2 (Gl (lin [_,_] [] an bn 1 [.i 1 am aa] rfl h1))))))))]
 ·simp;exact Nat.le_antisymm (cG [_,_] [_,_,_,_,_,_] (.a ab bz) au 1 [.j 1 ab aB,.e 1 ak aa,.e 1 aR bX,.e (-1) (.w 5) am,.f 1 (.a aj aM) au] rfl (Nat.min_le_left _ _) (Gl (hn)) (Gl (lin [_,_] [] an bn 1 [.i 1 am aa] rfl h1)) (Gl (G9 hn h1)) (Go (cG [_] [_,_] ab ae 1 [.i 1 aa ak,.e 1 af aa] rfl h2 (Gl (G9 hn h1))))) (cG [_,_] [_,_,_,_,_,_] ab (.a ae bG) 1 [.e (-1) av aa,.e (-1) aR bX,.e 1 (.w 5) am,.f (-1) ae aB,.f (-1) (.a au aM) ab] rfl (Gl (hn)) (Gl (lin [_,_] [] an bn 1 [.i 1 am aa] rfl h1)) (Gl (G9 hn h1)) (G8 (cG [_,_] [_,_] ab ae 1 [.i 1 an aa,.i 1 am ak,.e 1 af bX] rfl hn h2 (Gl (lin [_,_] [] an bn 1 [.i 1 am aa] rfl h1)))) (Go (cG [_] [_,_] ab ae 1 [.i 1 aa ak,.e 1 af aa] rfl h2 (Gl (G9 hn h1)))))
noncomputable def raw(a:Ab)(b:List UInt8)(head mal:Int)(ver:Nat):O:=bo cz {a with mal:=mal} b head ver
theorem xx{a b:Int}(h:a<b)(h0:0<b):a.toNat<b.toNat:=(Int.toNat_lt_toNat h0).mpr h
theorem wu{b:List UInt8}:b.length+1≤(jp b).length∧(jp b).length≤2*b.length+1:=by
 have e:(jp b).length=(if b.length=0 then 1 else b.length)+b.length:=by rw[jp,Gr,GQ]
 rw[e];clear e;split
 ·exact GK (cG [] [_] bc (.a ai ab) 1 [] rfl) (cG [] [_] (.a ai ab) (.a bP ai) 1 [.f (-1) ab ax] rfl (by assumption))
 ·exact GK (cG [] [_] bc (.a ab ab) 1 [.j 1 bj ab] rfl (GL (by assumption))) (cG [] [_] (.a ab ab) (.a bP ai) 1 [] rfl)
theorem D7{Φ:Addr→Option Ctr}(hG:AT Φ dN y2)(hP:AT Φ mZ EE):BD Φ pB (cQ 3) 5 sM:=
 fy (fun i=>[.ref 0, .p (.int i.x), .p (.int i.y)]) (fun _=>rfl) fun i a bytes head ver K hr h hK=>by
  have bh:=hr.len;have bb:=hr.cap;have c4:=hr.le;have h0:=hr.h0;have hrm:=hr.rm;have h1:=h.n0;have h2:=h.n1;have a0:=c5 (n:=a.T.length) (add:=i.y) h.sz;have a3:1≤i.x∧i.x≤8:=by clear ver;rcases h.sz with q|q|q|q<;>(first|exact(GK (lin [_,_] [] ao aa 1 [.i 1 an am,.i 1 bA aa] rfl (Gz a0) (Gu a0)) (lin [_] [] aa aK 1 [.e 1 aa ao] rfl q))|exact(GK (lin [_] [] ao aa 1 [.e (-1) aa aE] rfl q) (lin [_] [] aa aK 1 [.e 1 aa aE] rfl q))|exact(GK (lin [_] [] ao aa 1 [.e (-1) aa ap] rfl q) (lin [_] [] aa aK 1 [.e 1 aa ap] rfl q))|exact GK (lin [_] [] ao aa 1 [.e (-1) aa aK] rfl q) ((G6 q)))
  refine CQ (fun j=>⟨[some (.ref 0),some (.p (.int i.x)),some (.p (.int i.y)),none,none,none,none,none],[raw a bytes head (if a.mal<i.x then i.x else a.mal) j.v]⟩) (fun _=>True) (fun K hK _=>?_) fun j _=>?_
  ·lk;refine c9 (fun q=>?_) (fun q=>?_)
   ·rw[if_pos (GI q)]at hK;lk;exact hK {v:=_} trivial
   ·rw[if_neg (GN q)]at hK;lk;exact hK {v:=_} trivial
  clear ver;generalize hmal:(if a.mal<i.x then i.x else a.mal)=mal
  generalize hp:kJ a.T.length i.y i.x=pd at a0;lk;refine⟨Gp bb (by decide),?_⟩
  lk;have eb:Builtin.bitAnd (-((bytes.length:Int)-head+i.y)-1+1) (i.x-1)=pd:=by
   rw[y7 _ _ (by exact lin [_,_] [_] an (.a bl am) 1 [.i 1 aa af,.i 1 an am] rfl c4 h1) h.sz,←hp,bh];rfl
  conv=>whnf
  rw[eb];refine xq (fun j=>⟨[some (.ref 0),some (.p (.int i.x)),some (.p (.int i.y)),some (.p (.int j.h)),some (.p (.int j.b.length)),some (.p (.int pd)),some (.p (.int (pd+i.x+i.y))),j.o.map .p],[raw a j.b head mal j.v]⟩)
   (fun j=>(pd+i.x+i.y-j.h).toNat) (fun j=>j.b.drop j.h.toNat=a.T∧0≤j.h∧j.h≤j.b.length∧head≤j.h∧j.b.length≤4194304) (fun j K2 hj hn _ _=>?_) {b:=bytes,h:=head,v:=j.v} ⟨hr.eq,h0,c4,GP _,bb⟩
  have el:(j.b.length:Int)-j.h=a.T.length:=by have q:=congrArg List.length hj.1;rw[GX]at q;exact gL [_] [_,_,_,_] bl ak [.f 1 aj ae,.e 1 az aa,.f (-1) bG ab] rfl q (Gl ((Gz (Gu hj)))) (Go (cG [_] [_,_] ab ae 1 [.i 1 aa ak,.e 1 af aa] rfl (Gz (Gu (Gu hj))) (Gl ((Gz (Gu hj))))))
  lk;refine c9 (fun q=>?_) (fun q=>?_)
  ·have q:=GI q;lk;refine zT hG 0 {} ⟨{a with mal:=mal},j.b,head,j.v⟩ rfl (show j.b.length≤2097152 by exact cG [_,_,_,_] [_,_] ab (.n 2097152) 1 [.i 1 bE aH,.i 2 am aK,.i 1 bQ am,.e 1 (.s af aU) ak,.i 1 (.a aU ao) (.a (.a aD am) aa)] rfl h2 (Gu a3) (Gu a0) el q) fun a5=>?_
   have g1:=(tY j.b j.h hj.2.1).1;have g2:=wu (b:=j.b);lk;refine⟨show(jp j.b).length≤16777216 by exact(cG [_,_,_,_] [_,_,_] ab aq 1 [.i 2 bE aH,.i 4 am aK,.i 2 bQ am,.e 2 (.s av aU) ak,.i 2 (.a aU ao) (.a (.a aD am) aa),.j 1 ab (.a bJ ai)] rfl h2 (Gu a3) (Gu a0) el q (Gu g2)),?_⟩
   lk;exact(hn _ {b:=jp j.b,h:=j.h+((jp j.b).length-j.b.length),v:=a5,o:=some (.int j.b.length)} rfl (xx (by exact lin [_,_,_,_] [_,_] (.a (.s (.a bp aD) (.a aU (.s af ak))) ao) (.s (.a bp aD) aU) 1 [.j 1 be ab] rfl (Gz g2)) (by exact lin [_,_,_,_] [] bt (.s (.a bp aD) aU) 1 [.i 1 (.a aU ao) (.a bp aD)] rfl q)) ⟨g1.trans hj.1,by exact GK (lin [_] [_,_] an (.a aa (.s af ak)) 1 [.i 1 an aa,.j 1 be ab] rfl (Gz (Gu hj)) (Gz g2)) (GK (lin [_] [_,_] (.a aa (.s af ak)) af 1 [.i 1 aa ak] rfl (Gz (Gu (Gu hj)))) (GK (lin [_,_] [_,_] aa (.a am (.s af ak)) 1 [.i 1 aa am,.j 1 be ab] rfl (Gz (Gu (Gu (Gu hj)))) (Gz g2)) (cG [_,_,_,_] [_,_,_] ab (.n 4194304) 1 [.i 2 bE aH,.i 4 am aK,.i 2 bQ am,.e 2 (.s av aU) ak,.i 2 (.a aU ao) (.a (.a aD am) aa),.j 1 ab (.a bJ ai)] rfl h2 (Gu a3) (Gu a0) el q (Gu g2))))⟩).1
  ·have q:=GN q;lk;refine zT hP 0 {x:=pd} ⟨{a with mal:=mal},j.b,j.h,j.v+1⟩ rfl ⟨a0.1,show pd≤j.h by exact(lin [_,_,_,_] [] aa am 1 [.i 1 an aD,.i 1 ao aU,.i 1 (.a (.a aa aU) aD) am] rfl h1 (Gz a3) (Int.not_lt.mp q)),hj.2.2.1,hj.2.2.2.2,show pd≤16 by exact lin [_,_] [] aa (.n 16) 1 [.i 1 am aK,.i 1 bi am] rfl (Gu a3) (Gu a0)⟩ fun a5=>?_
   lk;refine e0b (vA j.b j.h pd a0.1 (by exact lin [_,_,_,_] [] aa am 1 [.i 1 an aD,.i 1 ao aU,.i 1 (.a (.a aa aU) aD) am] rfl h1 (Gz a3) (Int.not_lt.mp q)) hj.2.2.1) fun g1 g2=>?_
   clear hP hG;subst hmal;subst hp;refine hK .next _ _ _ _ _ ⟨show 0≤j.h-kJ a.T.length i.y i.x by exact(lin [_,_,_,_] [] an bn 1 [.i 1 an aD,.i 1 ao aU,.i 1 (.a (.a am aU) aD) aa] rfl h1 (Gz a3) (Int.not_lt.mp q)),Int.max_le.mpr ⟨by exact(lin [_,_,_,_] [] bn (.s aD am) 1 [.i 1 aa aU,.i 1 aU aD] rfl hrm (Gz (Gu (Gu (Gu hj))))),by exact lin [_,_,_,_] [] bp (.s aD aU) 1 [.i 1 (.a (.a aU aa) am) aD] rfl (Int.not_lt.mp q)⟩,?_,by rw[g2];exact(lin [_,_] [_] bn af 1 [.i 1 aa af,.i 1 an am] rfl (Gz (Gu (Gu hj))) (Gz a0)),by rw[g2];exact hj.2.2.2.2⟩ rfl
   rw[g1,hj.1];rfl
end
section
noncomputable def du(a:Ab)(F:Fm)(x:Int):Ab:={a with T:=le F.w x++a.T,room:=a.room-F.w}
theorem sQ{b r:List UInt8}{off:Nat}(h:off+r.length≤b.length):(put b off r).drop off=r++b.drop (off+r.length)∧(put b off r).length=b.length:=by
 unfold put;have h1:(b.take off).length=off:=by rw[GW];exact G8 (by exact cG [] [_,_,_] ab ae 1 [.j 1 bH ae] rfl h)
 refine⟨?_,?_⟩
 ·rw[GE,List.drop_left' h1]
 ·rw[Gr,Gr,h1,GX];exact jl [] [_,_,_,_] (.a bg aj) au [.f 1 (.a aj bg) au] rfl (Go (h))
theorem vv{a:Ab}{bytes:List UInt8}{head:Int}(hr:Rb a.T a.room bytes head)(F:Fm)(x:Int)(h:(F.w:Int)≤a.room) :
  Rb (du a F x).T (du a F x).room (put bytes (head-F.w).toNat (le F.w x)) (head-F.w):=by
 have h0:=hr.rm;have h1:=hr.le;have h2:=hr.h0;have hl:=cO F.w x;have e3:(head-F.w).toNat+(le F.w x).length=head.toNat:=by exact jl [_] [_,_,_,_] bg aj [.f 1 ae au,.e 1 af (.s aa az),.e (-1) av aa] rfl hl (Gl (lin [_,_] [_] an bq 1 [.i 1 af am,.i 1 am aa] rfl h h0)) (Gl (h2))
 refine e0b (sQ (b:=bytes) (r:=le F.w x) (off:=(head-F.w).toNat) (by exact cG [_] [_,_,_,_] bg aj 1 [.i 1 aa av,.f 1 ae au,.e 1 af (.s aa az)] rfl h1 hl (Gl (lin [_,_] [_] an bq 1 [.i 1 af am,.i 1 am aa] rfl h h0)))) fun e1 e2=>?_
 refine⟨by exact(lin [_,_] [_] an bq 1 [.i 1 af am,.i 1 am aa] rfl h h0),by refine(?_:a.room-F.w≤_);exact(lin [_,_] [_] bq (.s am af) 1 [.i 1 aa am] rfl h0),?_,by rw[e2];exact(lin [_] [_,_] bq ak 1 [.i 1 aa ak] rfl h1),by rw[e2];exact hr.cap⟩
 rw[e1,e3,hr.eq];rfl
structure ky(F:Fm)(x:Int)(a:Ab):Prop where
 lo:F.lo≤x
 hi:x≤F.hi
 rm:(F.w:Int)≤a.room
theorem ky.wr{g:Fg}{x:Int}{a:Ab}(h:ky g.F x a){bytes:List UInt8}{head:Int}(hr:Rb a.T a.room bytes head)(v:Nat):FR {g:=g,x:=head-g.F.w,y:=x} ⟨a,bytes,head-g.F.w,v⟩:=by
 have h0:=hr.rm;have h1:=hr.le;have h2:=h.rm;exact⟨show 0≤head-g.F.w by exact(lin [_,_] [_] an bq 1 [.i 1 am aa,.i 1 af am] rfl h0 h2),show head-g.F.w+g.F.w≤bytes.length by exact(lin [_] [_,_] (.a bq af) ak 1 [.i 1 aa ak] rfl h1),Gp hr.cap (by decide),h.lo,h.hi⟩
noncomputable def oA:Ctr:=nB cz (fun i=>[.int i.x, .st i.g.c]) (fun i a=>ky i.g.F i.x a) (fun i a=>du a i.g.F i.x) fun _ _=>.none
noncomputable def pC:Ctr:=nB cz (fun i=>[.int i.x]) (fun i a=>ky .i i.x a) (fun i a=>du a .i i.x) fun _ _=>.none
noncomputable def nk:Ctr:=nB cz (fun i=>[.int i.x]) (fun i a=>ky .I i.x a) (fun i a=>du a .I i.x) fun _ _=>.none
section
variable {Φ:Addr→Option Ctr}
theorem BZ(hE:AT Φ cJ sq)(hW:AT Φ jq jw):BD Φ oA (cQ 3) 1 pY:=
 fy (fun i=>[.ref 0, .p (.int i.x), .p (.st i.g.c)]) (fun _=>rfl) fun i a bytes head ver K hr h hK=>by
  lk;refine eH hE i ⟨h.lo,h.hi⟩ ?_;lk;refine ka (Dv i.g) ?_;lk;refine ka (FC i.g) ?_;lk;refine qQ hW 0 _ ⟨a,bytes,head-i.g.F.w,ver+1⟩ rfl (h.wr hr (ver+1)) ?_;lk;exact hK .next _ _ _ _ _ (vv hr _ i.x h.rm) rfl
theorem zc(hE:AT Φ cJ sq)(hW:AT Φ jq jw):BD Φ pC (cQ 2) 1 ic:=
 fy (fun i=>[.ref 0, .p (.int i.x)]) (fun _=>rfl) fun i a bytes head ver K hr h hK=>by
  lk;refine eH hE {g:=.s,x:=i.x} ⟨h.lo,h.hi⟩ ?_;lk;refine qQ hW 0 {g:=.s,x:=head-4,y:=i.x} ⟨a,bytes,head-4,ver+1⟩ rfl (ky.wr (g:=.s) h hr (ver+1)) ?_;lk;exact hK .next _ _ _ _ _ (vv hr .i i.x h.rm) rfl
theorem zb(hE:AT Φ cJ sq)(hW:AT Φ jq jw):BD Φ nk (cQ 2) 1 ib:=
 fy (fun i=>[.ref 0, .p (.int i.x)]) (fun _=>rfl) fun i a bytes head ver K hr h hK=>by
  lk;refine eH hE {g:=.u,x:=i.x} ⟨h.lo,h.hi⟩ ?_;lk;refine qQ hW 0 {g:=.u,x:=head-4,y:=i.x} ⟨a,bytes,head-4,ver+1⟩ rfl (ky.wr (g:=.u) h hr (ver+1)) ?_;lk;exact hK .next _ _ _ _ _ (vv hr .I i.x h.rm) rfl
noncomputable def cD(a:Ab)(F:Fm)(x:Int):Ab:=du (cI a F.w 0) F x
structure lb(F:Fm)(x:Int)(a:Ab):Prop where
 lo:F.lo≤x
 hi:x≤F.hi
 len:a.T.length≤1048576
noncomputable def jP:Ctr:=nB cz (fun i=>[.st i.g.c, .int i.x]) (fun i a=>lb i.g.F i.x a) (fun i a=>cD a i.g.F i.x) fun _ _=>.none
theorem gw(a:Ab)(s add:Int):s+add≤(cI a s add).room:=Int.le_max_right _ _
theorem FA(g:Fg):jD g.F.w:=by cases g<;>unfold jD<;>simp[Fg.F,Fm.w]
theorem sz4:jD 4:=.inr (.inr (.inl rfl))
theorem w5(hP:AT Φ fK pB)(hL:AT Φ gD oA):BD Φ jP (cQ 3) 0 mK:=
 fy (fun i=>[.ref 0, .p (.st i.g.c), .p (.int i.x)]) (fun _=>rfl) fun i a bytes head ver K hr h hK=>by
  lk;refine ka (Dv i.g) ?_;lk;refine cX hP 0 {x:=i.g.F.w} rfl hr ⟨FA i.g,GP 0,by have q:=h.len;refine(?_:(a.T.length:Int)+0≤_);exact lin [] [_] (.a af an) aH 1 [.j 1 ab aF] rfl q⟩ fun a4 ac ar aw=>?_
  lk;refine cX hL 0 i rfl aw ⟨h.lo,h.hi,G9 (G6 (Int.add_zero _).symm) (gw a i.g.F.w 0)⟩ fun b3 b5 cf c1=>?_;lk;exact hK .next _ _ _ _ _ c1 rfl
end
end
section
noncomputable def gY(a:Ab)(off:Int):Ab:=du (cI a 4 0) .i ((cI a 4 0).T.length-off+4)
noncomputable def fF(a:Ab)(off:Int):Ab:=du (cI a 4 0) .I ((cI a 4 0).T.length-off+4)
structure nx(off:Int)(a:Ab):Prop where
 n0:0≤off
 n1:off≤(cI a 4 0).T.length
 len:a.T.length≤1048576
noncomputable def y0:Ctr:=nB cz (fun i=>[.int i.x]) (fun i a=>nx i.x a) (fun i a=>gY a i.x) fun _ _=>.none
noncomputable def sk:Ctr:=nB cz (fun i=>[.int i.x]) (fun i a=>nx i.x a) (fun i a=>fF a i.x) fun _ _=>.none
theorem cP(a:Ab){s add:Int}(hs:jD s):(a.T.length:Int)≤(cI a s add).T.length∧((cI a s add).T.length:Int)=a.T.length+kJ a.T.length add s:=by
 have h:=(c5 (n:=a.T.length) (add:=add) hs).1;have e:(cI a s add).T.length=(kJ a.T.length add s).toNat+a.T.length:=by
  refine(?_:(List.replicate _ (0:UInt8)++a.T).length=_);rw[Gr,GQ]
 exact⟨by exact(lin [] [_,_,_] af ak 1 [.f (-1) ae (.a aj ab)] rfl e),by exact gL [_] [_,_,_] af bE [.f 1 ab bU,.e 1 av aa] rfl e (Gl (h))⟩
theorem nx.prep{off:Int}{a:Ab}(h:nx off a):xf {x:=4} a:=⟨sz4,GP 0,by have q:=h.len;refine(?_:(a.T.length:Int)+0≤_);exact lin [] [_] (.a af an) aH 1 [.j 1 ab aF] rfl q⟩
theorem nx.small{off:Int}{a:Ab}(h:nx off a):(0:Int)≤(cI a 4 0).T.length-off+4∧((cI a 4 0).T.length:Int)-off+4≤2147483647:=by
 have h0:=h.n0;have h1:=h.n1;have h2:=h.len;have h3:=(cP a (s:=4) (add:=0) sz4).2;have h4:=(c5 (n:=a.T.length) (add:=0) sz4).2;exact⟨by exact(lin [_] [_] an cq 1 [.i 1 aa af] rfl h1),by exact lin [_,_] [_,_] cq aQ 1 [.i 1 an aa,.j 1 ae aF,.e 1 af bK,.i 1 bA ap] rfl h0 h2 h3 h4⟩
section
variable {Φ:Addr→Option Ctr}
theorem D6(hP:AT Φ fK pB)(hO:AT Φ ec gX)(hL:AT Φ d9 pC) :
  BD Φ y0 (cQ 2) 2 eM:=
 fy (fun i=>[.ref 0, .p (.int i.x)]) (fun _=>rfl) fun i a bytes head ver K hr h hK=>by
  lk;refine cX hP 0 {x:=4} rfl hr h.prep fun a4 ac ar aw=>?_;lk;refine ei hO 0 {} ⟨cI a 4 0,a4,ac,ar⟩ rfl aw ?_;lk;refine uB (congrArg Bool.not (decide_eq_true h.n1)) ?_;lk;refine ei hO 0 {} ⟨cI a 4 0,a4,ac,ar⟩ rfl aw ?_;lk;refine cX hL 0 {x:=(cI a 4 0).T.length-i.x+4} rfl aw ⟨G9 (by decide) h.small.1,h.small.2,gw a 4 0⟩ fun b3 b5 cf c1=>?_
  lk;exact hK .next _ _ _ _ _ c1 rfl
theorem D5(hP:AT Φ fK pB)(hO:AT Φ ec gX)(hL:AT Φ dB nk) :
  BD Φ sk (cQ 2) 2 eL:=
 fy (fun i=>[.ref 0, .p (.int i.x)]) (fun _=>rfl) fun i a bytes head ver K hr h hK=>by
  lk;refine cX hP 0 {x:=4} rfl hr h.prep fun a4 ac ar aw=>?_;lk;refine ei hO 0 {} ⟨cI a 4 0,a4,ac,ar⟩ rfl aw ?_;lk;refine uB (congrArg Bool.not (decide_eq_true h.n1)) ?_;lk;refine ei hO 0 {} ⟨cI a 4 0,a4,ac,ar⟩ rfl aw ?_;lk;refine cX hL 0 {x:=(cI a 4 0).T.length-i.x+4} rfl aw ⟨h.small.1,G9 h.small.2 (by decide),gw a 4 0⟩ fun b3 b5 cf c1=>?_
  lk;exact hK .next _ _ _ _ _ c1 rfl
noncomputable def de(a:Ab)(es n al:Int):Ab:=cI (cI {a with nested:=true,vne:=some (.int n)} 4 (es*n)) al (es*n)
structure tC(es n al:Int)(a:Ab):Prop where
 ne:a.nested=false
 sz:jD al
 es0:0≤es
 es1:es≤1000
 n0:0≤n
 n1:n≤1000
 m0:0≤es*n
 len:a.T.length+es*n≤1048000
noncomputable def ni:Ctr:=nB cz (fun i=>[.int i.x, .int i.y, .int i.z]) (fun i a=>tC i.x i.y i.z a) (fun i a=>de a i.x i.y i.z) fun i a=>.int (de a i.x i.y i.z).T.length
theorem y9(hN:AT Φ c8 jQ)(hP:AT Φ fK pB)(hO:AT Φ ec gX) :
  BD Φ ni (cQ 4) 0 iZ:=
 fy (fun i=>[.ref 0, .p (.int i.x), .p (.int i.y), .p (.int i.z)]) (fun _=>rfl) fun i a bytes head ver K hr h hK=>by
  have h8:=h.len;have hm:(-(2 ^ 64):Int)<i.y∧i.y<2 ^ 64:=⟨Int.lt_of_lt_of_le (by decide) h.n0,Int.lt_of_le_of_lt h.n1 (by decide)⟩
  lk;refine ei hN 0 {} ⟨a,bytes,head,ver⟩ rfl h.ne ?_;lk;refine⟨hm,?_⟩;lk;refine cX hP 0 {x:=4,y:=i.x*i.y} (a:={a with nested:=true,vne:=some (.int i.y)}) rfl hr ⟨sz4,h.m0,show(a.T.length:Int)+i.x*i.y≤1048576 by exact lin [_] [_] (.a af aa) aH 1 [.i 1 (.a af aa) (.n 1048000)] rfl h8⟩ fun a4 ac ar aw=>?_
  lk;refine⟨hm,?_⟩;lk;have c2:=(cP {a with nested:=true,vne:=some (.int i.y)} (s:=4) (add:=i.x*i.y) sz4).2;have a3:=(c5 (n:=a.T.length) (add:=i.x*i.y) sz4).2;refine cX hP 0 {x:=i.z,y:=i.x*i.y} rfl aw ⟨h.sz,h.m0,G9 (G6 (congrArg (·+i.x*i.y) c2)) (show(a.T.length:Int)+kJ a.T.length (i.x*i.y) 4+i.x*i.y≤1048576 by exact lin [_,_] [_] (.a (.a af aa) am) aH 1 [.i 1 (.a af am) (.n 1048000),.i 1 bi ap] rfl h8 a3)⟩ fun b3 b5 cf c1=>?_
  lk;refine ei hO 0 {} ⟨de a i.x i.y i.z,b3,b5,cf⟩ rfl c1 ?_;lk;exact hK (.ret (.p (.int _))) _ _ _ _ _ c1 rfl
end
end
section
theorem Ab.vne_eq{a:Ab}{p:P}(h:a.vne=some p):a={a with vne:=some p}:=by cases a;subst h;rfl
theorem Ab.vt_eq{a:Ab}{l:List Int}(h:a.vt=some l):a={a with vt:=some l}:=by cases a;subst h;rfl
noncomputable def fA(a:Ab)(n:Int):Ab:={du {a with nested:=false} .I n with vne:=some .none}
structure Aa(n:Int)(a:Ab):Prop where
 vne:a.vne=some (.int n)
 ne:a.nested=true
 n0:0≤n
 n1:n≤4294967295
 rm:4≤a.room
noncomputable def ui:Ctr:=nB cz (fun _=>[]) (fun i a=>Aa i.x a) (fun i a=>fA a i.x) fun i a=>.int (fA a i.x).T.length
section
variable {Φ:Addr→Option Ctr}
theorem Ee(hN:AT Φ dq uh)(hL:AT Φ dB nk)(hO:AT Φ ec gX) :
  BD Φ ui (um 1 .none) 0 kE:=
 fy (fun _=>[.ref 0, .p .none]) (fun _=>rfl) fun i a bytes head ver K hr h hK=>by
  rw[show bo cz a=bo cz {a with vne:=some (.int i.x)}from congrArg _ (Ab.vne_eq h.vne)]
  lk;refine ei hN 0 {} ⟨{a with vne:=some (.int i.x)},bytes,head,ver⟩ rfl h.ne ?_;lk;refine cX hL 0 {x:=i.x} (a:={a with nested:=false,vne:=some (.int i.x)}) rfl hr ⟨h.n0,h.n1,h.rm⟩ fun a4 ac ar aw=>?_;lk;refine ei hO 0 {} ⟨fA a i.x,a4,ac,ar+1⟩ rfl aw ?_;lk;exact hK (.ret (.p (.int _))) _ _ _ _ _ aw rfl
noncomputable def lV(a:Ab)(o:Int):Ab:={a with vt:=a.vt.map fun l=>l.set o.toNat (a.T.length:Int)}
structure oH(o:Int)(l:List Int)(a:Ab):Prop where
 vt:a.vt=some l
 ne:a.nested=true
 o0:0≤o
 o1:o<l.length
 ll:l.length≤65536
noncomputable def wQ:Ctr:=nB cz (fun i=>[.int i.x]) (fun i a=>∃l,oH i.x l a) (fun i a=>lV a i.x) fun _ _=>.none
theorem D4(hN:AT Φ dq uh)(hO:AT Φ ec gX) :
  BD Φ wQ (cQ 2) 0 sL:=
 fy (fun i=>[.ref 0, .p (.int i.x)]) (fun _=>rfl) fun i a bytes head ver K hr zp hK=>e1a zp fun l h=>by
  rw[show bo cz a=bo cz {a with vt:=some l}from congrArg _ (Ab.vt_eq h.vt)]
  rw[show lV a i.x={a with vt:=some (l.set i.x.toNat (a.T.length:Int))}by rw[lV,h.vt];rfl]at hK
  lk;refine ei hN 0 {} ⟨{a with vt:=some l},bytes,head,ver⟩ rfl h.ne ?_;lk;refine ei hO 0 {} ⟨{a with vt:=some l},bytes,head,ver⟩ rfl hr ?_;lk;refine⟨⟨h.o0,by rw[GA];exact h.o1,by rw[GA];exact Gp h.ll (by decide)⟩,?_⟩
  lk
  conv=>whnf
  rw[show(l.map P.int).set i.x.toNat (.int a.T.length)=(l.set i.x.toNat a.T.length).map P.int from List.map_set.symm]
  exact hK .next _ _ _ _ _ hr rfl
noncomputable def cR(a:Ab)(n:Int):Ab:={a with vt:=some (List.replicate n.toNat 0),oe:=.int a.T.length,nested:=true}
structure zk(n:Int)(a:Ab):Prop where
 ne:a.nested=false
 n0:0≤n
 n1:n≤1000
noncomputable def nj:Ctr:=nB cz (fun i=>[.int i.x]) (fun i a=>zk i.x a) (fun i a=>cR a i.x) fun _ _=>.none
theorem yC(n:Nat):(List.replicate n [P.int 0]).flatten=(List.replicate n (0:Int)).map .int:=by
 induction n with
 |zero=>rfl
 |succ n ih=>rw[List.replicate_succ,List.flatten_cons,ih];rfl
theorem za(hN:AT Φ c8 jQ)(hO:AT Φ ec gX) :
  BD Φ nj (cQ 2) 0 i4:=
 fy (fun i=>[.ref 0, .p (.int i.x)]) (fun _=>rfl) fun i a bytes head ver K hr h hK=>by
  lk;refine ei hN 0 {} ⟨a,bytes,head,ver⟩ rfl h.ne ?_;lk;refine⟨by decide,?_⟩
  lk;refine⟨⟨by decide,G9 (by decide) h.n0,G9 h.n1 (by decide)⟩,?_⟩
  lk
  conv=>whnf
  rw[yC];refine ei hO 0 {} ⟨{a with vt:=some (List.replicate i.x.toNat 0)},bytes,head,ver+1⟩ rfl hr ?_;lk;exact hK .next _ _ _ _ _ hr rfl
noncomputable def eA(a:Ab)(F:Fm)(o x d:Int):Ab:=if x≠d∨a.force=true then lV (cD a F x) o else a
structure lA(F:Fm)(o x d:Int)(l:List Int)(a:Ab):Prop where
 pr:lb F x a
 dlo:F.lo≤d
 dhi:d≤F.hi
 sl:oH o l a
theorem lA.sl2{F:Fm}{o x d:Int}{l:List Int}{a:Ab}(h:lA F o x d l a):oH o l (cD a F x):=⟨h.sl.vt,h.sl.ne,h.sl.o0,h.sl.o1,h.sl.ll⟩
noncomputable def qU:Ctr:=nB cz (fun i=>[.st i.g.c, .int i.x, .int i.y, .int i.z]) (fun i a=>∃l,lA i.g.F i.x i.y i.z l a) (fun i a=>eA a i.g.F i.x i.y i.z) fun _ _=>.none
theorem B0(hE:AT Φ cJ sq)(hP:AT Φ eY jP)(hS:AT Φ jO wQ) :
  BD Φ qU (cQ 5) 0 i5:=
 fy (fun i=>[.ref 0, .p (.st i.g.c), .p (.int i.x), .p (.int i.y), .p (.int i.z)]) (fun _=>rfl) fun i a bytes head ver K hr zp hK=>e1a zp fun l h=>by
  lk;refine eH hE {g:=i.g,x:=i.y} ⟨h.pr.lo,h.pr.hi⟩ ?_;lk;refine eH hE {g:=i.g,x:=i.z} ⟨h.dlo,h.dhi⟩ ?_;lk;refine c9 (fun q=>?_) (fun q=>?_)
  ·rw[show eA a i.g.F i.x i.y i.z=lV (cD a i.g.F i.y) i.x from if_pos (.inl (GI q))]at hK
   lk;refine cX hP 0 {g:=i.g,x:=i.y} rfl hr h.pr fun a4 ac ar aw=>?_;lk;refine cX hS 0 {x:=i.x} rfl aw ⟨l,h.sl2⟩ fun b3 b5 cf c1=>?_;lk;exact hK .next _ _ _ _ _ c1 rfl
  ·lk;refine c9 (fun q2=>?_) (fun q2=>?_)
   ·rw[show eA a i.g.F i.x i.y i.z=lV (cD a i.g.F i.y) i.x from if_pos (.inr q2)]at hK
    lk;refine cX hP 0 {g:=i.g,x:=i.y} rfl hr h.pr fun a4 ac ar aw=>?_;lk;refine cX hS 0 {x:=i.x} rfl aw ⟨l,h.sl2⟩ fun b3 b5 cf c1=>?_;lk;exact hK .next _ _ _ _ _ c1 rfl
   ·rw[show eA a i.g.F i.x i.y i.z=a from if_neg fun h'=>h'.elim (GN q) (fun z=>absurd (q2.symm.trans z) Bool.false_ne_true)]at hK
    lk;exact hK .next _ _ _ _ _ hr rfl
end
end
section
noncomputable def lQ(g:Fg):Ctr:=nB cz (fun i=>[.int i.x, .int i.y, .int i.z]) (fun i a=>∃l,lA g.F i.x i.y i.z l a) (fun i a=>eA a g.F i.x i.y i.z) fun _ _=>.none
noncomputable def dA(a:Ab)(o x d:Int):Ab:=if x≠d∨a.force=true then lV (fF a x) o else a
structure nv(o x:Int)(l:List Int)(a:Ab):Prop where
 rel:nx x a
 sl:oH o l a
theorem nv.sl2{o x:Int}{l:List Int}{a:Ab}(h:nv o x l a):oH o l (fF a x):=⟨h.sl.vt,h.sl.ne,h.sl.o0,h.sl.o1,h.sl.ll⟩
noncomputable def qT:Ctr:=nB cz (fun i=>[.int i.x, .int i.y, .int i.z]) (fun i a=>∃l,nv i.x i.y l a) (fun i a=>dA a i.x i.y i.z) fun _ _=>.none
noncomputable def lP(g:Fg):Ctr:=nB cz (fun i=>[.int i.x]) (fun i a=>lb g.F i.x a) (fun i a=>cD a g.F i.x) fun _ _=>.none
section
variable {Φ:Addr→Option Ctr}
theorem w8(hP:AT Φ d8 qU):BD Φ (lQ .h) w0 0 f7:=
 fy (fun i=>[.ref 0, .p (.tup [.int i.x, .int i.y, .int i.z])]) (fun _=>rfl) fun i a bytes head ver K hr h hK=>by
  lk;refine⟨GB rfl,?_⟩;lk;refine cX hP 0 {g:=.h,x:=i.x,y:=i.y,z:=i.z} rfl hr h fun a4 ac ar aw=>?_;lk;exact hK .next _ _ _ _ _ aw rfl
theorem w7(hP:AT Φ d8 qU):BD Φ (lQ .i) w0 0 f6:=
 fy (fun i=>[.ref 0, .p (.tup [.int i.x, .int i.y, .int i.z])]) (fun _=>rfl) fun i a bytes head ver K hr h hK=>by
  lk;refine⟨GB rfl,?_⟩;lk;refine cX hP 0 {g:=.i,x:=i.x,y:=i.y,z:=i.z} rfl hr h fun a4 ac ar aw=>?_;lk;exact hK .next _ _ _ _ _ aw rfl
theorem BW(hP:AT Φ cK sk)(hS:AT Φ jO wQ) :
  BD Φ qT (cQ 4) 0 dX:=
 fy (fun i=>[.ref 0, .p (.int i.x), .p (.int i.y), .p (.int i.z)]) (fun _=>rfl) fun i a bytes head ver K hr zp hK=>e1a zp fun l h=>by
  lk;refine c9 (fun q=>?_) (fun q=>?_)
  ·rw[show dA a i.x i.y i.z=lV (fF a i.y) i.x from if_pos (.inl (GI q))]at hK
   lk;refine cX hP 0 {x:=i.y} rfl hr h.rel fun a4 ac ar aw=>?_;lk;refine cX hS 0 {x:=i.x} rfl aw ⟨l,h.sl2⟩ fun b3 b5 cf c1=>?_;lk;exact hK .next _ _ _ _ _ c1 rfl
  ·lk;refine c9 (fun q2=>?_) (fun q2=>?_)
   ·rw[show dA a i.x i.y i.z=lV (fF a i.y) i.x from if_pos (.inr q2)]at hK
    lk;refine cX hP 0 {x:=i.y} rfl hr h.rel fun a4 ac ar aw=>?_;lk;refine cX hS 0 {x:=i.x} rfl aw ⟨l,h.sl2⟩ fun b3 b5 cf c1=>?_;lk;exact hK .next _ _ _ _ _ c1 rfl
   ·rw[show dA a i.x i.y i.z=a from if_neg fun h'=>h'.elim (GN q) (fun z=>absurd (q2.symm.trans z) Bool.false_ne_true)]at hK
    lk;exact hK .next _ _ _ _ _ hr rfl
theorem D8(hP:AT Φ eY jP):BD Φ (lP .i) (cQ 2) 0 iJ:=
 fy (fun i=>[.ref 0, .p (.int i.x)]) (fun _=>rfl) fun i a bytes head ver K hr h hK=>by
  lk;refine cX hP 0 {g:=.i,x:=i.x} rfl hr h fun a4 ac ar aw=>?_;lk;exact hK .next _ _ _ _ _ aw rfl
theorem b_PV(hP:AT Φ eY jP):BD Φ (lP .v) (cQ 2) 0 gv:=
 fy (fun i=>[.ref 0, .p (.int i.x)]) (fun _=>rfl) fun i a bytes head ver K hr h hK=>by
  lk;refine cX hP 0 {g:=.v,x:=i.x} rfl hr h fun a4 ac ar aw=>?_;lk;exact hK .next _ _ _ _ _ aw rfl
@[irreducible] noncomputable def iD:Ctr:=fun args kws objs Q=>∃w:Bw,objs=[w.o]∧args=[.ref 0]∧kws=[]∧w.R∧w.a.fin=true∧Q (.ref 1) [w.o, .bx (.ba w.a.T)]
end
section
variable {G:Pg}{fa:Addr}{env:List (Option V)}{σ:List O}{Q:V→St→Prop}
theorem yV(a3:G.Φ fa=some iD)(j:Nat)(w:Bw)(hj:σ[j]?=some w.o)(hr:w.R)(hf:w.a.fin=true)(h:Q (.ref σ.length) ⟨env,σ.set j w.o++[.bx (.ba w.a.T)]⟩):eT G fa [.ref j] [] ⟨env,σ⟩ Q:=by
 unfold eT;rw[a3];refine(?_:opt (qy σ [j]) _);unfold qy qy;rw[hj];refine(?_:iD _ _ _ _);unfold iD;refine⟨w,rfl,?_,rfl,hr,hf,?_⟩
 ·refine(?_:[V.ref ([j].idxOf j)]=_);rw[List.idxOf_cons_self]
 ·refine(?_:Q _ ⟨env,mD (σ.set j _) [] [_]⟩);unfold mD;exact h
end
section
variable {Φ:Addr→Option Ctr}
theorem zd:BD Φ iD (cQ 1) 0 n7:=fun args kws objs Q hq=>by
 unfold iD at hq;refine e1f hq fun w a3 b6 ck hr hf hQ=>?_;clear hq;subst a3 b6 ck;lk
 conv=>whnf
 rw[hf];lk;refine iC rfl (gN _ _ _ hr.h0 hr.le) pA (Gp hr.cap (by decide)) ?_
 lk;refine⟨2,⟨Nat.le_succ 1,Gw 2,rfl⟩,?_⟩;have e:cut w.b w.h.toNat w.b.length=w.a.T:=(List.take_of_length_le (by rw[GX];exact Gw _)).trans hr.eq
 rw[←e]at hQ;exact hQ
end
end
section
noncomputable def gG(ob:Int):Bool→List Int→List Int
 |_,[]=>[]
 |true,x::xs=>if x=0 then gG ob true xs else(ob-x)::gG ob false xs
 |false,x::xs=>(if x=0 then 0 else ob-x)::gG ob false xs
noncomputable def ef(a:Ab)(ks:List Int):Ab:=ks.foldl (fun a k=>cD a .H k) a
noncomputable def fG(T:List UInt8)(ob x:Int):List UInt8:=T.take (T.length-ob.toNat)++le 4 x++T.drop (T.length-ob.toNat+4)
noncomputable def nE(a1:Ab)(key:List Int)(sz:Int):Ab:=cD (cD (ef a1 key) .H sz) .H (((key.length:Int)+2)*2)
noncomputable def intP:P→Option Int|.int v=>some v|_=>none
noncomputable def Ae(a:Ab)(k:P):Option Int:=(iM a.vts k).bind intP
noncomputable def wvB(a1:Ab)(key:List Int)(ob sz:Int):Option Int→Ab
 |some v2=>{a1 with T:=fG a1.T ob (v2-ob),vt:=none}
 |none=>{nE a1 key sz with T:=fG (nE a1 key sz).T ob ((nE a1 key sz).T.length-ob),vts:=pH a1.vts (kT (key++[sz])) (.int (nE a1 key sz).T.length),vt:=none}
noncomputable def wvC(a1:Ab)(l:List Int)(ob sz:Int):Ab:=wvB a1 (gG ob true l.reverse) ob sz (Ae a1 (kT (gG ob true l.reverse++[sz])))
noncomputable def wvA(a:Ab)(l:List Int)(e0:Int):Ab:=wvC (gY a 0) l (gY a 0).T.length ((gY a 0).T.length-e0)
structure zg(a:Ab)(l:List Int)(e0:Int):Prop where
 hT:a.T.length≤900000
 hl:l.length≤1000
 he:∀e∈l,e=0∨(0<e∧e≤(gY a 0).T.length∧((gY a 0).T.length:Int)-e≤65535)
 ho:0≤((gY a 0).T.length:Int)-e0∧((gY a 0).T.length:Int)-e0≤65535
 hk:∀x∈a.vts,Dh x.1∧∃v,x.2=.int v∧0≤v∧v≤1048576
 hn:a.vts.length≤100000
structure Gg(e0:Int)(l:List Int)(a:Ab):Prop where
 vt:a.vt=some l
 oe:a.oe=.int e0
 pre:zg a l e0
noncomputable def cWV:Ctr:=nB cz (fun _=>[]) (fun i a=>∃l,Gg i.x l a) (fun i a=>wvA a (a.vt.getD []) i.x) fun _ a=>.int (gY a 0).T.length
theorem kG(a:Ab)(off:Int):((gY a off).T.length:Int)=(cI a 4 0).T.length+4:=by
 refine(?_:((le 4 _++(cI a 4 0).T).length:Int)=_);rw[Gr,cO];exact gL [] [_] (.c (.a aC ab)) bu [] rfl
theorem i7(a:Ab)(x:Int):(a.T.length:Int)+2≤(cD a .H x).T.length∧((cD a .H x).T.length:Int)≤a.T.length+3:=by
 have h:=(cP a (s:=2) (add:=0) (.inr (.inl rfl))).2;have h2:=c5 (n:=a.T.length) (add:=0) (s:=2) (.inr (.inl rfl));have e:((cD a .H x).T.length:Int)=(cI a 2 0).T.length+2:=by
  refine(?_:((le 2 _++(cI a 2 0).T).length:Int)=_);rw[Gr,cO];exact gL [] [_] (.c (.a aV ab)) bF [] rfl
 exact⟨by exact(lin [_] [_,_,_] bF ak 1 [.e (-1) av (.a af aa),.i 1 an aa,.e (-1) ak bL] rfl h (Gz h2) e),by exact lin [_] [_,_,_] af (.a ak (.n 3)) 1 [.e 1 av bE,.i 1 bi aE,.e 1 af bL] rfl h (Gu h2) e⟩
theorem mT{ob:Int}{b:Bool}:gG ob b []=[]:=by cases b<;>rfl
theorem mj{ob:Int}{ys:List Int}:gG ob true (0::ys)=gG ob true ys:=if_pos rfl
theorem pf{ob:Int}{ys:List Int}:gG ob false (0::ys)=0::gG ob false ys:=congrArg (·::_) (if_pos rfl)
theorem pe{ob y:Int}{b:Bool}{ys:List Int}(h:y≠0):gG ob b (y::ys)=(ob-y)::gG ob false ys:=by
 cases b
 ·exact congrArg (·::_) (if_neg h)
 ·exact if_neg h
theorem qv(ob:Int)(b:Bool)(xs:List Int):(gG ob b xs).length≤xs.length:=by
 induction xs generalizing b with
 |nil=>rw[mT];exact Gw 0
 |cons x xs ih=>
  by_cases h:x=0
  ·subst h
   cases b
   ·rw[pf];exact Nat.succ_le_succ (ih false)
   ·rw[mj];exact Nat.le_succ_of_le (ih true)
  ·rw[pe h];exact Nat.succ_le_succ (ih false)
theorem AR{b r:List UInt8}{h off:Nat}(h1:h≤off)(h2:off+r.length≤b.length) :
  (put b off r).drop h=(b.drop h).take (off-h)++r++(b.drop h).drop (off-h+r.length)∧(put b off r).length=b.length:=by
 unfold put;have e:(b.take off).length=off:=List.length_take_of_le (by exact cG [] [_,_,_] ab ae 1 [.j 1 bH ae] rfl h2)
 refine⟨?_,?_⟩
 ·rw[GE,List.drop_append_of_le_length (by exact Gp h1 (GF (Eq.symm e))),List.drop_take,List.drop_drop,GE,show h+(off-h+r.length)=off+r.length by exact(jl [] [_,_,_,_] (.a ab bz) (.a au aj) [.f 1 (.a ae ab) au] rfl (Go (h1)))]
 ·rw[Gr,Gr,e,GX];exact jl [] [_,_,_,_] (.a bg aj) au [.f 1 (.a aj bg) au] rfl (Go (h2))
theorem zz{T:List UInt8}{room:Int}{bytes:List UInt8}{head:Int}(hr:Rb T room bytes head)(ob x:Int)(h0:4≤ob)(h1:ob≤T.length) :
  Rb (fG T ob x) room (put bytes ((bytes.length:Int)-ob).toNat (le 4 x)) head:=by
 have hl:=hr.len;have h2:=hr.h0;have h3:=hr.le;have e0:=cO 4 x;refine e0b (AR (b:=bytes) (r:=le 4 x) (h:=head.toNat) (off:=((bytes.length:Int)-ob).toNat) (by exact cG [_,_] [_,_,_,_] ab ae 1 [.i 1 aa av,.e (-1) (.s az am) av,.e 1 af am,.e (-1) ak (.s az aa)] rfl h1 hl (Gl (h2)) (Gl (lin [_,_] [_,_] an bl 1 [.i 1 aa ak,.e (-1) bR ak,.i 1 an am] rfl h1 hl h2))) (by exact cG [_] [_,_,_] bg aj 1 [.i 1 ap aa,.f 1 ae aC,.e 1 af (.s av aa)] rfl h0 e0 (Gl (lin [_,_] [_,_] an bl 1 [.i 1 aa ak,.e (-1) bR ak,.i 1 an am] rfl h1 hl h2)))) fun e1 e2=>?_
 refine⟨h2,hr.rm,?_,by rw[e2];exact h3,by rw[e2];exact hr.cap⟩
 rw[e1,e0,hr.eq,show((bytes.length:Int)-ob).toNat-head.toNat=T.length-ob.toNat by exact(jl [_,_] [_,_,_,_,_,_,_] ab ae [.e 1 (.s av aa) az,.e 1 aR (.s av am),.e (-1) (.w 5) aa,.e 1 (.w 6) am,.f 1 (.a ab aM) aB,.f (-1) (.a ae (.v 6)) au] rfl hl (Gl (lin [_,_] [_,_] an bl 1 [.i 1 aa ak,.e (-1) bR ak,.i 1 an am] rfl h1 hl h2)) (Gl (h2)) (Gl (lin [_] [] an aa 1 [.i 1 ap aa] rfl h0)) (Go (cG [_,_] [_,_,_,_] ab ae 1 [.i 1 aa av,.e (-1) (.s az am) av,.e (-1) ak (.s az aa),.e 1 af am] rfl h1 hl (Gl (lin [_,_] [_,_] an bl 1 [.i 1 aa ak,.e (-1) bR ak,.i 1 an am] rfl h1 hl h2)) (Gl (h2)))) (Go (cG [_] [_,_] ab ae 1 [.i 1 aa ak,.e 1 af aa] rfl h1 (Gl (lin [_] [] an aa 1 [.i 1 ap aa] rfl h0)))))];rfl
theorem i8{T:List UInt8}{ob x:Int}(h0:4≤ob)(h1:ob≤T.length):(fG T ob x).length=T.length:=by
 unfold fG;rw[Gr,Gr,List.length_take_of_le (by exact(Nat.sub_le _ _)),GX,cO];exact jl [] [_,_,_] (.a bY ae) aj [.f 1 (.a ae bY) aj] rfl (Go (cG [_] [_,_,_] bY ae 1 [.i 1 ap aa,.e (-1) av aa,.f 1 bH ae] rfl h0 (Gl (lin [_] [] an aa 1 [.i 1 ap aa] rfl h0)) (Go (cG [_] [_,_] ab ae 1 [.i 1 aa ak,.e 1 af aa] rfl h1 (Gl (lin [_] [] an aa 1 [.i 1 ap aa] rfl h0))))))
theorem yQ{es:List (P×P)}{k z:P}(h:iM es k=some z):∃x∈es,x.2=z:=by
 unfold iM at h
 cases q:es.find? fun x=>eqB x.1 k with
 |none=>rw[q]at h;exact ns h
 |some x=>rw[q]at h;obtain rfl:=sj h;exact⟨x,List.mem_of_find?_eq_some q,rfl⟩
theorem qp{x:P}{xs:List P}{ys:List Int}(h:x::xs=ys.map P.int):∃y a0,ys=y::a0∧x=.int y∧xs=a0.map .int:=by
 cases ys with
 |nil=>exact cn h
 |cons y ys=>cases h;exact⟨y,ys,rfl,rfl,rfl⟩
theorem ym(l:List Int)(z:Int):l.map P.int++[P.int z]=(l++[z]).map P.int:=by rw[Ha];rfl
theorem uV{stf:List P→St}{l:List Int}{z:Int}:stf (l.map .int++[.int z])=stf ((l++[z]).map .int):=by rw[Ha];rfl
structure WvI(A1:Ab)(l key:List Int)(ob:Int)(j:Lv):Prop where
 r:Rb j.a.T j.a.room j.b j.h
 k:j.k≤l.length
 fold:ef {j.a with vt:=A1.vt,oe:=A1.oe} (gG ob j.t (l.take j.k).reverse)=ef A1 key
 len:(j.a.T.length:Int)+3*j.k≤ob+3*l.length
 len2:ob≤j.a.T.length
 cnt:j.x+key.length+j.k=l.length+(gG ob j.t (l.take j.k).reverse).length
 x0:0≤j.x
 yk:j.y=(j.k:Int)-1
theorem xD{l:List Int}{k:Nat}(h:k<l.length):(l.take (k+1)).reverse=l[k]::(l.take k).reverse:=by
 rw[List.take_add_one,GD h];exact List.reverse_append
theorem tG(ks:List Int)(a:Ab):(ef a ks).vts=a.vts:=by
 induction ks generalizing a with
 |nil=>rfl
 |cons k ks ih=>exact ih (cD a .H k)
theorem b_WV{Φ:Addr→Option Ctr}(hR:AT Φ cS y0)(hO:AT Φ ec gX)
  (hV:AT Φ dF (lP .v)) (hW:AT Φ jq jw) (hH:AT Φ kW y1) :
  BD Φ cWV (cQ 1) 11 iY:=
 fy (fun _=>[.ref 0]) (fun _=>rfl) fun i a bytes head ver K hr zp hK=>e1a zp fun l hp=>by
  rw[hp.vt]at hK;have a3:=kG a 0;have hq:=(cP a (s:=4) (add:=0) sz4).2;have a4:=c5 (n:=a.T.length) (add:=0) (s:=4) sz4;have ar:=hp.pre.hT;have c2:=hp.pre.hl;have df:=hp.pre.ho;have dt:=hp.pre.he;have ah:=hp.pre.hk;have ct:=hp.pre.hn;have hK:∀env a0 head' a5 r,Rb (wvC (gY a 0) l (gY a 0).T.length ((gY a 0).T.length-i.x)).T (wvC (gY a 0) l (gY a 0).T.length ((gY a 0).T.length-i.x)).room a0 head'→K (.ret (.p (.int (gY a 0).T.length))) ⟨env,bo cz (wvC (gY a 0) l (gY a 0).T.length ((gY a 0).T.length-i.x)) a0 head' a5::r⟩:=fun env b h v r b5=>hK _ env b h v r b5 rfl;have dr:∀K2:V→St→Prop,(∀b h v,Rb (gY a 0).T (gY a 0).room b h→K2 (.p .none) ⟨[some (.ref 0),none,none,none,none,none,none,none,none,none,none,none],[bo cz (gY a 0) b h v]⟩)→eT ⟨Φ,wx,sS⟩ cS [.ref 0, .p (.int 0)] [] ⟨[some (.ref 0),none,none,none,none,none,none,none,none,none,none,none],[bo cz a bytes head ver]⟩ K2:=fun K2 h2=>
   cX hR 0 {x:=0} rfl hr ⟨GP 0,G4 _,by exact cG [] [_] ab aF 1 [.j 1 ab aS] rfl ar⟩ h2
  have cc:(gY a 0).vt=some l:=hp.vt;have ee:(gY a 0).oe=.int i.x:=hp.oe;rw[show a.vts=(gY a 0).vts from rfl]at ah ct
  generalize gY a 0=A1 at *;generalize c3:(A1.T.length:Int)=ob at *;have ag:4≤ob:=by exact lin [_] [_] ap aa 1 [.e (-1) aa bu] rfl a3
  have hob2:ob≤900010:=by exact lin [_,_] [_,_] aa (.n 900010) 1 [.e 1 af bK,.i 1 bA ap,.j 1 ae aS,.e 1 aa bu] rfl hq (Gu a4) ar a3
  obtain⟨T1,room1,mal1,vt1,ne1,oe1,fo1,fi1,sh1,vne1,vts1⟩:=A1;subst cc;subst ee;dsimp only at c3 ah ct;lk;refine dr _ fun b1 h1 v1 aw=>?_;lk;refine ei hO 0 {} ⟨⟨T1,room1,mal1,some l,ne1, .int i.x,fo1,fi1,sh1,vne1,vts1⟩,b1,h1,v1⟩ rfl aw ?_;lk;refine⟨G1 _,?_⟩;lk;refine⟨trivial,?_⟩;rw[c3];generalize e8:gG ob true l.reverse=key;have cf:key.length≤l.length:=by rw[←e8];exact Gp (qv ..) (GF List.length_reverse)
  refine C7 (n0:=2) (fun j=>⟨[some (.ref 0),some (.p (.int ob)),some (.ref 1),some (.p (.bool j.t)),j.o.map .p,none,none,none,none,none,none,none],[bo cz ⟨T1,room1,mal1,some l,ne1, .int i.x,fo1,fi1,sh1,vne1,vts1⟩ b1 h1 v1, .bx (.lst (j.l.map .int))]⟩)
   (fun xs j=>xs=j.m.map .int∧j.l++gG ob j.t j.m=key∧j.l.length+j.m.length≤l.length) (fun x xs j K2 hj hn _ _=>⟨⟨rfl,rfl⟩,?_⟩) (fun j hj=>⟨⟨rfl,rfl⟩,?_⟩) _ {t:=true,m:=l.reverse} ⟨List.map_reverse.symm,e8,by rw[List.length_reverse];exact GF (Nat.zero_add _)⟩
  ·refine e0c hj fun hx hk d1=>?_;refine e2c (qp hx) fun y ys e ck c1=>?_;subst ck c1;rw[e]at hk d1;have d1:j.l.length+ys.length+1≤l.length:=d1;have eh:((j.l.map P.int).length<16777216):=by rw[GA];exact cG [] [_,_,_] bc aq 1 [.j 1 ae aJ,.j 1 (.a bH ai) ae] rfl c2 d1
   have e2:∀z,(j.l++[z]).length+ys.length≤l.length:=fun z=>by rw[Gr];refine(?_:j.l.length+1+ys.length≤l.length);exact cG [] [_,_,_] (.a bc ae) aj 1 [.j 1 cw aj] rfl d1
   lk;refine c9 (fun q=>?_) (fun q=>?_)
   ·have q:=GI q;subst q;lk;refine c9 (fun q2=>?_) (fun q2=>?_)
    ·rw[q2,mj]at hk;lk;refine(hn _ {t:=true,l:=j.l,m:=ys,o:=some (.int 0)} ?_ ⟨rfl,hk,by exact cG [] [_,_,_] bg aj 1 [.j 1 cw aj] rfl (by assumption)⟩).2
     rw[q2];rfl
    ·rw[q2,pf]at hk;lk;refine⟨eh,?_⟩;lk;refine(hn _ {t:=false,l:=j.l++[0],m:=ys,o:=some (.int 0)} ?_ ⟨rfl,(GE ..).trans hk,e2 0⟩).1;rw[q2];exact uV (stf:=fun z=>⟨[some (.ref 0),some (.p (.int ob)),some (.ref 1),some (.p (.bool false)),some (.p (.int 0)),none,none,none,none,none,none,none],[bo cz ⟨T1,room1,mal1,some l,ne1, .int i.x,fo1,fi1,sh1,vne1,vts1⟩ b1 h1 v1, .bx (.lst z)]⟩)
   ·rw[pe (GN q)]at hk;lk;refine⟨eh,?_⟩;lk;refine(hn _ {t:=false,l:=j.l++[ob-y],m:=ys,o:=some (.int (ob-y))} ?_ ⟨rfl,(GE ..).trans hk,e2 _⟩).1;exact uV (stf:=fun z=>⟨[some (.ref 0),some (.p (.int ob)),some (.ref 1),some (.p (.bool false)),some (.p (.int (ob-y))),none,none,none,none,none,none,none],[bo cz ⟨T1,room1,mal1,some l,ne1, .int i.x,fo1,fi1,sh1,vne1,vts1⟩ b1 h1 v1, .bx (.lst z)]⟩)
  have hk:j.l=key:=by
   have h2:=hj.2.1;rw[List.map_eq_nil_iff.mp hj.1.symm,mT,List.append_nil]at h2;exact h2
  lk
  conv=>whnf
  rw[hk];refine⟨by rw[GA];exact(cG [] [_,_] bc aq 1 [.j 1 ae aJ,.j 1 ab ae] rfl c2 cf),?_⟩
  lk;refine⟨⟨trivial,by rw[Gr,GA];refine(?_:key.length+1≤_);exact cG [] [_,_] bc aq 1 [.j 1 ae aJ,.j 1 ab ae] rfl c2 cf⟩,?_⟩
  lk;have hkT:P.tup (key.map .int++[.int (ob-i.x)])=kT (key++[ob-i.x]):=congrArg P.tup (ym _ _);rw[hkT];refine⟨.inr ⟨⟨_,rfl⟩,fun x hx=>(ah x hx).1⟩,?_⟩;unfold wvC Ae at hK;rw[e8]at hK;dsimp only at hK
  cases hdg:iM vts1 (kT (key++[ob-i.x]))with
  |some z=>
   obtain⟨v2,rfl,d4,ac⟩:∃v2,z=.int v2∧0≤v2∧v2≤1048576:=by
    refine e1b (yQ hdg) fun x hx b6=>?_;subst b6;exact(ah x hx).2
   rw[hdg]at hK;have bb:=aw.cap;have c4:=aw.le;have hh0:=aw.h0;have bh:=aw.len;dsimp only at bh;have eb:b1.length≤16777216:=Gp bb (by decide)
   have e3:(b1.length:Int)-ob=h1:=by exact gL [_,_] [_,_] bl am [.e 1 ak aa,.e 1 bR ak] rfl c3 bh
   lk;refine⟨eb,?_⟩;lk;refine ei hH 0 {} ⟨⟨T1,room1,mal1,some l,ne1, .int i.x,fo1,fi1,sh1,vne1,vts1⟩,b1,(b1.length:Int)-ob,v1+1⟩ rfl trivial ?_;lk;refine qQ hW 0 {g:=.s,x:=(b1.length:Int)-ob,y:=v2-ob} ⟨⟨T1,room1,mal1,some l,ne1, .int i.x,fo1,fi1,sh1,vne1,vts1⟩,b1,(b1.length:Int)-ob,v1+1⟩ rfl ⟨show 0≤(b1.length:Int)-ob by exact(lin [_,_] [_,_] an bl 1 [.e (-1) ak aa,.i 1 an am,.e (-1) bR ak] rfl c3 hh0 bh),show(b1.length:Int)-ob+4≤b1.length by exact(lin [_] [_] cq af 1 [.i 1 ap aa] rfl ag),eb,show -2147483648≤v2-ob by exact(lin [_,_,_] [_,_] ay bn 1 [.e 1 af (.a ak aD),.i 1 bQ ap,.j 1 ae aS,.e 1 am bu,.i 1 an aa] rfl hq (Gu a4) ar a3 d4),show v2-ob≤2147483647 by exact lin [_,_] [] bn aQ 1 [.i 1 ap am,.i 1 aa aH] rfl ag ac⟩ ?_
   lk;have ce:=zz aw ob (v2-ob) ag (G6 c3.symm);rw[←e3]at ce;exact hK _ _ _ _ _ ce
  |none=>
   rw[hdg]at hK;lk;refine⟨by rw[GA];exact(cG [] [_] ab aq 1 [.j 1 ab aJ] rfl c2),?_⟩
   lk
   conv=>whnf
   rw[GA];refine xq (n0:=2) (fun j=>⟨[some (.ref 0),some (.p (.int ob)),some (.p (kT (key++[ob-i.x]))),some (.p (.bool j.t)),j.o.map .p,some (.p (.int (ob-i.x))),some (.p .none),some (.p (.int j.y)),some (.p (.int j.x)),j.q.map .p,none,none],
     [bo cz {j.a with vt:=some l,oe:=.int i.x} j.b j.h j.v, .bx (.lst (key.map .int++[.int (ob-i.x)]))]⟩) (·.k) (WvI ⟨T1,room1,mal1,some l,ne1, .int i.x,fo1,fi1,sh1,vne1,vts1⟩ l key ob) (fun j K2 hj hn _ _=>?_)
    {t:=true,o:=j.o,k:=l.length,x:=0,y:=(l.length:Int)-1,a:=⟨T1,room1,mal1,some l,ne1, .int i.x,fo1,fi1,sh1,vne1,vts1⟩,b:=b1,h:=h1,v:=v1} ⟨aw,Gw _,by rw[List.take_length,e8],by dsimp only;exact(lin [_] [_,_] (.a af (.m 3 ak)) (.a aa (.m 3 ak)) 1 [.e 1 af aa] rfl c3),G6 c3.symm,by rw[List.take_length,e8];dsimp only;exact(gL [] [_,_] (.a (.a an af) ak) (.a ak af) [] rfl),GP 0,rfl⟩
   have hf:=hj.fold;have hc:=hj.cnt;have c0:=hj.len;have b7:=hj.len2;have dx:=hj.x0;have em:=hj.k;have dd:=hj.yk;lk;refine c9 (fun q=>?_) (fun q=>?_)
   ·have q:=GI q;obtain⟨k,hk⟩:∃k,j.k=k+1:=⟨j.k-1,by exact Eq.symm (Go (cG [_] [_] ai ab 1 [.e 1 aa bW,.i 1 an aa] rfl dd q))⟩
    have cf:k<l.length:=by exact cG [_] [_,_,_,_] bc ae 3 [.i 1 (.a av (.m 3 az)) (.a aa (.m 3 ak)),.i 1 aa av,.f (-3) au bc] rfl c0 b7 hk
    have hyT:j.y.toNat=k:=by rw[dd,hk];exact jl [] [_,_] ab ae [.e 1 af (.s cv ao)] rfl (Gl (lin [_] [_,_] an (.s (.c bc) ao) 1 [.e 1 aa (.s ak ao),.i 1 an aa,.f 1 ae bc] rfl dd q hk))
    have ek:j.y-1=(k:Int)-1:=by rw[dd,hk];exact gL [] [_] (.s (.s (.c bc) ao) ao) bW [] rfl
    have dv:=dt l[k] (List.getElem_mem cf);have e7:(l.map P.int)[j.y.toNat]?=some (.int l[k]):=by rw[hyT,GZ,GD cf];rfl
    rw[hk,xD cf]at hf hc;rw[hk]at c0;generalize l[k]=y at hf hc dv e7;lk;refine jZ q e7 (by rw[GA];exact cG [] [_] ab aq 1 [.j 1 ab aJ] rfl c2) ?_
    lk;have e2:∀z:Int,0≤z→z≤65535→lb .H z {j.a with vt:=some l,oe:=.int i.x}:=fun z h0 h1=>⟨h0,h1,by refine(?_:j.a.T.length≤1048576);exact cG [_,_,_] [_,_,_,_,_,_] ab aF 1 [.e 1 ak (.a av aa),.i 1 bi ap,.j 1 aj aS,.j 3 au aJ,.e 1 am bB,.e 3 aD (.s aR ao),.i 3 an aD,.i 1 (.a af (.m 3 (.c (.a aM ai)))) (.a am (.m 3 az)),.f 3 aB (.a aM ai)] rfl hq (Gu a4) ar c2 a3 dd q c0 hk⟩
    have hb:=i7 {j.a with vt:=some l,oe:=.int i.x};dsimp only at hb;refine c9 (fun q2=>?_) (fun q2=>?_)
    ·have q2:=GI q2;subst q2;lk;refine c9 (fun q3=>?_) (fun q3=>?_)
     ·rw[q3,mj]at hf hc;lk;refine(hn _ {t:=true,o:=some (.int 0),k:=k,x:=j.x+1,y:=j.y-1,q:=some (.int 0),a:=j.a,b:=j.b,h:=j.h,v:=j.v} ?_ (by rw[hk];exact Nat.lt_succ_self k) ⟨hj.r,Nat.le_of_lt cf,hf,by dsimp only;exact(lin [_] [_,_,_] (.a af (.m 3 ak)) (.a aa (.m 3 av)) 1 [.i 1 (.a af (.m 3 cv)) (.a aa (.m 3 av))] rfl c0),b7,by dsimp only;exact(gL [_] [_,_,_,_] (.a (.a bi af) ak) (.a av az) [.e 1 (.a bI cv) (.a av az)] rfl hc),by dsimp only;exact(lin [_] [] an bi 1 [.i 1 an aa] rfl dx),ek⟩).2
      rw[q3];rfl
     ·rw[q3,pf]at hf hc;rw[GR]at hc;lk;refine cX hV 0 {x:=0} (a:={j.a with vt:=some l,oe:=.int i.x}) rfl hj.r (e2 0 (GP 0) (by decide)) fun b3 h3 v3 ce=>?_
      have hb:=hb 0;lk;refine(hn _ {t:=false,o:=some (.int 0),k:=k,x:=j.x,y:=j.y-1,q:=some (.int 0),a:=cD {j.a with vt:=some l,oe:=.int i.x} .H 0,b:=b3,h:=h3,v:=v3} ?_ (by rw[hk];exact Nat.lt_succ_self k) ⟨ce,Nat.le_of_lt cf,hf,by dsimp only;exact(lin [_] [_,_,_,_] (.a af (.m 3 ak)) (.a aa (.m 3 av)) 1 [.i 1 (.a az (.m 3 cv)) (.a aa (.m 3 av)),.i 1 af (.a az (.n 3))] rfl c0 (Gu hb)),by dsimp only;exact(lin [_] [_,_] aa af 1 [.i 1 aa ak,.i 1 bS af] rfl b7 (Gz hb)),by dsimp only;exact(gL [_] [_,_,_,_] (.a bI ak) (.a av az) [.e 1 (.a bI cv) (.a av (.c bD))] rfl hc),dx,ek⟩).1
      rw[q3];rfl
    ·have q2:=GN q2;rw[pe q2]at hf hc;rw[GR]at hc;have dv:0≤ob-y∧ob-y≤65535:=by rcases dv with h'|h'<;>(first|exact(GK (False.elim (v8 [_] [] [.e (-1) aa an,.i 1 bi an] rfl h' (Int.lt_iff_le_and_ne.mpr (GK ((G6 h')) q2)))) (False.elim (v8 [_] [] [.e (-1) aa an,.i 1 bi an] rfl h' (Int.lt_iff_le_and_ne.mpr (GK ((G6 h')) q2)))))|exact GK (lin [_,_] [] an bn 1 [.i 1 am aa] rfl (Gz (Gu h'))) ((Gu (Gu h'))))
     lk;refine cX hV 0 {x:=ob-y} (a:={j.a with vt:=some l,oe:=.int i.x}) rfl hj.r (e2 _ dv.1 dv.2) fun b3 h3 v3 ce=>?_;have hb:=hb (ob-y);lk;exact(hn _ {t:=false,o:=some (.int y),k:=k,x:=j.x,y:=j.y-1,q:=some (.int (ob-y)),a:=cD {j.a with vt:=some l,oe:=.int i.x} .H (ob-y),b:=b3,h:=h3,v:=v3} rfl (by rw[hk];exact Nat.lt_succ_self k) ⟨ce,Nat.le_of_lt cf,hf,by dsimp only;exact(lin [_] [_,_,_,_] (.a af (.m 3 ak)) (.a aa (.m 3 av)) 1 [.i 1 (.a az (.m 3 cv)) (.a aa (.m 3 av)),.i 1 af (.a az (.n 3))] rfl c0 (Gu hb)),by dsimp only;exact(lin [_] [_,_] aa af 1 [.i 1 aa ak,.i 1 bS af] rfl b7 (Gz hb)),by dsimp only;exact(gL [_] [_,_,_,_] (.a bI ak) (.a av az) [.e 1 (.a bI cv) (.a av (.c bD))] rfl hc),dx,ek⟩).1
   ·have q:=GN q;have ea:j.k=0:=by exact Nat.le_antisymm (cG [_] [_] ab ax 1 [.e (-1) aa bW,.i 1 bi an] rfl dd (Int.not_le.mp q)) (cG [] [_] ax ab 1 [] rfl)
    rw[ea,show(l.take 0).reverse=[]from rfl,mT]at hf hc
    have e4:({j.a with vt:=some l,oe:=.int i.x}:Ab)=ef ⟨T1,room1,mal1,some l,ne1, .int i.x,fo1,fi1,sh1,vne1,vts1⟩ key:=hf;have e5:(l.length:Int)-j.x+2=key.length+2:=by have hc:j.x+(key.length:Int)+((0:Nat):Int)=l.length+((0:Nat):Int):=hc;exact gL [_] [_,_] (.a bl aE) bS [.e (-1) (.a bN (.c ax)) (.a af (.c ax))] rfl hc
    have e6:j.a.vts=vts1:=(congrArg Ab.vts e4).trans (tG ..);unfold wvB nE at hK;rw[←e4]at hK;dsimp only at hK;have e0:=i7 {j.a with vt:=some l,oe:=.int i.x} (ob-i.x);have dh:=i7 (cD {j.a with vt:=some l,oe:=.int i.x} .H (ob-i.x)) (((key.length:Int)+2)*2);dsimp only at e0;lk;refine cX hV 0 {x:=ob-i.x} (a:={j.a with vt:=some l,oe:=.int i.x}) rfl hj.r ⟨df.1,df.2,by refine(?_:j.a.T.length≤1048576);exact cG [_,_] [_,_,_,_,_] ab aF 1 [.e 1 ak (.a av aa),.i 1 bi ap,.j 1 aj aS,.j 3 au aJ,.e 1 am bB,.i 1 (.a af (.m 3 aR)) (.a am (.m 3 az)),.f (-3) aB ax] rfl hq (Gu a4) ar c2 a3 c0 ea⟩ fun b3 h3 v3 ce=>?_
    refine CQ (fun _=>⟨[some (.ref 0),some (.p (.int ob)),some (.p (kT (key++[ob-i.x]))),some (.p (.bool j.t)),j.o.map .p,some (.p (.int (ob-i.x))),some (.p .none),some (.p (.int j.y)),some (.p (.int j.x)),j.q.map .p,some (.p (.int ((key.length:Int)+2))),none],
     [bo cz (cD {j.a with vt:=some l,oe:=.int i.x} .H (ob-i.x)) b3 h3 v3, .bx (.lst (key.map .int++[.int (ob-i.x)]))]⟩) (fun _=>True) (fun K3 d3 _=>?_) fun _ _=>?_
    ·lk;refine⟨by rw[GA];exact(cG [] [_] ab aq 1 [.j 1 ab aJ] rfl c2),?_⟩
     lk
     conv=>whnf
     rw[GA,e5];exact d3 {} trivial
    lk;refine⟨by decide,?_⟩
    lk;refine cX hV 0 {x:=((key.length:Int)+2)*2} rfl ce ⟨show 0≤((key.length:Int)+2)*2 by exact(lin [] [_] an (.r bF 2) 1 [] rfl),show((key.length:Int)+2)*2≤65535 by exact(lin [] [_,_] (.r bF 2) (.n 65535) 1 [.j 2 ae aJ,.j 2 ab ae] rfl c2 cf),show(cD {j.a with vt:=some l,oe:=.int i.x} .H (ob-i.x)).T.length≤1048576 by exact cG [_,_] [_,_,_,_,_,_] ab aF 1 [.e 1 ak (.a av aa),.i 1 bi ap,.j 1 aj aS,.j 3 au aJ,.e 1 am bB,.i 1 (.a aR (.m 3 (.w 5))) (.a am (.m 3 az)),.f (-3) aM ax,.i 1 af (.a aR (.n 3))] rfl hq (Gu a4) ar c2 a3 c0 ea (Gu e0)⟩ fun b4 h4 v4 (d2:Rb (cD (cD {j.a with vt:=some l,oe:=.int i.x} .H (ob-i.x)) .H (((key.length:Int)+2)*2)).T (cD (cD {j.a with vt:=some l,oe:=.int i.x} .H (ob-i.x)) .H (((key.length:Int)+2)*2)).room b4 h4)=>?_
    have e9:=d2.cap;have hle4:=d2.le;have hh4:=d2.h0;have e1:=d2.len;have eb:b4.length≤16777216:=Gp e9 (by decide)
    lk;refine⟨eb,?_⟩;lk;refine ei hO 0 {} ⟨(cD (cD {j.a with vt:=some l,oe:=.int i.x} .H (ob-i.x)) .H (((key.length:Int)+2)*2)),b4,h4,v4⟩ rfl d2 ?_;lk;refine qQ hW 0 {g:=.s,x:=(b4.length:Int)-ob,y:=(cD (cD {j.a with vt:=some l,oe:=.int i.x} .H (ob-i.x)) .H (((key.length:Int)+2)*2)).T.length-ob} ⟨(cD (cD {j.a with vt:=some l,oe:=.int i.x} .H (ob-i.x)) .H (((key.length:Int)+2)*2)),b4,h4,v4⟩ rfl ⟨show 0≤(b4.length:Int)-ob by exact(lin [_,_] [_,_,_,_] an bl 1 [.i 1 aa ak,.i 1 bS av,.i 1 bL az,.i 1 an am,.e (-1) bR az] rfl b7 (Gz e0) (Gz dh) hh4 e1),show(b4.length:Int)-ob+4≤b4.length by exact(lin [_] [_] cq af 1 [.i 1 ap aa] rfl ag),eb,show -2147483648≤((cD (cD {j.a with vt:=some l,oe:=.int i.x} .H (ob-i.x)) .H (((key.length:Int)+2)*2)).T.length:Int)-ob by exact(lin [_] [_,_,_] ay bl 1 [.i 1 aa ak,.i 1 bS av,.i 1 bL af] rfl b7 (Gz e0) (Gz dh)),show((cD (cD {j.a with vt:=some l,oe:=.int i.x} .H (ob-i.x)) .H (((key.length:Int)+2)*2)).T.length:Int)-ob≤2147483647 by exact lin [_] [_,_,_,_,_] bl aQ 1 [.j 3 ae aJ,.i 1 (.a av (.m 3 az)) (.a aa (.m 3 ak)),.f (-3) au ax,.i 1 aR (.a av (.n 3)),.i 1 af (.a aR (.n 3))] rfl c2 c0 ea (Gu e0) (Gu dh)⟩ ?_
    lk;have d5:=zz d2 ob ((cD (cD {j.a with vt:=some l,oe:=.int i.x} .H (ob-i.x)) .H (((key.length:Int)+2)*2)).T.length-ob) ag (by exact lin [_] [_,_,_] aa af 1 [.i 1 aa ak,.i 1 bS av,.i 1 bL af] rfl b7 (Gz e0) (Gz dh))
    refine ei hO 0 {} ⟨{(cD (cD {j.a with vt:=some l,oe:=.int i.x} .H (ob-i.x)) .H (((key.length:Int)+2)*2))with T:=fG (cD (cD {j.a with vt:=some l,oe:=.int i.x} .H (ob-i.x)) .H (((key.length:Int)+2)*2)).T ob ((cD (cD {j.a with vt:=some l,oe:=.int i.x} .H (ob-i.x)) .H (((key.length:Int)+2)*2)).T.length-ob)},put b4 ((b4.length:Int)-ob).toNat (le 4 ((cD (cD {j.a with vt:=some l,oe:=.int i.x} .H (ob-i.x)) .H (((key.length:Int)+2)*2)).T.length-ob)),h4,v4⟩ rfl d5 ?_;lk
    conv=>whnf
    rw[i8 ag (by exact lin [_] [_,_,_] aa af 1 [.i 1 aa ak,.i 1 bS av,.i 1 bL af] rfl b7 (Gz e0) (Gz dh))]
    refine⟨⟨.inr ⟨⟨_,rfl⟩,fun x hx=>(ah x (e6▸(show x∈j.a.vts from hx))).1⟩,show j.a.vts.length≤16777216 by rw[e6];exact cG [] [_] ab aq 1 [.j 1 ab a7] rfl ct⟩,?_⟩
    lk;rw[←e6]at hK;exact hK _ _ _ _ _ d5
end
section
structure xk(e0:Int)(l:List Int)(a:Ab):Prop where
 ne:a.nested=true
 wv:Gg e0 l {a with nested:=false}
noncomputable def wU:Ctr:=nB cz (fun _=>[]) (fun i a=>∃l,xk i.x l a) (fun i a=>wvA {a with nested:=false} (a.vt.getD []) i.x) fun _ a=>.int (gY {a with nested:=false} 0).T.length
noncomputable def ab0:Ab:=⟨[],0,1,none,false, .none,false,false, .none,none,[]⟩
noncomputable def F7(c:Addr)(n:Nat)(v:Nat):O:=.cinst c (List.replicate n .unset) v
@[irreducible] noncomputable def kZ:Ctr:=fun args kws objs Q=>∃(n:Int) (v:Nat),args=[.ref 0, .p (.int n)]∧kws=[]∧objs=[F7 cz 11 v]∧(0≤n∧n≤65536)∧∀bytes a5,Rb [] 0 bytes n→Q (.p .none) [bo cz ab0 bytes n a5]
structure Tw where
 d:List UInt8
 p:Int
 v:Nat
noncomputable def Tw.o(w:Tw):O:=.cinst ej [.v (.bytes w.d), .v (.int w.p)] w.v
@[irreducible] noncomputable def jy:Ctr:=fun args kws objs Q=>∃(d:List UInt8) (p:Int) (v:Nat),args=[.ref 0, .p (.bytes d), .p (.int p)]∧kws=[]∧objs=[F7 ej 2 v]∧(0≤p∧p≤4294967295)∧∀a5,Q (.p .none) [Tw.o ⟨d,p,a5⟩]
noncomputable def ug:Ctr:=rf Tw.o (fun i=>[.st i.g.c, .int i.x]) (fun i w=>inB i.g.F w.d i.x) fun i w=>.int (rdF i.g.F w.d i.x)
noncomputable def ux(d:List UInt8)(pos:Int):Int:=pos-rdF .i d pos
noncomputable def nY(d:List UInt8)(pos vo:Int):Int:=if vo<rdF .H d (ux d pos)then rdF .H d (ux d pos+vo)else 0
structure oG(d:List UInt8)(pos vo:Int):Prop where
 b0:inB .i d pos
 b1:inB .H d (ux d pos)
 b2:vo<rdF .H d (ux d pos)→inB .H d (ux d pos+vo)
noncomputable def fL:Ctr:=rf Tw.o (fun i=>[.int i.x]) (fun i w=>oG w.d w.p i.x) fun i w=>.int (nY w.d w.p i.x)
noncomputable def yZ:Ctr:=rf Tw.o (fun i=>[.int i.x]) (fun i w=>inB .I w.d i.x) fun i w=>.int (i.x+rdF .I w.d i.x)
structure tB(d:List UInt8)(pos off:Int):Prop where
 n0:0≤off
 n1:off≤4294967295
 b1:inB .I d (off+pos)
 b2:inB .I d (off+pos+rdF .I d (off+pos))
noncomputable def gO:Ctr:=rf Tw.o (fun i=>[.int i.x]) (fun i w=>tB w.d w.p i.x) fun i w=>.int (rdF .I w.d (i.x+w.p+rdF .I w.d (i.x+w.p)))
structure Ej(d:List UInt8)(pos off:Int):Prop where
 n0:0≤off
 n1:off≤4294967295
 b1:inB .I d (off+pos)
noncomputable def yX:Ctr:=rf Tw.o (fun i=>[.int i.x]) (fun i w=>Ej w.d w.p i.x) fun i w=>.int (i.x+w.p+rdF .I w.d (i.x+w.p)+4)
structure sD(F:Fm)(d:List UInt8)(pos sl df:Int):Prop where
 s0:0≤sl
 s1:sl≤65535
 lo:F.lo≤df
 hi:df≤F.hi
 off:oG d pos sl
 b:nY d pos sl≠0→inB F d (pos+nY d pos sl)
noncomputable def uY(F:Fm)(d:List UInt8)(pos sl df:Int):Int:=if nY d pos sl=0 then df else rdF F d (pos+nY d pos sl)
noncomputable def kY:Ctr:=rf Tw.o (fun i=>[.int i.x, .int i.y, .st i.g.c]) (fun i w=>sD i.g.F w.d w.p i.x i.y) fun i w=>.int (uY i.g.F w.d w.p i.x i.y)
theorem Bo{F:Fm}{d:List UInt8}{off:Int}(h:inB F d off):0≤off∧off≤4294967295:=⟨h.1,by have h1:=h.2.1;have h2:=h.2.2;have h3:(0:Int)≤F.w:=G4 _;exact lin [_] [_,_] aa aP 1 [.i 1 bI ak,.j 1 ae aq,.i 1 an af] rfl h1 h2 h3⟩
section
variable {Φ:Addr→Option Ctr}
theorem Ef(hN:AT Φ dq uh)(hV:AT Φ eO cWV) :
  BD Φ wU (cQ 1) 0 kF:=
 fy (fun _=>[.ref 0]) (fun _=>rfl) fun i a bytes head ver K hr zp hK=>e1a zp fun l h=>by
  lk;refine ei hN 0 {} ⟨a,bytes,head,ver⟩ rfl h.ne ?_;lk;refine cX hV 0 i (a:={a with nested:=false}) rfl hr ⟨l,h.wv⟩ fun a4 ac ar aw=>?_;lk;exact hK (.ret (.p (.int _))) _ _ _ _ _ aw rfl
theorem B1:BD Φ kZ (um 1 (.int 1024)) 1 sK:=fun args kws objs Q hq=>by
 unfold kZ at hq;refine e2e hq fun n v b6 ck c1 ct h=>?_;clear hq;subst b6 ck c1;refine e0b ct fun h0 h1=>?_;lk;refine EF (decide_eq_true h0) ?_;lk;refine uB (congrArg Bool.not (decide_eq_true (by exact lin [_] [] aa aG 1 [.i 1 aa (.n 65536)] rfl h1))) ?_
 lk;refine⟨⟨h0,by exact lin [_] [] aa aX 1 [.i 1 aa (.n 65536)] rfl h1⟩,?_⟩
 lk;refine⟨1,⟨Gw 1,Nat.le_add_left 1 _,rfl⟩,h _ _ ⟨h0,h0,?_,?_,?_⟩⟩
 ·rw[List.drop_eq_nil_of_le];rw[GQ];exact Gw _
 ·rw[GQ];exact(G6 (Eq.symm (Gl (h0))))
 ·rw[GQ];exact cG [_] [_] ab (.n 4194304) 1 [.i 1 aa (.n 65536),.e 1 af aa] rfl h1 (Gl (h0))
theorem BY(hE:AT Φ cJ sq):BD Φ jy (cQ 3) 0 sJ:=fun args kws objs Q hq=>by
 unfold jy at hq;refine e3e hq fun d p v ck c1 a4 h0 h=>?_;clear hq;subst ck c1 a4;lk;refine eH hE {g:=.u,x:=p} h0 ?_;lk;exact⟨1,⟨Gw 1,Gw 1,rfl⟩,h _⟩
theorem D3(hE:AT Φ cJ sq)(hG:AT Φ mY y3):BD Φ ug (cQ 3) 0 vd:=
 jB (fun i=>[.ref 0, .p (.st i.g.c), .p (.int i.x)]) (fun _=>rfl) fun i w K h hK=>by
  lk;refine eH hE {g:=.u,x:=i.x} (Bo h) ?_;obtain⟨g,d,x,y,z⟩:=i
  cases g
  all_goals
   lk;refine eH hG {g:=_,d:=w.d,x:=x} h ?_;lk;exact hK (.ret (.p (.int _))) _ _ rfl
theorem w4(hG:AT Φ kq ug):BD Φ fL (cQ 2) 2 n6:=
 jB (fun i=>[.ref 0, .p (.int i.x)]) (fun _=>rfl) fun i w K h hK=>by
  lk;refine ei hG 0 {g:=.s,x:=w.p} w rfl h.b0 ?_;lk;refine ei hG 0 {g:=.v,x:=ux w.d w.p} w rfl h.b1 ?_;lk;refine c9 (fun q=>?_) (fun q=>?_)
  ·have q:=GI q;rw[show nY w.d w.p i.x=rdF .H w.d (ux w.d w.p+i.x)from if_pos q]at hK
   lk;refine ei hG 0 {g:=.v,x:=ux w.d w.p+i.x} w rfl (h.b2 q) ?_;lk;exact hK (.ret (.p (.int _))) _ _ rfl
  ·rw[show nY w.d w.p i.x=0 from if_neg (GN q)]at hK
   lk;exact hK (.ret (.p (.int _))) _ _ rfl
theorem D0(hE:AT Φ cJ sq)(hG:AT Φ mY y3):BD Φ yZ (cQ 2) 0 lG:=
 jB (fun i=>[.ref 0, .p (.int i.x)]) (fun _=>rfl) fun i w K h hK=>by
  lk;refine eH hE {g:=.u,x:=i.x} (Bo h) ?_;lk;refine eH hG {g:=.u,d:=w.d,x:=i.x} h ?_;lk;exact hK (.ret (.p (.int _))) _ _ rfl
theorem w3(hE:AT Φ cJ sq)(hG:AT Φ mY y3):BD Φ gO (cQ 2) 1 kC:=
 jB (fun i=>[.ref 0, .p (.int i.x)]) (fun _=>rfl) fun i w K h hK=>by
  lk;refine eH hE {g:=.u,x:=i.x} ⟨h.n0,h.n1⟩ ?_;lk;refine eH hG {g:=.u,d:=w.d,x:=i.x+w.p} h.b1 ?_;lk;refine eH hG {g:=.u,d:=w.d,x:=i.x+w.p+rdF .I w.d (i.x+w.p)} h.b2 ?_;lk;exact hK (.ret (.p (.int _))) _ _ rfl
theorem DY(hE:AT Φ cJ sq)(hG:AT Φ kq ug):BD Φ yX (cQ 2) 1 n4:=
 jB (fun i=>[.ref 0, .p (.int i.x)]) (fun _=>rfl) fun i w K h hK=>by
  lk;refine eH hE {g:=.u,x:=i.x} ⟨h.n0,h.n1⟩ ?_;lk;refine ei hG 0 {g:=.u,x:=i.x+w.p} w rfl h.b1 ?_;lk;exact hK (.ret (.p (.int _))) _ _ rfl
theorem BX(hE:AT Φ cJ sq)(hO:AT Φ d0 fL)(hG:AT Φ kq ug):BD Φ kY (cQ 4) 1 mJ:=
 jB (fun i=>[.ref 0, .p (.int i.x), .p (.int i.y), .p (.st i.g.c)]) (fun _=>rfl) fun i w K h hK=>by
  lk;refine eH hE {g:=.v,x:=i.x} ⟨h.s0,h.s1⟩ ?_;lk;refine eH hE {g:=i.g,x:=i.y} ⟨h.lo,h.hi⟩ ?_;lk;refine ei hO 0 {x:=i.x} w rfl h.off ?_;lk;refine c9 (fun q=>?_) (fun q=>?_)
  ·rw[show uY i.g.F w.d w.p i.x i.y=i.y from if_pos (GI q)]at hK
   lk;exact hK (.ret (.p (.int _))) _ _ rfl
  ·rw[show uY i.g.F w.d w.p i.x i.y=rdF i.g.F w.d (w.p+nY w.d w.p i.x)from if_neg (GN q)]at hK
   lk;refine ei hG 0 {g:=i.g,x:=w.p+nY w.d w.p i.x} w rfl (h.b (GN q)) ?_;lk;exact hK (.ret (.p (.int _))) _ _ rfl
end
end
section
noncomputable def CD(a:Ab)(d:List UInt8):Ab:=du (cI {a with nested:=true} 4 ((d.length:Int)+1)) .B 0
noncomputable def Ew(b:Ab)(d:List UInt8):Ab:={b with T:=d++b.T,room:=b.room-d.length,vne:=some (.int d.length)}
noncomputable def nI(a:Ab)(d:List UInt8):Ab:=fA (Ew (CD a d) d) d.length
structure El(x:Str)(a:Ab):Prop where
 ne:a.nested=false
 sur:∀c∈x.cps.toList,Str.isSurrogate c=false
 len:(iA x).length≤65536
 T:a.T.length≤900000
@[irreducible] noncomputable def sr:Ctr:=fun args kws objs Q=>∃x a bytes head ver,args=[.ref 0, .p (.str x)]∧kws=[]∧objs=[bo cz a bytes head ver]∧Rb a.T a.room bytes head∧El x a∧
 ∀a0 head' a5,Rb (nI a (iA x)).T (nI a (iA x)).room a0 head'→Q (.p (.int (nI a (iA x)).T.length)) [bo cz (nI a (iA x)) a0 head' a5]
theorem ju{G:Pg}{fa c:Addr}{A:Ar→List P}{side:Ar→Ab→Prop}{new:Ar→Ab→Ab}{ret:Ar→Ab→P}{env:List (Option V)}{σ:List O}{Q:V→St→Prop}(a3:G.Φ fa=some (nB c A side new ret))(j:Nat)(i:Ar){args:List V}(ha:args=(A i).map .p)
  {a b:Ab} {z:P} {bytes:List UInt8} {head:Int} {ver:Nat} (hj:σ[j]?=some (bo c a bytes head ver)) (hr:Rb a.T a.room bytes head) (hs:side i a) (hb:new i a=b) (hz:ret i a=z)
  (h:∀a0 head' a5,Rb b.T b.room a0 head'→Q (.p z) ⟨env,σ.set j (bo c b a0 head' a5)⟩):eT G fa (.ref j::args) [] ⟨env,σ⟩ Q:=by
 subst ha hb hz;exact cX a3 j i hj hr hs h
theorem uN(a:Ab)(d:List UInt8):(CD a d).nested=true∧(d.length:Int)+4≤(CD a d).room:=by
 refine⟨rfl,?_⟩;have h:=gw {a with nested:=true} 4 ((d.length:Int)+1)
 show _≤(cI {a with nested:=true} 4 ((d.length:Int)+1)).room-((1:Nat):Int)
 exact lin [_] [_] bu (.s aa (.c ai)) 1 [.i 1 (.a ap bv) aa] rfl h
theorem strR{b:Ab}{d bytes:List UInt8}{head:Int}(hr:Rb b.T b.room bytes head)(h:(d.length:Int)≤b.room) :
  Rb (Ew b d).T (Ew b d).room (bytes.take (head-d.length).toNat++d++bytes.drop (head-d.length+d.length).toNat) (head-d.length):=by
 have h0:=hr.rm;have h1:=hr.le;have h2:=hr.h0;have e3:(head-d.length+d.length).toNat=(head-d.length).toNat+d.length:=by exact jl [_] [_,_,_] ab bz [.e 1 af (.a (.s aa av) av),.e (-1) ak (.s aa av)] rfl (Gl (lin [_] [_] an (.a bq af) 1 [.i 1 an aa] rfl h2)) (Gl (lin [_,_] [_] an bq 1 [.i 1 af am,.i 1 am aa] rfl h h0))
 rw[e3];refine e0b (sQ (b:=bytes) (r:=d) (off:=(head-d.length).toNat) (by exact cG [_] [_,_,_,_] bg aj 1 [.i 1 aa av,.f (-1) au bg,.e 1 az (.a (.s aa ak) ak)] rfl h1 e3 (Gl (lin [_] [_] an (.a bq af) 1 [.i 1 an aa] rfl h2)))) fun e1 e2=>?_
 refine⟨by exact(lin [_,_] [_] an bq 1 [.i 1 af am,.i 1 am aa] rfl h h0),by show b.room-d.length≤_;exact(lin [_,_] [_] bq (.s am af) 1 [.i 1 aa am] rfl h0),?_,?_,?_⟩
 ·refine e1.trans ?_;rw[show(head-d.length).toNat+d.length=head.toNat by lia,hr.eq];rfl
 ·refine G9 ?_ (G6 (congrArg _ e2.symm));exact lin [_] [_,_] bq ak 1 [.i 1 aa ak] rfl h1
 ·exact Gp (GF e2) hr.cap
section
variable {Φ:Addr→Option Ctr}
theorem Eg(hN:AT Φ c8 jQ)(hP:AT Φ fK pB)(hL:AT Φ gD oA)(hE:AT Φ ew ui):BD Φ sr (cQ 2) 3 iK:=fun args kws objs Q hq=>by
 unfold sr at hq;obtain⟨x,a,bytes,head,ver,rfl,rfl,rfl,hr,h,hq⟩:=hq;lk;refine ei hN 0 {} ⟨a,bytes,head,ver⟩ rfl h.ne ?_;lk;refine⟨⟨rfl,h.len,h.sur⟩,?_⟩;lk;refine⟨Gp h.len (by decide),?_⟩
 lk;refine⟨by decide,?_⟩
 lk
 conv=>whnf
 rw[Int.mul_one];have hp:xf {x:=4,y:=(iA x).length+1} {a with nested:=true}:=⟨sz4,show(0:Int)≤(iA x).length+1 by exact(lin [] [_] an bv 1 [] rfl),by have:=h.len;have:=h.T;show(a.T.length:Int)+((iA x).length+1)≤_;exact lin [] [_,_] (.a af (.a ak ao)) aH 1 [.j 1 ae (.n 65536),.j 1 ab aS] rfl (by assumption) this⟩
 refine cX hP 0 {x:=4,y:=(iA x).length+1} (a:={a with nested:=true}) rfl hr hp fun a4 ac ar aw=>?_;lk;refine ju (b:=CD a (iA x)) hL 0 {g:=.u8,x:=0} rfl (a:=cI {a with nested:=true} 4 ((iA x).length+1)) rfl aw ⟨by decide,by decide,by have:=gw {a with nested:=true} 4 ((iA x).length+1);show((1:Nat):Int)≤_;exact lin [_] [_] (.c ai) aa 1 [.i 1 (.a ap bv) aa] rfl this⟩ rfl rfl fun b3 b5 cf c1=>?_
 unfold nI at hq;refine e0b (uN a (iA x)) fun e0 dh=>?_;have hl:=h.len;generalize CD a (iA x)=b at c1 hq e0 dh;generalize iA x=d at hq dh hl;have h0:=c1.h0;have h1:=c1.le;have h2:=c1.rm;lk;refine iC rfl (gN _ _ _ (by exact lin [_,_] [_] an bq 1 [.i 1 bu am,.i 1 am aa] rfl dh h2) (by exact lin [_] [_,_] bq ak 1 [.i 1 aa ak] rfl h1)) (gN _ _ _ (by exact lin [_,_] [_] an (.a bq af) 1 [.i 1 bu am,.i 1 am aa] rfl dh h2) (by exact lin [_] [_,_] (.a bq af) ak 1 [.i 1 aa ak] rfl h1)) (Gp c1.cap (by decide)) ⟨⟨rfl,by exact(cG [_] [_,_,_] ab ae 1 [.e 1 af (.s aa av),.e (-1) ak (.a (.s aa av) av)] rfl (Gl (lin [_,_] [_] an bq 1 [.i 1 bu am,.i 1 am aa] rfl dh h2)) (Gl (lin [_,_] [_] an (.a bq af) 1 [.i 1 bu am,.i 1 am aa] rfl dh h2))),by lia⟩,?_⟩
 have ce:=strR c1 (d:=d) (by exact lin [_] [_] af aa 1 [.i 1 bu aa] rfl dh)
 lk;refine cX hE 0 {x:=d.length} (a:=Ew b d) rfl ce ⟨rfl,e0,by exact(lin [] [_] an af 1 [] rfl),by exact(lin [] [_] af aP 1 [.j 1 ab (.n 65536)] rfl hl),by show(4:Int)≤b.room-d.length;exact lin [_] [_] ap bq 1 [.i 1 bu aa] rfl dh⟩ fun c0 c4 d3 d2=>?_
 lk;exact⟨1,⟨Gw 1,Gw 1,rfl⟩,hq _ _ _ d2⟩
end
end
section
noncomputable def rdE(F:Fm)(T:List UInt8)(p:Int):Int:=F.rd ((T.drop (T.length-p.toNat)).take F.w)
theorem ya{F:Fm}{d:List UInt8}{p:Int}(h0:0≤p)(h1:p≤d.length):rdF F d (d.length-p)=rdE F d p:=by
 unfold rdF rdE
 congr 3
 exact jl [_] [_,_,_,_] ab ae [.e 1 af (.s av aa),.e 1 az aa,.f (-1) bV aj] rfl (Gl (lin [_] [_] an bl 1 [.i 1 aa af] rfl h1)) (Gl (h0)) (Go (cG [_] [_,_] ab ae 1 [.i 1 aa ak,.e 1 af aa] rfl h1 (Gl (h0))))
theorem gT{F:Fm}(X:List UInt8){T:List UInt8}{p:Int}(h1:p≤T.length):rdE F (X++T) p=rdE F T p:=by
 unfold rdE
 congr 2
 rw[Gr,Nat.add_sub_assoc (Int.toNat_le.mpr h1) X.length,←List.drop_drop,List.drop_left]
theorem kf{F:Fm}{T:List UInt8}{x:Int}(h0:F.lo≤x)(h1:x≤F.hi):rdE F (le F.w x++T) (T.length+F.w)=x:=by
 unfold rdE;have e:(le F.w x++T).length-((T.length:Int)+F.w).toNat=0:=by rw[Gr,cO,←Int.natCast_add,Int.toNat_natCast,Nat.add_comm,Nat.sub_self]
 rw[e,List.drop_zero,List.take_append_of_le_length (by rw[cO];exact Gw _),List.take_of_length_le (by rw[cO];exact Gw _)]
 exact E7 F x h0 h1
theorem p0{T:List UInt8}{ob x:Int}(h0:4≤ob)(h1:ob≤T.length)(dx : -2147483648≤x)(hx1:x≤2147483647):rdE .i (fG T ob x) ob=x:=by
 have hl:=i8 (x:=x) h0 h1;have e:fG T ob x=T.take (T.length-ob.toNat)++(le 4 x++T.drop (T.length-ob.toNat+4)):=by unfold fG;rw[GE]
 have e2:ob=((T.drop (T.length-ob.toNat+4)).length:Int)+(Fm.i).w:=by simp only[GX,Fm.w];exact gL [_] [_,_,_,_] aa (.a af (.c aC)) [.e (-1) ak aa,.f 1 bU au,.f (-1) (.a ab (.a aj aC)) au] rfl (Gl (lin [_] [] an aa 1 [.i 1 ap aa] rfl h0)) (Go (cG [_] [_,_] ab ae 1 [.i 1 aa ak,.e 1 af aa] rfl h1 (Gl (lin [_] [] an aa 1 [.i 1 ap aa] rfl h0)))) (Go (cG [_] [_,_,_] bY ae 1 [.i 1 ap aa,.e (-1) av aa,.f 1 bH ae] rfl h0 (Gl (lin [_] [] an aa 1 [.i 1 ap aa] rfl h0)) (Go (cG [_] [_,_] ab ae 1 [.i 1 aa ak,.e 1 af aa] rfl h1 (Gl (lin [_] [] an aa 1 [.i 1 ap aa] rfl h0))))))
 rw[e,gT _ (by simp only[Gr,cO,GX];exact lin [_] [_,_,_,_] aa (.c (.a aC ab)) 1 [.e (-1) ak aa,.f 1 bU au,.f (-1) (.a ab (.a aj aC)) au] rfl (Gl (lin [_] [] an aa 1 [.i 1 ap aa] rfl h0)) (Go (cG [_] [_,_] ab ae 1 [.i 1 aa ak,.e 1 af aa] rfl h1 (Gl (lin [_] [] an aa 1 [.i 1 ap aa] rfl h0)))) (Go (cG [_] [_,_,_] bY ae 1 [.i 1 ap aa,.e (-1) av aa,.f 1 bH ae] rfl h0 (Gl (lin [_] [] an aa 1 [.i 1 ap aa] rfl h0)) (Go (cG [_] [_,_] ab ae 1 [.i 1 aa ak,.e 1 af aa] rfl h1 (Gl (lin [_] [] an aa 1 [.i 1 ap aa] rfl h0)))))))]
 exact(congrArg (rdE .i (le 4 x++T.drop (T.length-ob.toNat+4))) e2).trans (kf (F:=.i) dx hx1)
theorem lI{F:Fm}{T:List UInt8}{ob x p:Int}(h0:4≤ob)(h1:ob≤T.length)(hp:ob≤p-F.w)(a0:p≤T.length):rdE F (fG T ob x) p=rdE F T p:=by
 have hl:=i8 (x:=x) h0 h1;unfold rdE;rw[hl]
 congr 1
 unfold fG;rw[GE,List.drop_append_of_le_length (by simp;exact cG [_,_] [_,_,_,_,_] ab bz 1 [.i 1 aa (.s am az),.e (-1) av am,.e 1 aR aa,.f (-1) (.a ae aB) ab] rfl hp (Gl (lin [_,_] [_] an aa 1 [.i 1 ap am,.i 1 am bq] rfl h0 hp)) (Gl (lin [_] [] an aa 1 [.i 1 ap aa] rfl h0)) (Go (cG [_] [_,_] ab ae 1 [.i 1 aa ak,.e 1 af aa] rfl h1 (Gl (lin [_] [] an aa 1 [.i 1 ap aa] rfl h0))))),List.take_append_of_le_length (by simp;exact cG [_,_] [_,_,_,_,_,_,_] ab ae 1 [.i 1 aa (.s am af),.e 1 av aa,.e (-1) az am,.f (-1) (.a aM aj) aB,.f 1 (.a (.v 6) au) aB,.f (-1) (.a ae (.v 6)) aM] rfl hp (Gl (lin [_] [] an aa 1 [.i 1 ap aa] rfl h0)) (Gl (lin [_,_] [_] an aa 1 [.i 1 ap am,.i 1 am bq] rfl h0 hp)) (Go (cG [_] [_,_] ab ae 1 [.i 1 aa ak,.e 1 af aa] rfl h1 (Gl (lin [_] [] an aa 1 [.i 1 ap aa] rfl h0)))) (Go (cG [_] [_,_] ab ae 1 [.i 1 aa ak,.e 1 af aa] rfl a0 (Gl (lin [_,_] [_] an aa 1 [.i 1 ap am,.i 1 am bq] rfl h0 hp)))) (Go (cG [_,_] [_,_,_,_,_,_] ab ae 1 [.i 1 aa (.s am av),.e 1 az aa,.e (-1) aR am,.f (-1) bV aM,.f 1 (.a ab aB) aM] rfl hp (Gl (lin [_] [] an aa 1 [.i 1 ap aa] rfl h0)) (Gl (lin [_,_] [_] an aa 1 [.i 1 ap am,.i 1 am bq] rfl h0 hp)) (Go (cG [_] [_,_] ab ae 1 [.i 1 aa ak,.e 1 af aa] rfl h1 (Gl (lin [_] [] an aa 1 [.i 1 ap aa] rfl h0)))) (Go (cG [_] [_,_] ab ae 1 [.i 1 aa ak,.e 1 af aa] rfl a0 (Gl (lin [_,_] [_] an aa 1 [.i 1 ap am,.i 1 am bq] rfl h0 hp))))))),List.drop_take,List.take_take]
 congr 1
 exact Nat.le_antisymm ((Nat.min_le_left _ _)) ((GF (Eq.symm (G8 (cG [_,_] [_,_,_,_,_,_,_] ab ae 1 [.i 1 aa (.s am af),.e 1 av aa,.e (-1) az am,.f (-1) (.a aM aj) aB,.f 1 (.a (.v 6) au) aB,.f (-1) (.a ae (.v 6)) aM] rfl hp (Gl (lin [_] [] an aa 1 [.i 1 ap aa] rfl h0)) (Gl (lin [_,_] [_] an aa 1 [.i 1 ap am,.i 1 am bq] rfl h0 hp)) (Go (cG [_] [_,_] ab ae 1 [.i 1 aa ak,.e 1 af aa] rfl h1 (Gl (lin [_] [] an aa 1 [.i 1 ap aa] rfl h0)))) (Go (cG [_] [_,_] ab ae 1 [.i 1 aa ak,.e 1 af aa] rfl a0 (Gl (lin [_,_] [_] an aa 1 [.i 1 ap am,.i 1 am bq] rfl h0 hp)))) (Go (cG [_,_] [_,_,_,_,_,_] ab ae 1 [.i 1 aa (.s am av),.e 1 az aa,.e (-1) aR am,.f (-1) bV aM,.f 1 (.a ab aB) aM] rfl hp (Gl (lin [_] [] an aa 1 [.i 1 ap aa] rfl h0)) (Gl (lin [_,_] [_] an aa 1 [.i 1 ap am,.i 1 am bq] rfl h0 hp)) (Go (cG [_] [_,_] ab ae 1 [.i 1 aa ak,.e 1 af aa] rfl h1 (Gl (lin [_] [] an aa 1 [.i 1 ap aa] rfl h0)))) (Go (cG [_] [_,_] ab ae 1 [.i 1 aa ak,.e 1 af aa] rfl a0 (Gl (lin [_,_] [_] an aa 1 [.i 1 ap am,.i 1 am bq] rfl h0 hp)))))))))))
structure ut(T:List UInt8)(p:Int)(L:List Int):Prop where
 lo:4≤p
 hi:p≤T.length
 vlo:2≤p+rdE .i T p
 vhi:p+rdE .i T p≤T.length
 fit:∀i:Nat,(4+2*(i:Int))<rdE .H T (p+rdE .i T p)→4+2*(i:Int)+2≤p+rdE .i T p
 sl:∀i:Nat,(if(4+2*(i:Int))<rdE .H T (p+rdE .i T p)then rdE .H T (p+rdE .i T p-(4+2*(i:Int)))else 0)=(match L[i]? with|some q=>if q=0 then 0 else p-q|none=>0)
theorem ut.app{T:List UInt8}{p:Int}{L:List Int}(h:ut T p L)(X:List UInt8):ut (X++T) p L:=by
 obtain⟨h1,h2,h3,h4,h5,h6⟩:=h;have e1:rdE .i (X++T) p=rdE .i T p:=gT X h2;have e2:rdE .H (X++T) (p+rdE .i T p)=rdE .H T (p+rdE .i T p):=gT X h4;have hl:(X++T).length=X.length+T.length:=Gr;refine⟨h1,by exact(lin [_] [_,_,_] aa af 1 [.i 1 aa ak,.f (-1) ab bU] rfl h2 hl),by rw[e1];exact h3,by rw[e1];exact(lin [_,_] [_,_,_] bp af 1 [.i 1 bp ak,.f (-1) ab bU] rfl h4 hl),fun i=>by rw[e1,e2];exact h5 i,fun i=>?_⟩
 rw[e1,e2,gT X (by exact lin [_,_] [_,_] (.s bp (.a ap (.m 2 af))) ak 1 [.i 1 bp ak] rfl h4)]
 exact h6 i
structure VtE(T:List UInt8)(vp:Int)(ks:List Int):Prop where
 lo:2*((ks.length:Int)+2)≤vp
 hi:vp≤T.length
 sz:rdE .H T vp=2*((ks.length:Int)+2)
 en:∀i:Nat,i<ks.length→some (rdE .H T (vp-(4+2*(i:Int))))=ks.reverse[i]?
theorem VtE.app{T:List UInt8}{vp:Int}{ks:List Int}(h:VtE T vp ks)(X:List UInt8):VtE (X++T) vp ks:=by
 obtain⟨h1,h2,h3,h4⟩:=h;have hl:(X++T).length=X.length+T.length:=Gr;refine⟨h1,by exact(lin [_] [_,_,_] aa af 1 [.i 1 aa ak,.f (-1) ab bU] rfl h2 hl),by rw[gT X h2];exact h3,fun i hi=>?_⟩
 rw[gT X (by exact lin [_] [_,_] (.s aa (.a ap (.m 2 af))) ak 1 [.i 1 aa ak] rfl h2)];exact h4 i hi
def ur(T:List UInt8)(vts:List (P×P)):Prop:=∀x∈vts,∃ks ac vp,x.1=kT (ks++[ac])∧x.2=.int vp∧VtE T vp ks
theorem ur.app{T:List UInt8}{vts:List (P×P)}(h:ur T vts)(X:List UInt8):ur (X++T) vts:=fun x hx=>
 e3c (h x hx) fun ks ac vp h1 h2 h3=>⟨ks,ac,vp,h1,h2,h3.app X⟩
noncomputable def slf(ob q:Int):Int:=if q=0 then 0 else ob-q
theorem rL(ob:Int)(ys:List Int):gG ob false ys=ys.map (slf ob):=by
 induction ys with
 |nil=>rfl
 |cons y ys ih=>exact congrArg (slf ob y::·) ih
theorem tS(ob:Int)(ys:List Int):∃z a0,ys=List.replicate z 0++a0∧gG ob true ys=a0.map (slf ob):=by
 induction ys with
 |nil=>exact⟨0,[],rfl,rfl⟩
 |cons y ys ih=>
  by_cases h:y=0
  ·refine e2b ih fun z a0 e1 e2=>?_;exact⟨z+1,a0,by rw[e1,h];rfl,by rw[h,mj];exact e2⟩
  ·refine⟨0,y::ys,rfl,?_⟩;rw[pe h,rL];exact congrArg (·::_) (if_neg h).symm
theorem sZ(ob:Int)(l:List Int):∃z l',l=l'++List.replicate z 0∧(gG ob true l.reverse).reverse=l'.map (slf ob):=by
 refine e2b (tS ob l.reverse) fun z a0 e1 e2=>?_;refine⟨z,a0.reverse,?_,by rw[e2,List.map_reverse]⟩
 rw[←List.reverse_reverse (as:=l),e1,List.reverse_append,List.reverse_replicate]
theorem AU(a:Ab)(x:Int)(h:a.T.length % 2=0):(cD a .H x).T=le 2 x++a.T:=by
 refine(?_:le 2 x++(List.replicate (kJ a.T.length 0 2).toNat 0++a.T)=_);rw[show kJ a.T.length 0 2=0 by unfold kJ;lia];rfl
theorem xr(ks:List Int)(a:Ab)(h:a.T.length % 2=0):(ef a ks).T=(ks.reverse.map (le 2)).flatten++a.T∧(ef a ks).T.length=a.T.length+2*ks.length:=by
 induction ks generalizing a with
 |nil=>exact⟨rfl,rfl⟩
 |cons k ks ih=>
  have e:=AU a k h;have el:(cD a .H k).T.length=a.T.length+2:=by rw[e,Gr,cO,Nat.add_comm]
  refine e0b (ih (cD a .H k) (by rw[el,Nat.add_mod_right];exact h)) fun h1 h2=>?_
  refine⟨h1.trans ?_,h2.trans ?_⟩
  ·rw[e,List.reverse_cons,Ha,List.flatten_append,GE];rfl
  ·rw[el,GR];exact jl [] [_,_] (.a (.a ab aV) (.m 2 ae)) (.a ab (.m 2 be)) [] rfl
theorem kO(rs:List Int):((rs.map (le 2)).flatten).length=2*rs.length:=by
 induction rs with
 |nil=>rfl
 |cons r rs ih=>rw[List.map_cons,List.flatten_cons,Gr,cO,ih,GR];exact jl [] [_] (.a aV bP) (.m 2 bc) [] rfl
theorem wz{T:List UInt8}:∀(rs:List Int),(∀r∈rs,0≤r∧r≤65535)→∀i:Nat,i<rs.length→some (rdE .H ((rs.map (le 2)).flatten++T) (T.length+2*rs.length-2*(i:Int)))=rs[i]?
 |[],_,i,hi=>by simp at hi
 |r::rs,h,i,hi=>by
  have hr:=h r GS;have hl:=kO rs
  cases i with
  |zero=>
   rw[List.map_cons,List.flatten_cons,GE];have:=kf (F:=.H) (T:=(rs.map (le 2)).flatten++T) hr.1 hr.2;have e:((T.length:Int)+2*((r::rs).length:Int)-2*((0:Nat):Int))=(((rs.map (le 2)).flatten++T).length:Int)+(Fm.H).w:=by
    rw[Gr,hl,GR];simp only[Fm.w];exact gL [] [_,_] (.s (.a af (.m 2 cv)) (.m 2 (.c ax))) (.a (.c (.a (.m 2 ae) ab)) (.c aV)) [] rfl
   rw[e];exact congrArg some this
  |succ i=>
   rw[List.map_cons,List.flatten_cons,GE,gT _ (by rw[Gr,hl,GR];exact lin [] [_,_,_] (.s (.a af (.m 2 cv)) (.m 2 (.c bf))) (.c (.a (.m 2 ae) ab)) 1 [] rfl)]
   have:=wz (T:=T) rs (fun x hx=>h x (GM _ hx)) i (by simpa using hi)
   rw[List.getElem?_cons_succ,←this,GR]
   congr 2
   exact gL [] [_,_,_] (.s (.a af (.m 2 cv)) (.m 2 (.c bf))) (.s (.a af bM) (.m 2 av)) [] rfl
theorem CY(a:Ab):∃x,(gY a 0).T=le 4 x++(List.replicate (kJ a.T.length 0 4).toNat 0++a.T):=⟨_,rfl⟩
theorem x7(a:Ab):((gY a 0).T.length:Int) % 4=0:=by
 have h:=kG a 0;have h2:=(cP a (s:=4) (add:=0) (by unfold jD;exact Or.inr (Or.inr (Or.inl (gL [] [] ap ap [] rfl))))).2
 have h3:kJ a.T.length 0 4=(-((a.T.length:Int)+0)) % 4:=rfl
 lia
structure FQ(a a':Ab)(l:List Int)(ob:Int):Prop where
 suf:∃X,a'.T=X++a.T
 tab:ut a'.T ob l
 vts:ur a'.T a'.vts
 vtn:a'.vts.length≤a.vts.length+1
 vk:∀x∈a'.vts,Dh x.1∧∃v,x.2=.int v∧0≤v∧v≤a'.T.length
 len:(a'.T.length:Int)≤a.T.length+11+2*l.length
 obl:ob≤a'.T.length
 vt:a'.vt=none
 nested:a'.nested=a.nested
 force:a'.force=a.force
 fin:a'.fin=a.fin
 mal:a'.mal=if a.mal<4 then 4 else a.mal
theorem oi{A U:List UInt8}{ob x:Int}(h:(U.length:Int)+4≤ob)(c3:ob≤(A++U).length):∃Y,fG (A++U) ob x=Y++U:=by
 unfold fG;have h2:(A++U).length-ob.toNat+4≤A.length:=by rw[Gr]at c3 ⊢;exact cG [_] [_,_,_,_] bY ae 1 [.i 1 bT aa,.e (-1) az aa,.f 1 (.a ab au) bz] rfl h (Gl (lin [_] [_] an aa 1 [.i 1 bu aa] rfl h)) (Go (cG [_] [_,_,_] ab bz 1 [.i 1 aa (.c bz),.e 1 af aa] rfl c3 (Gl (lin [_] [_] an aa 1 [.i 1 bu aa] rfl h))))
 refine⟨(A++U).take ((A++U).length-ob.toNat)++le 4 x++A.drop ((A++U).length-ob.toNat+4),?_⟩;rw[List.drop_append_of_le_length h2,GE,GE,GE]
theorem Bf{ks a0:List Int}{o o':Int}(h:kT (ks++[o])=kT (a0++[o'])):ks=a0:=by
 have:=qx.mp h;have:=congrArg List.dropLast this;simpa using this
theorem yR{es:List (P×P)}{k z:P}(h:iM es k=some z):(k,z)∈es:=by
 unfold iM at h
 cases q:es.find? fun x=>eqB x.1 k with
 |none=>rw[q]at h;exact ns h
 |some x=>
  rw[q]at h;obtain rfl:=sj h;have h1:=List.find?_some q;have h2:=List.mem_of_find?_eq_some q;have h3:=kr.mp h1;rw[←h3];exact h2
theorem pP{T:List UInt8}{ob vp:Int}{l:List Int}{ks:List Int}(h0:4≤ob)(h1:ob≤T.length)(hv:VtE T vp ks)(hs:rdE .i T ob=vp-ob)(hk:∃z l',l=l'++List.replicate z 0∧ks.reverse=l'.map (slf ob)):ut T ob l:=by
 obtain⟨v1,v2,v3,v4⟩:=hv;have e:ob+rdE .i T ob=vp:=by exact gL [_,_,_] [] bp aD [.e 1 am (.s aD aa)] rfl hs
 refine⟨h0,h1,by exact(lin [_,_,_] [_] aE bp 1 [.e (-1) am (.s aD aa),.i 1 (.m 2 bF) aD] rfl hs v1),by exact(lin [_,_,_] [_] bp af 1 [.e 1 am (.s aD aa),.i 1 aD af] rfl hs v2),fun i hi=>by rw[e]at hi ⊢;lia,fun i=>?_⟩
 rw[e,v3];refine e2b hk fun z l' e1 e2=>?_;have bh:l'.length=ks.length:=by have:=congrArg List.length e2;simpa using this.symm
 by_cases hi:i<ks.length
 ·rw[if_pos (by exact lin [] [_,_] (.a (.a ap (.m 2 af)) ao) (.m 2 bS) 1 [.j 2 bc ae] rfl hi)]
  have h3:=v4 i hi;rw[e2,GZ]at h3;have h4:l[i]?=l'[i]?:=by rw[e1,G7 (by exact Gp hi (GF (Eq.symm bh)))]
  rw[h4];rw[GD (by exact Gp hi (GF (Eq.symm bh)))]at h3 ⊢
  simp only[Option.map_some,Option.some.injEq]at h3;rw[h3];rfl
 ·rw[if_neg (by exact Int.not_lt.mpr (lin [] [_,_] (.m 2 bF) cu 1 [.j 2 ab ae] rfl (Nat.not_lt.mp hi)))]
  have h4:l[i]?=none∨l[i]?=some 0:=by
   rw[e1,List.getElem?_append_right (by exact Gp (GF bh) (Nat.not_lt.mp hi)),List.getElem?_replicate]
   split
   ·exact .inr rfl
   ·exact .inl rfl
  rcases h4 with h4|h4<;>rw[h4];rfl
end
section
theorem rj(ks:List Int)(a:Ab)(h:2≤a.mal):(ef a ks).mal=a.mal∧(ef a ks).vts=a.vts∧(ef a ks).nested=a.nested∧(ef a ks).force=a.force∧(ef a ks).fin=a.fin:=by
 induction ks generalizing a with
 |nil=>exact⟨rfl,rfl,rfl,rfl,rfl⟩
 |cons k ks ih=>
  have e:(cD a .H k).mal=a.mal:=if_neg (Int.not_lt.mpr h);have h0:=ih (cD a .H k) (by rw[e];exact h)
  exact⟨h0.1.trans e,h0.2⟩
theorem x8(a:Ab):(gY a 0).mal=if a.mal<4 then 4 else a.mal:=rfl
theorem wg{l:List Int}{ob:Int}(h:∀e∈l,e=0∨(0<e∧e≤ob∧ob-e≤65535)):∀r∈(gG ob true l.reverse).reverse,0≤r∧r≤65535:=by
 refine e2b (sZ ob l) fun z l' e1 e2=>?_;rw[e2];intro r hr;refine e1b (List.mem_map.mp hr) fun q hq b6=>?_;clear hr e2;subst b6;have:=h q (by rw[e1];exact List.mem_append_left _ hq)
 unfold slf;clear h hq e1 l' z;split
 ·exact GK (lin [] [] an an 1 [] rfl) (lin [] [] an (.n 65535) 1 [] rfl)
 ·clear l;rcases this with h'|h'<;>(first|exact(GK (False.elim (v8 [_] [] [.e (-1) aa an,.i 1 bi an] rfl h' (Int.lt_iff_le_and_ne.mpr (GK ((G6 h')) (by assumption))))) (False.elim (v8 [_] [] [.e (-1) aa an,.i 1 bi an] rfl h' (Int.lt_iff_le_and_ne.mpr (GK ((G6 h')) (by assumption))))))|exact GK (lin [_,_] [] an bn 1 [.i 1 am aa] rfl (Gz (Gu h'))) ((Gu (Gu h'))))
theorem Ck{a:Ab}{l:List Int}{e0:Int}(hp:zg a l e0)(hv:ur a.T a.vts):FQ a (wvA a l e0) l (gY a 0).T.length:=by
 obtain⟨ar,c2,dt,df,ah,ct⟩:=hp;refine e1a (CY a) fun x b7=>?_;have ag:=x7 a;have a3:=kG a 0;have hq:=cP a (s:=4) (add:=0) (by unfold jD;exact Or.inr (Or.inr (Or.inl (gL [] [] ap ap [] rfl))))
 have a4:=c5 (n:=a.T.length) (add:=0) (s:=4) (by unfold jD;exact Or.inr (Or.inr (Or.inl (gL [] [] ap ap [] rfl))))
 have e8:=sZ (gY a 0).T.length l;have a5:=wg dt;have cf:=qv (gY a 0).T.length true l.reverse;rw[List.length_reverse]at cf;have e4:=x8 a;have f1:(gY a 0).vts=a.vts:=rfl;have f2:(gY a 0).nested=a.nested:=rfl;have f3:(gY a 0).force=a.force:=rfl;have f4:(gY a 0).fin=a.fin:=rfl;generalize hw:wvA a l e0=a';unfold wvA wvC Ae at hw;rw[f1]at hw;generalize ep:gY a 0=a1 at *;generalize c3:(a1.T.length:Int)=ob at *;generalize hk:gG ob true l.reverse=key at *;have aw:∀{T:List UInt8} {vts:List (P×P)},ur T vts→∀x∈vts,Dh x.1∧∃v,x.2=.int v∧0≤v∧v≤T.length:=fun hE y hy=>by
  refine e3c (hE y hy) fun ks ac vp g1 g2 g3=>?_;have:=g3.lo;have:=g3.hi;exact⟨⟨_,g1⟩,vp,g2,by exact(lin [_] [_] an aa 1 [.i 1 (.m 2 bF) aa] rfl (by assumption)),by exact this⟩
 cases hd:iM a.vts (kT (key++[ob-e0]))with
 |some z=>
  have b4:=yR hd;refine e3c (hv _ b4) fun ks ac vp g1 g2 g3=>?_;have hks:key=ks:=Bf g1;clear hk ep g1 ct ah df dt b4 ag ac;subst hks;dsimp only at g2;subst g2;rw[hd]at hw;have hw:{a1 with T:=fG a1.T ob (vp-ob),vt:=none}=a':=hw;subst hw;have hA:a1.T=(le 4 x++List.replicate (kJ a.T.length 0 4).toNat 0)++a.T:=by rw[b7,GE]
  obtain⟨Y,hY⟩:∃Y,fG a1.T ob (vp-ob)=Y++a.T:=by
   rw[hA];exact oi (by exact lin [_] [_,_] bu aa 1 [.i 1 af ak,.e (-1) aa bB] rfl (Gz hq) a3) (by rw[←hA];exact(G6 (Eq.symm c3)))
  have a0:=i8 (T:=a1.T) (ob:=ob) (x:=vp-ob) (by exact lin [_] [_,_] ap aa 1 [.i 1 af ak,.e (-1) aa bB] rfl (Gz hq) a3) (by exact(G6 (Eq.symm c3)))
  have g4:=g3.app Y;rw[←hY]at g4;have g5:=g3.hi;have g6:=g3.lo;exact{
   suf:=⟨Y,hY⟩
   tab:=pP (by exact lin [_,_] [_,_,_] ap aa 1 [.i 1 af ak,.e (-1) aa bB,.i 1 am af,.i 1 (.m 2 bL) am] rfl (Gz hq) a3 g5 g6) (by refine(?_:ob≤((fG a1.T ob (vp-ob)).length:Int));exact lin [_] [_,_] aa af 1 [.e (-1) ak aa,.f (-1) ab ae] rfl c3 a0) g4 (p0 (by exact lin [_,_] [_,_,_] ap aa 1 [.i 1 af ak,.e (-1) aa bB,.i 1 am af,.i 1 (.m 2 bL) am] rfl (Gz hq) a3 g5 g6) (by exact(G6 (Eq.symm c3))) (by exact lin [_,_,_] [_,_,_] ay bn 1 [.j 1 ab aS,.e 1 ak (.a af aD),.i 1 bQ ap,.e 1 am bB,.i 1 (.m 2 bL) aa] rfl ar (Gu hq) (Gu a4) a3 g6) (by exact lin [_,_] [_,_] bn aQ 1 [.i 1 af ak,.e (-1) am bB,.i 1 aa af] rfl (Gz hq) a3 g5)) e8
   vts:=by refine(?_:ur (fG a1.T ob (vp-ob)) a1.vts);rw[hY,f1];exact hv.app Y
   vtn:=by refine(?_:a1.vts.length≤_);rw[f1];exact cG [] [_] ab bc 1 [] rfl
   vk:=by
    have:ur (fG a1.T ob (vp-ob)) a1.vts:=by rw[hY,f1];exact hv.app Y
    exact aw this
   len:=by refine(?_:((fG a1.T ob (vp-ob)).length:Int)≤_);exact lin [_,_] [_,_,_,_,_] af (.a (.a ak (.n 11)) (.m 2 av)) 1 [.e 1 az bE,.i 1 bi ap,.e 1 aR am,.e 1 am bZ,.f 1 ab aB] rfl (Gu hq) (Gu a4) c3 a3 a0
   obl:=by refine(?_:ob≤((fG a1.T ob (vp-ob)).length:Int));exact lin [_] [_,_] aa af 1 [.e (-1) ak aa,.f (-1) ab ae] rfl c3 a0
   vt:=rfl
   nested:=f2
   force:=f3
   fin:=f4
   mal:=e4}
 |none=>
  rw[hd]at hw;have hw:{nE a1 key (ob-e0)with T:=fG (nE a1 key (ob-e0)).T ob ((nE a1 key (ob-e0)).T.length-ob),vts:=pH a1.vts (kT (key++[ob-e0])) (.int (nE a1 key (ob-e0)).T.length),vt:=none}=a':=hw;unfold nE at hw;rw[f1]at hw;have dx:2≤a1.mal:=by rw[e4];clear ct ah df dt ar f1 ag;split<;>(first|exact(lin [] [] aE ap 1 [] rfl)|exact lin [_] [] aE aa 1 [.i 1 ap aa] rfl (Int.not_lt.mp (by assumption)))
  refine e0e (rj key a1 dx) fun s1 s2 s3 s4 s5=>?_;refine e0b (xr key a1 (by lia)) fun t1 t2=>?_
  have e1:=AU (ef a1 key) (ob-e0) (by lia)
  have l1:(cD (ef a1 key) .H (ob-e0)).T.length=(ef a1 key).T.length+2:=by rw[e1,Gr,cO];exact jl [] [_] (.a aV ab) (.a ab aV) [] rfl
  have e2:=AU (cD (ef a1 key) .H (ob-e0)) (((key.length:Int)+2)*2) (by lia)
  have l2:(cD (cD (ef a1 key) .H (ob-e0)) .H (((key.length:Int)+2)*2)).T.length=(ef a1 key).T.length+4:=by rw[e2,Gr,cO];exact jl [] [_,_] (.a aV ab) (.a ae aC) [.f 1 ab (.a ae aV)] rfl l1
  have m1:(cD (ef a1 key) .H (ob-e0)).mal=a1.mal:=(if_neg (by refine(?_:¬(ef a1 key).mal<2);exact Int.not_lt.mpr (G9 dx (G6 (Eq.symm s1))))).trans s1
  have m2:(cD (cD (ef a1 key) .H (ob-e0)) .H (((key.length:Int)+2)*2)).mal=a1.mal:=(if_neg (by refine(?_:¬(cD (ef a1 key) .H (ob-e0)).mal<2);exact Int.not_lt.mpr (G9 dx (G6 (Eq.symm m1))))).trans m1
  have n1:(cD (cD (ef a1 key) .H (ob-e0)) .H (((key.length:Int)+2)*2)).nested=a1.nested:=s3;have n2:(cD (cD (ef a1 key) .H (ob-e0)) .H (((key.length:Int)+2)*2)).force=a1.force:=s4;have n3:(cD (cD (ef a1 key) .H (ob-e0)) .H (((key.length:Int)+2)*2)).fin=a1.fin:=s5;clear ct ah df dt ar m1 l1 dx f1 ag;generalize cD (cD (ef a1 key) .H (ob-e0)) .H (((key.length:Int)+2)*2)=a2 at *;rw[e1,t1]at e2;have hA:a2.T=(le 2 (((key.length:Int)+2)*2)++(le 2 (ob-e0)++((key.reverse.map (le 2)).flatten++(le 4 x++List.replicate (kJ a.T.length 0 4).toNat 0))))++a.T:=by
   rw[e2,b7];simp only[GE]
  have b5:(a2.T.length:Int)=ob+2*key.length+4:=by exact gL [_] [_,_,_,_] af (.a (.a aa bM) ap) [.e 1 av aa,.f 1 au (.a aj (.m 2 ae)),.f 1 ab bC] rfl c3 t2 l2
  clear b5 e1;obtain⟨Y,hY⟩:∃Y,fG a2.T ob (a2.T.length-ob)=Y++a.T:=by
   rw[hA];exact oi (by exact lin [_] [_,_] bu aa 1 [.i 1 af ak,.e (-1) aa bB] rfl (Gz hq) a3) (by rw[←hA];exact lin [_] [_,_,_,_] aa af 1 [.e (-1) ak aa,.f (-1) au cm,.f (-1) ab bC] rfl c3 t2 l2)
  have a0:=i8 (T:=a2.T) (ob:=ob) (x:=(a2.T.length:Int)-ob) (by exact lin [_] [_,_] ap aa 1 [.i 1 af ak,.e (-1) aa bB] rfl (Gz hq) a3) (by exact lin [_] [_,_,_,_] aa af 1 [.e (-1) ak aa,.f (-1) au cm,.f (-1) ab bC] rfl c3 t2 l2)
  have b6:VtE (fG a2.T ob (a2.T.length-ob)) a2.T.length key:=by
   refine⟨by exact(lin [_] [_,_,_,_,_,_] (.m 2 bF) ak 1 [.i 1 av az,.e (-1) aR aa,.e (-1) aa bZ,.f (-1) aM (.a aB bP),.f (-1) ae (.a aM aC)] rfl (Gz hq) c3 a3 t2 l2),by exact(lin [] [_,_] af ak 1 [.f (-1) ae ab] rfl a0),?_,fun i hi=>?_⟩
   ·rw[lI (by exact lin [_] [_,_] ap aa 1 [.i 1 af ak,.e (-1) aa bB] rfl (Gz hq) a3) (by exact lin [_] [_,_,_,_] aa af 1 [.e (-1) ak aa,.f (-1) au cm,.f (-1) ab bC] rfl c3 t2 l2) (by simp only[Fm.w];exact lin [_] [_,_,_,_] aa (.s af (.c aV)) 1 [.e (-1) ak aa,.f (-1) au cm,.f (-1) ab bC] rfl c3 t2 l2) (by exact lin [] [_] af af 1 [] rfl)]
    have:=kf (F:=.H) (T:=le 2 (ob-e0)++((key.reverse.map (le 2)).flatten++a1.T)) (x:=((key.length:Int)+2)*2) (by simp only[Fm.lo];exact lin [] [_] an (.r bF 2) 1 [] rfl) (by simp only[Fm.hi];exact lin [] [_,_] (.r bF 2) (.n 65535) 1 [.j 2 ae aJ,.j 2 ab ae] rfl c2 cf)
    have e3:(a2.T.length:Int)=(le 2 (ob-e0)++((key.reverse.map (le 2)).flatten++a1.T)).length+(Fm.H).w:=by
     rw[Gr,Gr,cO,kO,List.length_reverse];simp only[Fm.w];exact gL [] [_,_,_,_] af (.a (.c (.a aV (.a (.m 2 ae) aj))) (.c aV)) [.f 1 au (.a aj (.m 2 ae)),.f 1 ab bC] rfl t2 l2
    rw[e3,e2];exact this.trans (by exact gL [] [_] (.r bF 2) (.m 2 bF) [] rfl)
   ·rw[lI (by exact lin [_] [_,_] ap aa 1 [.i 1 af ak,.e (-1) aa bB] rfl (Gz hq) a3) (by exact lin [_] [_,_,_,_,_] aa af 1 [.e (-1) ak aa,.f (-1) au cm,.f (-1) ab bC,.j 2 (.a aB ai) aj] rfl c3 t2 l2 hi) (by simp only[Fm.w];exact lin [_] [_,_,_,_,_] aa (.s (.s af cu) (.c aV)) 1 [.e (-1) av aa,.f (-1) aB (.a aj (.m 2 au)),.f (-1) ab (.a aB aC),.j 2 be au] rfl c3 t2 l2 hi) (by exact lin [] [_,_] (.s af cu) af 1 [] rfl)]
    have:=wz (T:=a1.T) key.reverse a5 i (by rw[List.length_reverse];exact hi)
    rw[←this,e2,gT _ (by simp only[Gr,cO,kO,List.length_reverse];exact lin [] [_,_,_] (.s (.c (.a aV (.a aV (.a bP ae)))) (.a ap (.m 2 av))) (.c (.a aV (.a bP ae))) 1 [] rfl),gT _ (by simp only[Gr,cO,kO,List.length_reverse];exact lin [] [_,_,_] (.s (.c (.a aV (.a aV (.a bP ae)))) (.a ap (.m 2 av))) (.c (.a bP ae)) 1 [] rfl),List.length_reverse]
    congr 2
    simp only[Gr,cO,kO,List.length_reverse];exact gL [] [_,_,_] (.s (.c (.a aV (.a aV (.a bP ae)))) (.a ap (.m 2 av))) (.s (.a ak (.m 2 af)) (.m 2 av)) [] rfl
  have b3:ur (fG a2.T ob (a2.T.length-ob)) (pH a.vts (kT (key++[ob-e0])) (.int a2.T.length)):=by
   have hds:pH a.vts (kT (key++[ob-e0])) (.int a2.T.length)=a.vts++[(kT (key++[ob-e0]), .int a2.T.length)]:=by unfold pH;rw[hd]
   rw[hds];intro y hy;rcases List.mem_append.mp hy with hy|hy
   ·have:=hv.app Y;rw[←hY]at this;exact this y hy
   ·simp at hy;clear hk ep hv;subst hy;exact⟨key,ob-e0,a2.T.length,rfl,rfl,b6⟩
  subst hw;exact{
   suf:=⟨Y,hY⟩
   tab:=pP (by exact lin [_] [_,_] ap aa 1 [.i 1 af ak,.e (-1) aa bB] rfl (Gz hq) a3) (by refine(?_:ob≤((fG a2.T ob (a2.T.length-ob)).length:Int));exact lin [_] [_,_,_,_,_] aa af 1 [.e (-1) ak aa,.f (-1) au cm,.f (-1) aB bC,.f (-1) ab aB] rfl c3 t2 l2 a0) b6 (p0 (by exact lin [_] [_,_] ap aa 1 [.i 1 af ak,.e (-1) aa bB] rfl (Gz hq) a3) (by exact lin [_] [_,_,_,_] aa af 1 [.e (-1) ak aa,.f (-1) au cm,.f (-1) ab bC] rfl c3 t2 l2) (by exact lin [_] [_,_,_,_] ay bl 1 [.e (-1) ak aa,.f (-1) au cm,.f (-1) ab bC] rfl c3 t2 l2) (by exact lin [_] [_,_,_,_,_] bl aQ 1 [.j 2 ae aJ,.e 1 av aa,.j 2 au ae,.f 1 aB (.a aj (.m 2 au)),.f 1 ab (.a aB aC)] rfl c2 c3 cf t2 l2)) e8
   vts:=b3
   vtn:=by
    refine(?_:(pH a.vts _ _).length≤_);unfold pH;rw[hd];simp
   vk:=aw b3
   len:=by refine(?_:((fG a2.T ob (a2.T.length-ob)).length:Int)≤_);exact lin [_,_] [_,_,_,_,_,_,_,_] af (.a (.a ak (.n 11)) (.m 2 av)) 1 [.e 1 az bE,.i 1 bi ap,.e 1 aR am,.e 1 am bZ,.j 2 aM aj,.f 1 (.v 6) (.a aB (.m 2 aM)),.f 1 (.v 7) (.a (.v 6) aC),.f 1 ab (.v 7)] rfl (Gu hq) (Gu a4) c3 a3 cf t2 l2 a0
   obl:=by refine(?_:ob≤((fG a2.T ob (a2.T.length-ob)).length:Int));exact lin [_] [_,_,_,_,_] aa af 1 [.e (-1) ak aa,.f (-1) au cm,.f (-1) aB bC,.f (-1) ab aB] rfl c3 t2 l2 a0
   vt:=rfl
   nested:=n1.trans f2
   force:=n2.trans f3
   fin:=n3.trans f4
   mal:=m2.trans e4}
end
section
structure FldE(F:Fm)(T:List UInt8)(q v:Int):Prop where
 lo:(F.w:Int)≤q
 hi:q≤T.length
 rd:rdE F T q=v
theorem FldE.app{F:Fm}{T:List UInt8}{q v:Int}(h:FldE F T q v)(X:List UInt8):FldE F (X++T) q v:=
 ⟨h.lo,by have:=h.hi;rw[Gr];exact(lin [_] [_,_] aa (.c bg) 1 [.i 1 aa ak] rfl this),(gT X h.hi).trans h.rd⟩
theorem FldE.suf{F:Fm}{T T':List UInt8}{q v:Int}(h:FldE F T q v)(hs:∃X,T'=X++T):FldE F T' q v:=by refine e1a hs fun X a3=>?_;clear hs;subst a3;exact h.app X
theorem ut.suf{T T':List UInt8}{p:Int}{L:List Int}(h:ut T p L)(hs:∃X,T'=X++T):ut T' p L:=by refine e1a hs fun X a3=>?_;clear hs;subst a3;exact h.app X
theorem szF(F:Fm):jD F.w:=by cases F<;>simp[jD,Fm.w]
structure Sm(a a':Ab):Prop where
 suf:∃X,a'.T=X++a.T
 vt:a'.vt=a.vt
 nested:a'.nested=a.nested
 oe:a'.oe=a.oe
 force:a'.force=a.force
 fin:a'.fin=a.fin
 vts:a'.vts=a.vts
 mal:jD a.mal→jD a'.mal
theorem Sm.refl(a:Ab):Sm a a:=⟨⟨[],rfl⟩,rfl,rfl,rfl,rfl,rfl,rfl,fun h=>h⟩
theorem Sm.trans{a b c:Ab}(h:Sm a b)(h':Sm b c):Sm a c:=by
 refine e1a h.suf fun X hX=>?_;refine e1a h'.suf fun Y hY=>?_;exact⟨⟨Y++X,by rw[hY,hX,GE]⟩,h'.vt.trans h.vt,h'.nested.trans h.nested,h'.oe.trans h.oe,h'.force.trans h.force,h'.fin.trans h.fin,h'.vts.trans h.vts,fun q=>h'.mal (h.mal q)⟩
theorem iU(a:Ab){s add:Int}(hs:jD s):Sm a (cI a s add):=⟨⟨_,rfl⟩,rfl,rfl,rfl,rfl,rfl,rfl,fun h=>by
 refine(?_:jD (if a.mal<s then s else a.mal))
 split
 ·exact hs
 ·exact h⟩
theorem jE(a:Ab)(F:Fm)(x:Int):Sm a (du a F x):=⟨⟨_,rfl⟩,rfl,rfl,rfl,rfl,rfl,rfl,fun h=>h⟩
theorem lq(a:Ab)(F:Fm)(x:Int):Sm a (cD a F x):=(iU a (szF F)).trans (jE _ F x)
theorem kc(a:Ab)(off:Int):Sm a (fF a off):=(iU a (s:=4) sz4).trans (jE _ _ _)
theorem rE(a:Ab)(F:Fm)(x:Int):(a.T.length:Int)+F.w≤(cD a F x).T.length∧((cD a F x).T.length:Int)≤a.T.length+16:=by
 have h:=cP a (s:=F.w) (add:=0) (szF F);have h2:=c5 (n:=a.T.length) (add:=0) (s:=F.w) (szF F);have e:((cD a F x).T.length:Int)=(cI a F.w 0).T.length+F.w:=by
  refine(?_:((le F.w _++(cI a F.w 0).T).length:Int)=_);rw[Gr,cO];exact gL [] [_,_] (.c bg) (.a ak af) [] rfl
 have h3:=szF F;unfold jD at h3
 lia
theorem rF(a:Ab){F:Fm}{x:Int}(h0:F.lo≤x)(h1:x≤F.hi):FldE F (cD a F x).T (cD a F x).T.length x:=by
 have e:((cD a F x).T.length:Int)=(cI a F.w 0).T.length+F.w:=by
  refine(?_:((le F.w _++(cI a F.w 0).T).length:Int)=_);rw[Gr,cO];exact gL [] [_,_] (.c bg) (.a ak af) [] rfl
 refine⟨by exact(lin [] [_,_,_] af ak 1 [.e (-1) ak (.a av af)] rfl e),GP _,?_⟩
 rw[e];exact kf h0 h1
theorem jG(a:Ab)(off:Int):((fF a off).T.length:Int)=(cI a 4 0).T.length+4∧(a.T.length:Int)+4≤(fF a off).T.length∧((fF a off).T.length:Int)≤a.T.length+8:=by
 have h:=cP a (s:=4) (add:=0) sz4;have h2:=c5 (n:=a.T.length) (add:=0) (s:=4) sz4;have e:((fF a off).T.length:Int)=(cI a 4 0).T.length+4:=by
  refine(?_:((le 4 _++(cI a 4 0).T).length:Int)=_);rw[Gr,cO];exact gL [] [_] (.c (.a aC ab)) bu [] rfl
 exact GK (e) (GK (lin [] [_,_,_] bu ak 1 [.i 1 af av,.e (-1) ak bT] rfl (Gz h) e) (lin [_] [_,_,_] af b8 1 [.e 1 av bE,.i 1 bi ap,.e 1 af bT] rfl (Gu h) (Gu h2) e))
theorem oY(a:Ab){off:Int}(h0:0≤off)(h1:off≤(cI a 4 0).T.length)(h2:a.T.length≤1048576):FldE .I (fF a off).T (fF a off).T.length ((fF a off).T.length-off):=by
 have e:=jG a off;refine⟨by simp only[Fm.w];exact(lin [_] [_,_] (.c aC) af 1 [.i 1 an aa,.i 1 aa ak,.e (-1) af bB] rfl h0 h1 (Gz e)),GP _,?_⟩
 have h3:=kf (F:=.I) (T:=(cI a 4 0).T) (x:=(cI a 4 0).T.length-off+4) (by simp only[Fm.lo];exact lin [_] [_] an cq 1 [.i 1 aa af] rfl h1) (by simp only[Fm.hi];exact lin [_] [_,_,_] cq aP 1 [.i 1 an aa,.j 1 ae aF,.e (-1) av bu,.i 1 av b8] rfl h0 h2 (Gz e) (Gu (Gu e)))
 rw[e.1];have e2:((cI a 4 0).T.length:Int)+4=(cI a 4 0).T.length+(Fm.I).w:=rfl;exact h3.trans (by exact gL [_] [_] cq (.s bu aa) [] rfl)
structure oI(a0 a:Ab)(l:List Int):Prop where
 suf:∃X,a.T=X++a0.T
 vt:a.vt=some l
 oe:a.oe=.int a0.T.length
 nested:a.nested=true
 force:a.force=a0.force
 fin:a.fin=a0.fin
 vts:a.vts=a0.vts
 mal:jD a.mal
 ent:∀q∈l,q=0∨((a0.T.length:Int)<q∧q≤a.T.length)
theorem oI.start{a0:Ab}(hm:jD a0.mal)(n:Int):oI a0 (cR a0 n) (List.replicate n.toNat 0):=
 ⟨⟨[],rfl⟩,rfl,rfl,rfl,rfl,rfl,rfl,hm,fun q hq=>.inl (List.eq_of_mem_replicate hq)⟩
theorem oI.step{a0 a a':Ab}{l:List Int}(h:oI a0 a l)(hs:Sm a a')(o:Int)(hl:a.T.length<a'.T.length):oI a0 (lV a' o) (l.set o.toNat a'.T.length):=by
 refine e1a h.suf fun X hX=>?_;refine e1a hs.suf fun Y hY=>?_;have bh:a0.T.length≤a.T.length:=by rw[hX,Gr];exact cG [] [_,_] ab (.a ae ab) 1 [] rfl
 refine⟨⟨Y++X,by refine(?_:a'.T=_);rw[hY,hX,GE]⟩,?_,hs.oe.trans h.oe,hs.nested.trans h.nested,hs.force.trans h.force,hs.fin.trans h.fin,hs.vts.trans h.vts,hs.mal h.mal,fun q hq=>?_⟩
 ·refine(?_:a'.vt.map _=_);rw[hs.vt,h.vt];rfl
 ·refine(?_:q=0∨_∧q≤(a'.T.length:Int));rcases List.mem_or_eq_of_mem_set hq with hq|rfl
  ·rcases h.ent q hq with h1|h1
   ·exact .inl h1
   ·exact .inr ⟨h1.1,by exact lin [_] [_,_] aa af 1 [.j 1 be ab,.i 1 aa ak] rfl hl (Gu h1)⟩
  ·exact .inr ⟨by exact(lin [] [_,_,_] bv ak 1 [.j 1 bf ae,.j 1 ab aj] rfl hl bh),GP _⟩
theorem oI.pre{a0 a:Ab}{l:List Int}(h:oI a0 a l)(hb:a.T.length≤a0.T.length+2000)(hT:a0.T.length≤100000)(hl:l.length≤1000)(hv:ur a0.T a0.vts)(hn:a0.vts.length≤100000):zg {a with nested:=false} l a0.T.length:=by
 have a3:=kG {a with nested:=false} 0;have hq:=cP {a with nested:=false} (s:=4) (add:=0) sz4;have a4:=c5 (n:=a.T.length) (add:=0) (s:=4) sz4;dsimp only at hq;refine e1a h.suf fun X hX=>?_;have bh:a0.T.length≤a.T.length:=by rw[hX,Gr];exact cG [] [_,_] ab (.a ae ab) 1 [] rfl
 refine⟨by refine(?_:a.T.length≤_);exact(cG [] [_,_] ab aS 1 [.j 1 ab (.a ae (.n 2000)),.j 1 ae a7] rfl hb hT),hl,fun e he=>?_,by exact(GK (lin [] [_,_,_,_] an (.s af ak) 1 [.e (-1) af bT,.i 1 az av,.j 1 ae au] rfl a3 (Gz hq) bh) (lin [_] [_,_,_,_] (.s af ak) (.n 65535) 1 [.j 1 aj (.a ae (.n 2000)),.e 1 af bZ,.e 1 az (.a av aa),.i 1 bi ap] rfl hb a3 (Gu hq) (Gu a4))),fun x hx=>?_,by refine(?_:a.vts.length≤_);rw[h.vts];exact hn⟩
 ·rcases h.ent e he with h1|h1
  ·exact .inl h1
  ·exact .inr (by exact GK (lin [_] [_] bt aa 1 [.i 1 bv aa] rfl (Gz h1)) (GK (lin [_] [_,_,_] aa af 1 [.e (-1) af bB,.i 1 av ak,.i 1 aa av] rfl a3 (Gz hq) (Gu h1)) (lin [_,_] [_,_,_,_] bl (.n 65535) 1 [.j 1 ae (.a aj (.n 2000)),.e 1 af bZ,.e 1 az bK,.i 1 bA ap,.i 1 (.a av ao) aa] rfl hb a3 (Gu hq) (Gu a4) (Gz h1))))
 ·have hx:x∈a0.vts:=by rw[←h.vts];exact hx
  refine e3c (hv x hx) fun ks ac vp g1 g2 g3=>?_;have:=g3.lo;have:=g3.hi;exact⟨⟨_,g1⟩,vp,g2,by exact(lin [_] [_] an aa 1 [.i 1 (.m 2 bF) aa] rfl (by assumption)),by exact lin [_] [_] aa aH 1 [.j 1 ab a7,.i 1 aa af] rfl hT this⟩
def B7(F:Fm)(T:List UInt8)(p q v:Int):Prop:=(q=0∧v=0)∨(q≠0∧q<p∧FldE F T q v)
theorem B7.suf{F:Fm}{T T':List UInt8}{p q v:Int}(h:B7 F T p q v)(hs:∃X,T'=X++T):B7 F T' p q v:=by
 rcases h with h|⟨h1,h2,h3⟩
 ·exact .inl h
 ·exact .inr ⟨h1,h2,h3.suf hs⟩
def FV(F:Fm)(T:List UInt8)(q v:Int):Prop:=(q=0∧v=0)∨(q≠0∧q≤T.length∧FldE F T q v)
theorem FV.num{F:Fm}{T T':List UInt8}{q v p:Int}(h:FV F T q v)(hs:∃X,T'=X++T)(hp:(T.length:Int)<p):B7 F T' p q v:=by
 rcases h with h|⟨h1,h2,h3⟩
 ·exact .inl h
 ·exact .inr ⟨h1,by exact(lin [_,_] [_] bi am 1 [.i 1 bv am,.i 1 aa af] rfl hp h2),h3.suf hs⟩
theorem xQ{l:List Int}{o:Nat}{q:Int}(h:l[o]?=some q):l.set o q=l:=by
 apply List.ext_getElem?;intro i;by_cases e:o=i
 ·subst e;rw[List.getElem?_set_self (List.getElem?_eq_some_iff.mp h).1,h]
 ·rw[GU e]
structure xd(a0 a a':Ab)(l':List Int)(n:Nat):Prop where
 inv:oI a0 a' l'
 suf:∃X,a'.T=X++a.T
 len:a'.T.length≤a.T.length+n
theorem qa{a0 a:Ab}{l:List Int}{F:Fm}{o x:Int}(O:oI a0 a l)(hf:a.force=false)(h0:F.lo≤x)(h1:x≤F.hi)(hl:l[o.toNat]?=some 0) :
  ∃q,xd a0 a (eA a F o x 0) (l.set o.toNat q) 16∧FV F (eA a F o x 0).T q x:=by
 have c2:=rE a F x;have hw:=szF F;unfold jD at hw;by_cases h:x=0
 ·have e:eA a F o x 0=a:=if_neg (by simp[h,hf])
  rw[e];exact⟨0,⟨by rw[xQ hl];exact O,⟨[],rfl⟩,by exact cG [] [_] ab (.a ab (.n 16)) 1 [] rfl⟩, .inl ⟨rfl,h⟩⟩
 ·have e:eA a F o x 0=lV (cD a F x) o:=if_pos (.inl h);rw[e];refine⟨(cD a F x).T.length,⟨O.step (lq a F x) o (by lia),(lq a F x).suf,?_⟩, .inr ⟨by lia,GP _,rF a h0 h1⟩⟩
  refine(?_:(cD a F x).T.length≤_);exact cG [] [_,_] ab (.a ae (.n 16)) 1 [.i 1 af (.a ak (.n 16))] rfl (Gu c2)
theorem pJ{a0 a:Ab}{l:List Int}{o x:Int}(O:oI a0 a l)(h0:0<x)(h1:x≤a.T.length)(h2:a.T.length≤1048576) :
  ∃q,xd a0 a (dA a o x 0) (l.set o.toNat q) 8∧q≠0∧q≤(dA a o x 0).T.length∧FldE .I (dA a o x 0).T q (q-x)∧(dA a o x 0).force=a.force:=by
 have c2:=cP a (s:=4) (add:=0) (by unfold jD;exact Or.inr (Or.inr (Or.inl (gL [] [] ap ap [] rfl))))
 have a3:=jG a x;have e:dA a o x 0=lV (fF a x) o:=if_pos (.inl (by exact Int.ne_of_gt (h0)))
 rw[e];refine⟨(fF a x).T.length,⟨O.step (kc a x) o (by exact cG [] [_,_,_] bc ae 1 [.i 1 af av,.e (-1) ak bT] rfl (Gz c2) (Gz a3)),(kc a x).suf,?_⟩,by exact(Int.ne_of_gt (lin [_] [_,_,_] bt af 1 [.i 1 bt aa,.i 1 aa ak,.i 1 ak av,.e (-1) af bT] rfl h0 h1 (Gz c2) (Gz a3))),GP _,oY a (by exact lin [_] [] an aa 1 [.i 1 bt aa] rfl h0) (by exact G9 h1 (Gz c2)) h2,rfl⟩
 refine(?_:(fF a x).T.length≤_);exact cG [] [_,_] ab (.a ae (.n 8)) 1 [.i 1 af b8] rfl (Gu (Gu a3))
theorem lO{F:Fm}{d:List UInt8}{q v:Int}(h:FldE F d q v)(hd:d.length≤16777216):inB F d (d.length-q)∧rdF F d (d.length-q)=v:=by
 have h1:=h.lo;have h2:=h.hi;exact⟨⟨by exact(lin [_] [_] an bl 1 [.i 1 aa af] rfl h2),by exact(lin [_] [_,_] (.a bl ak) af 1 [.i 1 ak aa] rfl h1),hd⟩,(ya (by exact lin [_] [_] an aa 1 [.i 1 af aa] rfl h1) h2).trans h.rd⟩
noncomputable def E2(p:Int)(L:List Int)(i:Nat):Int:=match L[i]? with|some q=>if q=0 then 0 else p-q|none=>0
theorem vF{d:List UInt8}{p:Int}{L:List Int}(h:ut d p L)(hd:d.length≤16777216)(i:Nat):oG d (d.length-p) (4+2*i)∧nY d (d.length-p) (4+2*i)=E2 p L i:=by
 obtain⟨h1,h2,h3,h4,h5,h6⟩:=h;have e1:rdF .i d (d.length-p)=rdE .i d p:=ya (by exact lin [_] [] an aa 1 [.i 1 ap aa] rfl h1) h2
 have e2:ux d (d.length-p)=d.length-(p+rdE .i d p):=by unfold ux;rw[e1];exact gL [_,_] [_] (.s bl am) (.s af bp) [] rfl
 have e3:rdF .H d (ux d (d.length-p))=rdE .H d (p+rdE .i d p):=by rw[e2];exact ya (by exact lin [_,_] [] an bp 1 [.i 1 aE bp] rfl h3) h4
 have e4:(4+2*(i:Int))<rdE .H d (p+rdE .i d p)→ux d (d.length-p)+(4+2*i)=d.length-(p+rdE .i d p-(4+2*i)):=fun h=>by rw[e2];exact gL [_,_] [_,_] (.a (.s af bp) cu) (.s af (.s bp cu)) [] rfl
 refine⟨⟨⟨by exact(lin [_] [_] an bl 1 [.i 1 aa af] rfl h2),by simp only[Fm.w];exact(lin [_] [_] (.a bl (.c aC)) af 1 [.i 1 ap aa] rfl h1),hd⟩,⟨by rw[e2];exact(lin [_,_] [_] an (.s af bp) 1 [.i 1 bp af] rfl h4),by rw[e2];simp only[Fm.w];exact(lin [_,_] [_] (.a (.s af bp) (.c aV)) af 1 [.i 1 aE bp] rfl h3),hd⟩,fun hv=>?_⟩,?_⟩
 ·rw[e3]at hv;have:=h5 i hv;rw[e4 hv];exact⟨by exact(lin [_,_] [_,_] an (.s af (.s bp cu)) 1 [.i 1 bp af] rfl h4),by simp only[Fm.w];exact(lin [_,_] [_,_] (.a (.s af (.s bp cu)) (.c aV)) af 1 [.i 1 (.a cu aE) bp] rfl this),hd⟩
 ·have h6:=h6 i;refine Eq.trans ?_ h6;unfold nY;rw[e3];clear hd;split
  ·rename_i hv
   have:=h5 i hv;rw[e4 hv];exact ya (by exact lin [_,_] [_] an (.s bp (.a ap (.m 2 af))) 1 [.i 1 (.a (.a ap (.m 2 af)) aE) bp] rfl this) (by exact lin [_,_] [_,_] (.s bp (.a ap (.m 2 af))) ak 1 [.i 1 bp ak] rfl h4)
  ·rfl
theorem zD{F:Fm}{d:List UInt8}{p q v:Int}{L:List Int}(h:ut d p L)(hd:d.length≤16777216){i:Nat}(hi:L[i]?=some q)(hn:B7 F d p q v) :
  oG d (d.length-p) (4+2*i)∧(nY d (d.length-p) (4+2*i)≠0→inB F d (d.length-p+nY d (d.length-p) (4+2*i)))∧(if nY d (d.length-p) (4+2*i)=0 then 0 else rdF F d (d.length-p+nY d (d.length-p) (4+2*i)))=v:=by
 refine e0b (vF h hd i) fun h1 h2=>?_;refine⟨h1,?_⟩;have hs:E2 p L i=if q=0 then 0 else p-q:=by unfold E2;rw[hi]
 rw[h2,hs];clear hi h h1 hs h2;rcases hn with⟨rfl,rfl⟩|⟨n1,n2,n3⟩
 ·simp
 ·refine e0b (lO n3 hd) fun g1 g2=>?_;rw[if_neg n1,if_neg (by exact Int.ne_of_gt (lin [_,_] [] bt bn 1 [.i 1 bA aa] rfl n2)),show(d.length:Int)-p+(p-q)=d.length-q by exact(gL [_,_] [_] (.a bl bn) bR [] rfl)]
  exact⟨fun _=>g1,g2⟩
end
section
@[irreducible] noncomputable def zP(kw:Ar→List (Str×P))(A:Ar→List P)(side:Ar→Ab→Prop)(new:Ar→Ab→Ab):Ctr:=fun args kws objs Q=>
 ∃i a bytes head ver,args=.ref 0::(A i).map .p∧kws=kw i∧objs=[bo cz a bytes head ver]∧Rb a.T a.room bytes head∧side i a∧∀r a0 head' a5,Rb (new i a).T (new i a).room a0 head'→Q (.p (.int r)) [bo cz (new i a) a0 head' a5]
section
variable {G:Pg}{fa:Addr}{kw:Ar→List (Str×P)}{A:Ar→List P}{side:Ar→Ab→Prop}{new:Ar→Ab→Ab}{env:List (Option V)}{σ:List O}{Q:V→St→Prop}
theorem qP(a3:G.Φ fa=some (zP kw A side new))(j:Nat)(i:Ar){a:Ab}{bytes:List UInt8}{head:Int}{ver:Nat}(hj:σ[j]?=some (bo cz a bytes head ver))(hr:Rb a.T a.room bytes head)(hs:side i a)
  (h:∀r a0 head' a5,Rb (new i a).T (new i a).room a0 head'→Q (.p (.int r)) ⟨env,σ.set j (bo cz (new i a) a0 head' a5)⟩):eT G fa (.ref j::(A i).map .p) (kw i) ⟨env,σ⟩ Q:=by
 refine mo a3 hj ?_;unfold zP;exact⟨i,a,bytes,head,ver,rfl,rfl,rfl,hr,hs,fun r b h' v z=>Ez (Q:=Q) (h r b h' v z)⟩
theorem BN(a3:G.Φ fa=some (zP kw A side new))(j:Nat)(i:Ar){args:List V}{kws:List (Str×P)}(ha:args=(A i).map .p)(hk:kws=kw i){a:Ab}{bytes:List UInt8}{head:Int}{ver:Nat}(hj:σ[j]?=some (bo cz a bytes head ver))(hr:Rb a.T a.room bytes head)(hs:side i a)
  (h:∀r a0 head' a5,Rb (new i a).T (new i a).room a0 head'→Q (.p (.int r)) ⟨env,σ.set j (bo cz (new i a) a0 head' a5)⟩):eT G fa (.ref j::args) kws ⟨env,σ⟩ Q:=by
 subst ha hk;exact qP a3 j i hj hr hs h
theorem wW{ac:List V→List (Str×P)→Option (List V)}{k:Nat}{S:S}(E:Ar→List V)(hb:∀i,ac (.ref 0::(A i).map .p) (kw i)=some (E i))
  (h:∀i a bytes head ver (K:Fl→St→Prop),Rb a.T a.room bytes head→side i a→(∀r env a0 head' a5 s,Rb (new i a).T (new i a).room a0 head'→K (.ret (.p (.int r))) ⟨env,bo cz (new i a) a0 head' a5::s⟩)→
   wS G S ⟨(E i).map some++List.replicate k none,[bo cz a bytes head ver]⟩ K):∀args kws objs Q,zP kw A side new args kws objs Q→ez ac k S G args kws objs Q:=fun args kws objs Q hq=>by
 unfold zP at hq;revert hq;intro zh;refine e5f zh fun i a bytes head ver a4 c2 a3 hr hs hq=>?_;clear zh;subst a4 c2 a3;unfold ez;rw[hb];exact h i a bytes head ver _ hr hs fun r env a0 head' a5 s b5=>⟨1,⟨Gw 1,Nat.le_add_left 1 _,rfl⟩,hq _ _ _ _ b5⟩
theorem kK{n0:Nat}{chk:St→Prop}{step:P→St→(Fl→St→Prop)→Prop}{x:P}{xs:List P}{st:St}{Q:Fl→St→Prop}(h1:chk st)(h:step x st fun f st=>match f with
  |.next|.cont=>km n0 chk step xs (iu n0 st) Q
  |.brk=>Q .next st
  |.ret v=>Q (.ret v) st):km n0 chk step (x::xs) st Q:=by
 unfold km at h ⊢;exact⟨h1,h⟩
theorem A6{n0:Nat}{chk:St→Prop}{step:P→St→(Fl→St→Prop)→Prop}{l l':List P}{st:St}{Q:Fl→St→Prop}(e:l=l')(h:km n0 chk step l' st Q):km n0 chk step l st Q:=e▸h
theorem o8{n0:Nat}{chk:St→Prop}{step:P→St→(Fl→St→Prop)→Prop}{l:List P}{st:St}(b3:St){Q:Fl→St→Prop}(e:st=b3)(h:km n0 chk step l b3 Q):km n0 chk step l st Q:=e▸h
theorem yn{n0:Nat}{chk:St→Prop}{step:P→St→(Fl→St→Prop)→Prop}{st:St}{Q:Fl→St→Prop}(h1:chk st)(h:Q .next st):km n0 chk step [] st Q:=by
 unfold km;exact⟨h1,h⟩
end
noncomputable def idA(a:Ab):Ab:=du (du (du (du a .B 83) .B 89) .B 69) .B 75
noncomputable def Fr:List UInt8:=[75,69,89,83]
noncomputable def idP(m:Int):P:=if m=2 then .bytes Fr else .none
noncomputable def Gc(a:Ab)(root m:Int):Ab:=if m=0 then fF (cI a a.mal 4) root else if m=1 then cD (fF (cI a a.mal 8) root) .i (fF (cI a a.mal 8) root).T.length else fF (idA (cI (cI a a.mal 8) 4 4)) root
noncomputable def lY(a:Ab)(root m:Int):Ab:={Gc a root m with fin:=true}
structure pG(root m:Int)(a:Ab):Prop where
 n0:0≤root
 n1:root≤a.T.length
 len:a.T.length≤1000000
 mal:jD a.mal
 m:m=0∨m=1∨m=2
noncomputable def wT:Ctr:=zP (fun i=>[(("file_identifier" : Str),idP i.y)]) (fun i=>[.int i.x, .bool (decide (i.y=1))]) (fun i a=>pG i.x i.y a) (fun i a=>lY a i.x i.y)
noncomputable def DP:Ctr:=zP (fun _=>[]) (fun i=>[.int i.x,idP i.y]) (fun i a=>(i.y=0∨i.y=2)∧pG i.x i.y a) (fun i a=>lY a i.x i.y)
noncomputable def wR:Ctr:=zP (fun _=>[]) (fun i=>[.int i.x]) (fun i a=>pG i.x 1 a) (fun i a=>lY a i.x 1)
theorem mX{a:Ab}{root m add:Int}(h:pG root m a):nx root (cI a a.mal add)∧(cI a a.mal add).T.length≤1000008:=by
 have c2:=cP a (s:=a.mal) (add:=add) h.mal;have a3:=(c5 (n:=a.T.length) (add:=add) (s:=a.mal) h.mal).2;have hq:=(cP (cI a a.mal add) (s:=4) (add:=0) sz4).1;have ag:a.mal≤8:=by rcases h.mal with q|q|q|q<;>(first|exact(lin [_] [] aa aK 1 [.e 1 aa ao] rfl q)|exact(lin [_] [] aa aK 1 [.e 1 aa aE] rfl q)|exact(lin [_] [] aa aK 1 [.e 1 aa ap] rfl q)|exact(G6 q))
 have h1:=h.n1;have h2:=h.len;have h3:(cI a a.mal add).T.length≤1000008:=by exact cG [_,_] [_,_] ab a8 1 [.e 1 af bE,.i 1 bi am,.i 1 am aK,.j 1 ae aW] rfl (Gu c2) a3 ag h2
 exact⟨⟨h.n0,by exact(G9 h1 (G9 (Gz c2) hq)),by lia⟩,h3⟩
theorem rU(a:Ab)(root:Int):lY a root 2={fF (idA (cI (cI a a.mal 8) 4 4)) root with fin:=true}:=by
 unfold lY Gc;rw[if_neg (by decide),if_neg (by decide)]
theorem Do{a:Ab}{root m:Int}(h:pG root m a):nx root (idA (cI (cI a a.mal 8) 4 4)):=by
 have hf:=mX (add:=8) h;have h1:=h.n1;have h2:=h.len;have c2:=(cP a (s:=a.mal) (add:=8) h.mal).1;have a0:=cP (cI a a.mal 8) (s:=4) (add:=4) sz4;have a3:=(c5 (n:=(cI a a.mal 8).T.length) (add:=4) (s:=4) sz4).2;have e:(idA (cI (cI a a.mal 8) 4 4)).T.length=(cI (cI a a.mal 8) 4 4).T.length+4:=rfl;have hq:=(cP (idA (cI (cI a a.mal 8) 4 4)) (s:=4) (add:=0) sz4).1;exact⟨h.n0,by exact(lin [_] [_,_,_,_,_] aa af 1 [.i 1 aa ak,.i 1 ak av,.i 1 av az,.f (-1) aB bC,.i 1 aR af] rfl h1 c2 (Gz a0) e hq),by exact cG [_] [_,_,_] ab aF 1 [.j 1 ae a8,.e 1 av bE,.i 1 bi ap,.f 1 ab (.a aj aC)] rfl (Gu hf) (Gu a0) a3 e⟩
section
variable {Φ:Addr→Option Ctr}
theorem Ed(hE:AT Φ cJ sq)(hP:AT Φ fK pB)(hU:AT Φ cK sk)(hL:AT Φ gD oA)(hI:AT Φ eC (lP .i)) :
  BD Φ wT (y6 3 "file_identifier") 3 mL:=
 wW (fun i=>[.ref 0, .p (.int i.x), .p (.bool (decide (i.y=1))), .p (idP i.y)]) (fun _=>uk rfl) fun⟨g,d,root,m,z⟩ a bytes head ver K hr h hK=>by
  have h0:=h.n0;have h1:=h.n1;have h2:=h.len;have h0:0≤root:=h0;have h1:root≤a.T.length:=h1;have ag:a.mal≤8:=by rcases h.mal with q|q|q|q<;>(first|exact(lin [_] [] aa aK 1 [.e 1 aa ao] rfl q)|exact(lin [_] [] aa aK 1 [.e 1 aa aE] rfl q)|exact(lin [_] [] aa aK 1 [.e 1 aa ap] rfl q)|exact(G6 q))
  have b6:(0:Int)≤root∧root≤4294967295:=⟨h0,by exact lin [_] [_] aa aP 1 [.i 1 aa af,.j 1 ab aW] rfl (by assumption) h2⟩
  have hm:=h.m;rcases hm with rfl|rfl|rfl
  ·lk;refine eH hE {g:=.u,x:=root} b6 ?_;lk;refine cX hP 0 {x:=a.mal,y:=4} rfl hr ⟨h.mal,show(0:Int)≤4 by decide,show(a.T.length:Int)+4≤1048576 by exact lin [] [_] bu aH 1 [.j 1 ab aW] rfl h2⟩ fun a4 ac ar aw=>?_
   lk;refine cX hU 0 {x:=root} rfl aw (mX h).1 fun b3 b5 cf c1=>?_;lk;exact hK _ _ _ _ _ _ c1
  ·lk;refine eH hE {g:=.u,x:=root} b6 ?_;lk;refine cX hP 0 {x:=a.mal,y:=8} rfl hr ⟨h.mal,show(0:Int)≤8 by decide,show(a.T.length:Int)+8≤1048576 by exact lin [] [_] (.a af aK) aH 1 [.j 1 ab aW] rfl h2⟩ fun a4 ac ar aw=>?_
   lk;refine cX hU 0 {x:=root} rfl aw (mX h).1 fun b3 b5 cf c1=>?_;lk;refine⟨Gp c1.cap (by decide),?_⟩
   lk
   conv=>whnf
   rw[c1.len];have hl:=(jG (cI a a.mal 8) root).2.2;have b7:=(mX (add:=8) h).2;refine eH hE {g:=.i,x:=(fF (cI a a.mal 8) root).T.length} ⟨show(-2147483648:Int)≤_ by exact(lin [] [_] ay af 1 [] rfl),show _≤(2147483647:Int)by exact lin [] [_,_] af aQ 1 [.i 1 af b8,.j 1 ae a8] rfl hl b7⟩ ?_
   lk;refine cX hI 0 {x:=(fF (cI a a.mal 8) root).T.length} rfl c1 ⟨show(-2147483648:Int)≤_ by exact(lin [] [_] ay af 1 [] rfl),show _≤(2147483647:Int)by exact(lin [] [_,_] af aQ 1 [.i 1 af b8,.j 1 ae a8] rfl hl b7),show(fF (cI a a.mal 8) root).T.length≤1048576 by exact cG [] [_,_] ab aF 1 [.i 1 af b8,.j 1 ae a8] rfl hl b7⟩ fun c0 c4 d3 ce=>?_
   lk;exact hK _ _ _ _ _ _ ce
  ·lk;refine eH hE {g:=.u,x:=root} b6 ?_;lk;refine cX hP 0 {x:=a.mal,y:=8} rfl hr ⟨h.mal,show(0:Int)≤8 by decide,show(a.T.length:Int)+8≤1048576 by exact lin [] [_] (.a af aK) aH 1 [.j 1 ab aW] rfl h2⟩ fun a4 ac ar aw=>?_
   have b7:=(mX (add:=8) h).2;lk;refine cX hP 0 {x:=4,y:=4} rfl aw ⟨sz4,show(0:Int)≤4 by decide,show((cI a a.mal 8).T.length:Int)+4≤1048576 by exact lin [] [_] bu aH 1 [.j 1 ab a8] rfl b7⟩ fun b3 b5 cf c1=>?_
   have a3:=gw (cI a a.mal 8) 4 4;lk;refine⟨⟨by decide,by decide,by decide,by decide, .inr rfl⟩,?_⟩
   refine A6 (l':=[.int 3, .int 2, .int 1, .int 0]) rfl ?_;refine kK trivial ?_;lk;refine gB 3 rfl rfl ?_;lk;refine ju (b:=du (cI (cI a a.mal 8) 4 4) .B 83) hL 0 {g:=.u8,x:=83} rfl (a:=cI (cI a a.mal 8) 4 4) rfl c1 ⟨by decide,by decide,show(1:Int)≤_ by exact lin [_] [] ao aa 1 [.i 1 (.a ap ap) aa] rfl a3⟩ rfl rfl fun c0 c4 d3 ce=>?_
   have id:=Do h;have hK:=fun r env a0 head' a5 s (hh:Rb (fF (idA (cI (cI a a.mal 8) 4 4)) root).T (fF (idA (cI (cI a a.mal 8) 4 4)) root).room a0 head')=>show K (.ret (.p (.int r))) ⟨env,bo cz {fF (idA (cI (cI a a.mal 8) 4 4)) root with fin:=true} a0 head' a5::s⟩from rU a root▸hK r env a0 head' a5 s (rU a root▸hh)
   generalize cI (cI a a.mal 8) 4 4=b0 at ce a3 id hK;lk;refine o8 ⟨[some (.ref 0),some (.p (.int root)),some (.p (.bool false)),some (.p (.tup [.int 75, .int 69, .int 89, .int 83])),some (.p (.int 8)),some (.p (.int 3)),none],[bo cz (du b0 .B 83) c0 c4 d3]⟩ rfl ?_;refine kK trivial ?_;lk;refine gB 2 rfl rfl ?_;lk;refine ju (b:=du (du b0 .B 83) .B 89) hL 0 {g:=.u8,x:=89} rfl (a:=du b0 .B 83) rfl ce ⟨by decide,by decide,show(1:Int)≤b0.room-1 by exact lin [_] [] ao bO 1 [.i 1 (.a ap ap) aa] rfl a3⟩ rfl rfl fun c3 ct dd d2=>?_
   lk;refine o8 ⟨[some (.ref 0),some (.p (.int root)),some (.p (.bool false)),some (.p (.tup [.int 75, .int 69, .int 89, .int 83])),some (.p (.int 8)),some (.p (.int 2)),none],[bo cz (du (du b0 .B 83) .B 89) c3 ct dd]⟩ rfl ?_;refine kK trivial ?_;lk;refine gB 1 rfl rfl ?_;lk;refine ju (b:=du (du (du b0 .B 83) .B 89) .B 69) hL 0 {g:=.u8,x:=69} rfl (a:=du (du b0 .B 83) .B 89) rfl d2 ⟨by decide,by decide,show(1:Int)≤b0.room-1-1 by exact lin [_] [] ao (.s bO ao) 1 [.i 1 (.a ap ap) aa] rfl a3⟩ rfl rfl fun bb c2 d1 d5=>?_
   lk;refine o8 ⟨[some (.ref 0),some (.p (.int root)),some (.p (.bool false)),some (.p (.tup [.int 75, .int 69, .int 89, .int 83])),some (.p (.int 8)),some (.p (.int 1)),none],[bo cz (du (du (du b0 .B 83) .B 89) .B 69) bb c2 d1]⟩ rfl ?_;refine kK trivial ?_;lk;refine gB 0 rfl rfl ?_;lk;refine ju (b:=idA b0) hL 0 {g:=.u8,x:=75} rfl (a:=du (du (du b0 .B 83) .B 89) .B 69) rfl d5 ⟨by decide,by decide,show(1:Int)≤b0.room-1-1-1 by exact lin [_] [] ao (.s (.s bO ao) ao) 1 [.i 1 (.a ap ap) aa] rfl a3⟩ rfl rfl fun ah b4 dt bh=>?_
   lk;refine o8 ⟨[some (.ref 0),some (.p (.int root)),some (.p (.bool false)),some (.p (.tup [.int 75, .int 69, .int 89, .int 83])),some (.p (.int 8)),some (.p (.int 0)),none],[bo cz (idA b0) ah b4 dt]⟩ rfl ?_;refine yn trivial ?_;lk;refine cX hU 0 {x:=root} (a:=idA b0) rfl bh id fun cc ck ver7 dv=>?_;lk;exact hK _ _ _ _ _ _ dv
theorem FO(hF:AT Φ fH wT):BD Φ DP (um 2 .none) 0 n9:=
 wW (fun i=>[.ref 0, .p (.int i.x), .p (idP i.y)]) (fun _=>rfl) fun i a bytes head ver K hr h hK=>by
  lk;refine BN (kws:=[("file_identifier",idP i.y)]) hF 0 i (by show[V.p (.int i.x),V.p (.bool false)]=[V.p (.int i.x),V.p (.bool (decide (i.y=1)))];rw[show decide (i.y=1)=false from decide_eq_false (by rcases h.1 with q|q<;>lia)]) rfl rfl hr h.2 fun r a4 ac ar aw=>?_
  lk;exact hK _ _ _ _ _ _ aw
theorem Ec(hF:AT Φ fH wT):BD Φ wR (um 2 .none) 0 fC:=
 wW (fun i=>[.ref 0, .p (.int i.x), .p .none]) (fun _=>rfl) fun i a bytes head ver K hr h hK=>by
  lk;refine qP hF 0 {x:=i.x,y:=1} rfl hr h fun r a4 ac ar aw=>?_;lk;exact hK _ _ _ _ _ _ aw
end
noncomputable def kA(d:List UInt8)(off:Int):Int:=off+rdF .I d off
structure zY(d:List UInt8)(off:Int):Prop where
 b0:inB .I d off
 b1:inB .I d (kA d off)
 n0:0≤rdF .I d (kA d off)
 n1:kA d off+4+rdF .I d (kA d off)≤d.length
noncomputable def Ev(d:List UInt8)(off:Int):List UInt8:=cut d (kA d off+4).toNat (kA d off+4+rdF .I d (kA d off)).toNat
noncomputable def yY:Ctr:=rf Tw.o (fun i=>[.int i.x]) (fun i w=>zY w.d i.x) fun i w=>.bytes (Ev w.d i.x)
section
variable {Φ:Addr→Option Ctr}
theorem DZ(hE:AT Φ cJ sq)(hG:AT Φ mY y3):BD Φ yY (cQ 2) 2 n5:=
 jB (fun i=>[.ref 0, .p (.int i.x)]) (fun _=>rfl) fun i w K h hK=>by
  have h0:=h.b1.1;have h1:=h.n0;have h2:=h.n1;have h3:=h.b0.2.2;lk;refine eH hE {g:=.u,x:=i.x} (Bo h.b0) ?_;lk;refine eH hG {g:=.u,d:=w.d,x:=i.x} h.b0 ?_;lk;refine eH hG {g:=.u,d:=w.d,x:=kA w.d i.x} h.b1 ?_;lk;refine iC rfl (gN _ _ _ (show(0:Int)≤kA w.d i.x+4 by exact lin [_] [] an (.a aa ap) 1 [.i 1 an aa] rfl h0) (show kA w.d i.x+4≤_ by exact lin [_,_] [_] (.a aa ap) af 1 [.i 1 an am,.i 1 (.a (.a aa ap) am) af] rfl h1 h2)) (gN _ _ _ (show(0:Int)≤kA w.d i.x+4+rdF .I w.d (kA w.d i.x)by exact lin [_,_] [] an (.a (.a aa ap) am) 1 [.i 1 an aa,.i 1 an am] rfl h0 h1) h2) h3 ?_
  lk;refine⟨by show(cut _ _ _).length≤_;unfold cut;rw[GW,GX];exact(Gp (Nat.min_le_right _ _) (Gp (Nat.sub_le _ _) h3)),?_⟩
  lk;exact hK (.ret (.p (.bytes _))) _ _ rfl
end
end
section
theorem dG{G:Pg}{fa:Addr}{args a0:List V}{kws:List (Str×P)}{env:List (Option V)}{σ:List O}{Q:V→St→Prop}{ctr:Ctr}{objs:List O}(a3:G.Φ fa=some ctr)(ho:qy σ (fE args [])=some objs)
  (ha:nM ((fE args []).idxOf ·) args=a0) (h:ctr a0 kws objs fun v os=>Q (A3 (sw (fE args []) σ.length) v) ⟨env,mD σ (fE args []) os⟩):eT G fa args kws ⟨env,σ⟩ Q:=by
 unfold eT;rw[a3];refine(?_:opt (qy σ _) _);rw[ho,ha];exact h
theorem qW{ac:List V→List (Str×P)→Option (List V)}{k:Nat}{S:S}{G:Pg}{args:List V}{kws:List (Str×P)}{objs:List O}{Q:V→List O→Prop}{env:List V}(hb:ac args kws=some env)
  (h:∀K:Fl→St→Prop,(∀fl e (os r:List O),objs.length=os.length→scp os.length (uy fl)=true→Q (uy fl) os→K fl ⟨e,os++r⟩)→wS G S ⟨env.map some++List.replicate k none,objs⟩ K):ez ac k S G args kws objs Q:=by
 unfold ez;rw[hb];refine h _ fun fl e os r hl hs hq=>⟨os.length,⟨GF hl,?_,hs⟩,?_⟩
 ·refine(?_:os.length≤(os++r).length);rw[Gr];exact Nat.le_add_right _ _
 ·refine(?_:Q _ ((os++r).take os.length));rw[List.take_left' rfl];exact hq
noncomputable def bxO(xs:List Int)(i:Int):O:=.bx (.lst [.lst (xs.map .int), .int i])
structure q8(xs:List Int)(i many:Int):Prop where
 i0:0≤i
 m0:0<many
 l:xs.length≤64
@[irreducible] noncomputable def nQ:Ctr:=fun args kws objs Q=>∃xs i many,args=[.ref 0, .p (.int many)]∧kws=[]∧objs=[bxO xs i]∧q8 xs i many∧∀v i',0≤v→v<many→0≤i'→Q (.p (.int v)) [bxO xs i']
theorem gH{xs:List Int}{i many:Int}{Q:V→List O→Prop}(h0:q8 xs i many)(h:∀v i',0≤v→v<many→0≤i'→Q (.p (.int v)) [bxO xs i']):nQ [.ref 0, .p (.int many)] [] [bxO xs i] Q:=by
 unfold nQ;exact⟨xs,i,many,rfl,rfl,rfl,h0,h⟩
theorem DW{Φ:Addr→Option Ctr}:BD Φ nQ (cQ 2) 1 mH:=fun args kws objs Q hq=>by
 unfold nQ at hq;revert hq;intro zh;refine e3e zh fun xs i many ck c1 a4 h hq=>?_;clear zh;subst ck c1 a4;refine qW (env:=[.ref 0, .p (.int many)]) rfl fun K hK=>?_;have h0:=h.i0;have h2:(xs.map P.int).length≤16777216:=by rw[GA];exact Gp h.l (by decide)
 lk;refine gB 1 rfl rfl ?_;lk;refine gB 0 rfl rfl ?_;lk;refine⟨h2,?_⟩;lk;refine c9 (fun q=>?_) (fun q=>?_)
 ·lk;exact hK (.ret (.p (.int 0))) _ [bxO xs i] [] rfl rfl (hq 0 i (GP 0) h.m0 h0)
 ·have q1:i.toNat<xs.length:=by have q1:=GN q;rw[GA]at q1;exact cG [_] [_,_] bc ae 1 [.i 1 bi ak,.e 1 af aa] rfl (Int.not_le.mp q1) (Gl (h0))
  lk;refine gB 0 rfl rfl ?_;lk;refine gB 1 rfl rfl ?_;lk;refine jZ h0 (z:=.int xs[i.toNat]) (by rw[GZ,GD q1];rfl) h2 ?_
  lk;refine gB 1 rfl rfl ?_;lk;refine⟨⟨by decide,show(1:Int)<((2:Nat):Int)by decide,GB rfl⟩,?_⟩
  lk;refine⟨h.m0,?_⟩;lk;exact hK (.ret (.p (.int (xs[i.toNat] % many)))) _ [bxO xs (i+1)] [] rfl rfl (hq _ (i+1) (Int.emod_nonneg _ (Int.ne_of_gt h.m0)) (Int.emod_lt_of_pos _ h.m0) (by exact lin [_] [] an bi 1 [.i 1 an aa] rfl h0))
theorem lD(a:Ab){es n al:Int}(dx:es=1∨es=4)(ar:al=es)(hn:0≤n) :
  ∃X,(de a es n al).T=X++a.T∧((de a es n al).T.length:Int)≤a.T.length+3∧(((de a es n al).T.length:Int)+es*n) % 4=0∧4+es*n≤(de a es n al).room∧(de a es n al).nested=true∧(de a es n al).vne=some (.int n)∧
   (de a es n al).vt=a.vt∧(de a es n al).oe=a.oe∧(de a es n al).force=a.force∧(de a es n al).fin=a.fin∧(de a es n al).vts=a.vts∧(jD a.mal→jD (de a es n al).mal):=by
 subst ar;have h4:jD 4:=by unfold jD;exact Or.inr (Or.inr (Or.inl (gL [] [] ap ap [] rfl)))
 have hE:jD al:=by unfold jD;lia
 have a3:=cP {a with nested:=true,vne:=some (.int n)} (s:=4) (add:=al*n) h4;have hq1:=c5 (n:=a.T.length) (add:=al*n) (s:=4) h4;have a0:=cP (cI {a with nested:=true,vne:=some (.int n)} 4 (al*n)) (s:=al) (add:=al*n) hE;dsimp only at a3;have e4:((cI {a with nested:=true,vne:=some (.int n)} 4 (al*n)).T.length+al*n) % 4=0:=by
  rw[a3.2];unfold kJ;lia
 have hz:kJ (cI {a with nested:=true,vne:=some (.int n)} 4 (al*n)).T.length (al*n) al=0:=by
  unfold kJ;rcases dx with rfl|rfl<;>(first|exact(Int.le_antisymm (lin [_] [] aa an 1 [.i 1 bi ao] rfl (Int.emod_lt_of_pos _ (show(0:Int)<1 by decide))) ((Int.emod_nonneg _ (show(1:Int)≠0 by decide))))|lia)
 refine⟨_,(GE _ _ _).symm,?_,?_,?_,rfl,rfl,rfl,rfl,rfl,rfl,rfl,fun h=>?_⟩
 ·refine(?_:((cI (cI {a with nested:=true,vne:=some (.int n)} 4 (al*n)) al (al*n)).T.length:Int)≤_);exact lin [_,_] [_,_,_] af (.a ak (.n 3)) 1 [.e 1 av bE,.i 1 bi ap,.e 1 af (.a av am),.e 1 am an] rfl (Gu a3) (Gu hq1) (Gu a0) hz
 ·refine(?_:(((cI (cI {a with nested:=true,vne:=some (.int n)} 4 (al*n)) al (al*n)).T.length:Int)+_) % 4=0);rw[a0.2,hz];lia
 ·refine(?_:4+al*n≤max ((cI {a with nested:=true,vne:=some (.int n)} 4 (al*n)).room-kJ (cI {a with nested:=true,vne:=some (.int n)} 4 (al*n)).T.length (al*n) al) (al+al*n));rw[hz];have:=gw {a with nested:=true,vne:=some (.int n)} 4 (al*n);exact lin [_,_,_] [] (.a ap aa) am 1 [.i 1 (.a ap aa) aD,.i 1 (.s aD an) am] rfl this (Int.le_max_left _ _)
 ·exact(iU _ hE).mal ((iU {a with nested:=true,vne:=some (.int n)} h4).mal h)
theorem tL(a:Ab)(x:Int)(hm:(a.T.length:Int) % 4=0):((fF a x).T.length:Int)=a.T.length+4∧a.room-4≤(fF a x).room∧(fF a x).vne=a.vne∧(cI a 4 0).T.length=a.T.length:=by
 have hz:kJ a.T.length 0 4=0:=by unfold kJ;lia
 have hl:(cI a 4 0).T.length=a.T.length:=by
  refine(?_:(List.replicate (kJ a.T.length 0 4).toNat (0:UInt8)++a.T).length=_);rw[hz];simp
 refine⟨?_,?_,rfl,hl⟩
 ·have:=(jG a x).1;exact gL [] [_,_,_] af bB [.f 1 aj ae,.e 1 af bT] rfl hl this
 ·refine(?_:a.room-4≤max (a.room-kJ a.T.length 0 4) (4+0)-4);rw[hz];exact lin [_,_] [] (.s aa ap) (.s am ap) 1 [.i 1 (.s aa an) am] rfl (Int.le_max_left _ _)
theorem ua(a:Ab)(n:Int)(hn:0≤n)(hn2:n≤4294967295):((fA a n).T.length:Int)=a.T.length+4∧FldE .I (fA a n).T ((a.T.length:Int)+4) n∧(∃X,(fA a n).T=X++a.T):=by
 have hl:((fA a n).T.length:Int)=a.T.length+4:=by
  refine(?_:((le 4 n++a.T).length:Int)=_);rw[Gr,cO];exact gL [] [_] (.c (.a aC ab)) bu [] rfl
 refine⟨hl,⟨by simp only[Fm.w];exact(lin [] [_] (.c aC) bu 1 [] rfl),by exact((G6 (Eq.symm hl))),?_⟩,⟨le 4 n,rfl⟩⟩
 exact kf (F:=.I) (T:=a.T) hn hn2
theorem eK{ι:Type}{G:Pg}{a b:S}{st:St}{Q:Fl→St→Prop}(stf:ι→St)(I:ι→Prop)(h1:∀K:Fl→St→Prop,(∀i,I i→K .next (stf i))→wS G a st K)(h2:∀i,I i→wS G b (stf i) Q):wS G (.seq a b) st Q:=
 u5 (fun st=>∃i,st=stf i∧I i) (fun K hK _=>h1 K fun i hi=>hK _ ⟨i,rfl,hi⟩) fun b3 zp=>e1b zp fun i e hi=>by clear h1 st a zp;subst e;exact h2 i hi
theorem qt{ι:Type}{n0:Nat}{chk:St→Prop}{step:P→St→(Fl→St→Prop)→Prop}{Q:Fl→St→Prop}(stf:ι→St)(I:List P→ι→Prop)
  (a0:∀x xs i (K:Fl→St→Prop),I (x::xs) i→(∀b3 j,iu n0 b3=stf j→I xs j→K .next b3∧K .cont b3)→chk (stf i)∧step x (stf i) K)
  (b4:∀i,I [] i→chk (stf i)∧Q .next (stf i)) (xs:List P) (i:ι) (h:I xs i):km n0 chk step xs (stf i) Q:=
 qu (fun xs st=>∃i,st=stf i∧I xs i) (fun x xs st K zp hn _ _=>e1b zp fun i e1 hI=>by subst e1;exact a0 x xs i K hI (fun b3 j e hj=>hn b3 ⟨j,e,hj⟩)) (fun st zp=>e1b zp fun i e1 hI=>by clear zp;subst e1;exact b4 i hI) xs (stf i) ⟨i,rfl,h⟩
theorem DO{G:Pg}{env:List (Option V)}{σ:List O}{Q:V→St→Prop}(hC:G.Φ cz=some (fu kZ cz 11)){n:Int}(h0:0≤n∧n≤65536)(h:∀bytes a5,Rb [] 0 bytes n→Q (.ref σ.length) ⟨env,σ++[bo cz ab0 bytes n a5]⟩):eT G cz [.p (.int n)] [] ⟨env,σ⟩ Q:=by
 refine dG hC (objs:=[]) rfl rfl ?_;unfold fu kZ;exact⟨n,0,rfl,rfl,rfl,h0,fun b v r=>⟨rfl,h b v r⟩⟩
theorem zS{G:Pg}{env:List (Option V)}{σ:List O}{Q:V→St→Prop}(hC:G.Φ ej=some (fu jy ej 2)){d:List UInt8}{p:Int}(h0:0≤p∧p≤4294967295)(h:∀a5,Q (.ref σ.length) ⟨env,σ++[Tw.o ⟨d,p,a5⟩]⟩):eT G ej [.p (.bytes d), .p (.int p)] [] ⟨env,σ⟩ Q:=by
 refine dG hC (objs:=[]) rfl rfl ?_;unfold fu jy;exact⟨d,p,0,rfl,rfl,rfl,h0,fun a5=>⟨rfl,h a5⟩⟩
theorem gE{G:Pg}{fa:Addr}{ω:Type}{o:ω→O}{A:Ar→List P}{side:Ar→ω→Prop}{ret:Ar→ω→P}{env:List (Option V)}{σ:List O}{Q:V→St→Prop}(a3:G.Φ fa=some (rf o A side ret))(j:Nat)(i:Ar)(w:ω)(z:P){args:List V}
  (ha:args=(A i).map .p) (hj:σ[j]?=some (o w)) (hs:side i w) (hz:ret i w=z) (h:Q (.p z) ⟨env,σ⟩):eT G fa (.ref j::args) [] ⟨env,σ⟩ Q:=by
 subst ha hz;exact ei a3 j i w hj hs h
end
section
structure EK(a:Ab)(n:Nat):Prop where
 nested:a.nested=false
 force:a.force=false
 fin:a.fin=false
 mal:jD a.mal
 vts:ur a.T a.vts
 vtn:a.vts.length≤n
 len:a.T.length≤300*n
 few:n≤20
structure Eo(a' a'':Ab)(l:List Int)(ob:Int):Prop where
 tab:ut a''.T ob l
 suf:∃X,a''.T=X++a'.T
 lo:(a'.T.length:Int)<ob
 hi:ob≤a''.T.length
theorem EK.close{a a0 a':Ab}{n:Nat}{l:List Int}(B:EK a n)(S:Sm a a0)(e1:a0.T.length≤a.T.length+100)(O:oI a0 a' l)(hb:a'.T.length≤a0.T.length+100)(hl:l.length≤10)(hf:n<20) :
  zg {a' with nested:=false} l a0.T.length∧EK (wvA {a' with nested:=false} l a0.T.length) (n+1)∧Eo a' (wvA {a' with nested:=false} l a0.T.length) l (gY {a' with nested:=false} 0).T.length:=by
 have hT:=B.len;have a5:=B.vtn;have d4:ur a0.T a0.vts:=by rw[S.vts];refine e1a S.suf fun X hX=>?_;rw[hX];exact B.vts.app X
 have WP:=O.pre (by exact cG [] [_,_] ab (.a ae (.n 2000)) 1 [.j 1 ab (.a ae aY)] rfl hb) (by exact cG [] [_,_,_] ab a7 1 [.j 1 ab (.a ae aY),.j 300 bf (.n 20),.j 1 ae (.m 300 aj)] rfl e1 hf hT) (by exact cG [] [_] ab aJ 1 [.j 1 ab (.n 10)] rfl hl) d4 (by rw[S.vts];exact cG [] [_,_] ab a7 1 [.j 1 be (.n 20),.j 1 ab ae] rfl hf a5)
 have W:=Ck WP (by refine(?_:ur a'.T a'.vts);rw[O.vts];refine e1a O.suf fun X hX=>?_;rw[hX];exact d4.app X)
 have a4:=W.len;dsimp only at a4;have a3:=kG {a' with nested:=false} 0;have hq:=(cP {a' with nested:=false} (s:=4) (add:=0) sz4).1;dsimp only at hq;refine⟨WP,⟨W.nested,W.force.trans (O.force.trans (S.force.trans B.force)),W.fin.trans (O.fin.trans (S.fin.trans B.fin)),?_,W.vts,?_,by exact(cG [] [_,_,_,_,_,_] ab (.m 300 be) 1 [.j 1 aj (.a au aY),.j 1 aB (.a aj aY),.j 2 aM (.n 10),.j 1 au (.m 300 ae),.i 1 af (.a (.a aR (.n 11)) (.m 2 (.w 5)))] rfl e1 hb hl hT a4),hf⟩,W.tab,W.suf,by exact(lin [] [_,_,_] bv ak 1 [.e (-1) ak bT,.i 1 af av] rfl a3 hq),W.obl⟩
 ·rw[W.mal];refine(?_:jD (if a'.mal<4 then 4 else a'.mal));split
  ·exact sz4
  ·exact O.mal
 ·have h1:(wvA {a' with nested:=false} l a0.T.length).vts.length≤a'.vts.length+1:=W.vtn;have e2:a'.vts.length=a.vts.length:=by rw[O.vts,S.vts]
  exact cG [] [_,_,_,_] ab be 1 [.j 1 aj ae,.j 1 ab bD,.f 1 au aj] rfl a5 h1 e2
structure B4(T:List UInt8)(sp:Int)(d:List UInt8):Prop where
 n:FldE .I T sp d.length
 lo:(d.length:Int)+4≤sp
 eq:(T.drop (T.length-sp.toNat+4)).take d.length=d
theorem B4.suf{T T':List UInt8}{sp:Int}{d:List UInt8}(h:B4 T sp d)(hs:∃X,T'=X++T):B4 T' sp d:=by
 refine⟨h.n.suf hs,h.lo,?_⟩;refine e1a hs fun X hX=>?_;subst hX;have h1:=h.lo;have h2:=h.n.hi;rw[show(X++T).length-sp.toNat+4=X.length+(T.length-sp.toNat+4)by rw[Gr];exact(jl [] [_,_,_,_,_] bY (.a ae (.a aj aC)) [.f 1 (.a ab au) (.a ae aB),.f (-1) bG aB] rfl (Go (cG [_] [_,_,_] ab bz 1 [.i 1 aa av,.e 1 af aa] rfl h2 (Gl (lin [_] [_] an aa 1 [.i 1 bu aa] rfl h1)))) (Go (cG [_] [_,_] ab ae 1 [.i 1 aa ak,.e 1 af aa] rfl h2 (Gl (lin [_] [_] an aa 1 [.i 1 bu aa] rfl h1))))),←List.drop_drop,List.drop_left]
 exact h.eq
theorem At{a:Ab}{d:List UInt8}(hn:a.nested=false)(hd:d.length≤65536):Sm a (nI a d)∧B4 (nI a d).T (nI a d).T.length d∧(nI a d).T.length≤a.T.length+d.length+8:=by
 have e1:(nI a d).T=le 4 (d.length:Int)++(d++(le 1 0++(cI {a with nested:=true} 4 ((d.length:Int)+1)).T)):=rfl;have hp:=cP {a with nested:=true} (s:=4) (add:=(d.length:Int)+1) sz4;have a3:=(c5 (n:=a.T.length) (add:=(d.length:Int)+1) sz4).2;have hl:(nI a d).T.length=4+(d.length+(1+(cI {a with nested:=true} 4 ((d.length:Int)+1)).T.length)):=by
  rw[e1,Gr,Gr,Gr,cO,cO]
 have a0:((cI {a with nested:=true} 4 ((d.length:Int)+1)).T.length:Int)=a.T.length+kJ a.T.length ((d.length:Int)+1) 4:=hp.2;refine⟨⟨?_,rfl,hn.symm,rfl,rfl,rfl,rfl,fun hm=>?_⟩,⟨⟨?_,GP _,?_⟩,by exact(lin [] [_,_,_,_] bu ak 1 [.i 1 av az,.f (-1) ae (.a aC (.a ab (.a ai au)))] rfl (Gz hp) hl),?_⟩,by exact cG [_] [_,_,_,_] ab (.a bz (.n 8)) 1 [.e 1 az bE,.i 1 bi ap,.f 1 ab (.a aC (.a aj (.a ai au)))] rfl (Gu hp) a3 hl⟩
 ·rw[e1];refine⟨le 4 (d.length:Int)++(d++(le 1 0++List.replicate (kJ a.T.length ((d.length:Int)+1) 4).toNat 0)),?_⟩;simp only[GE];rfl
 ·show jD (if a.mal<4 then 4 else a.mal)
  split
  ·exact sz4
  ·exact hm
 ·show((4:Nat):Int)≤_;exact lin [] [_,_,_,_] (.c aC) af 1 [.i 1 ak av,.f (-1) ab (.a aC (.a au (.a ai aj)))] rfl (Gz hp) hl
 ·rw[hl,e1];have:=kf (F:=.I) (T:=d++(le 1 0++(cI {a with nested:=true} 4 ((d.length:Int)+1)).T)) (x:=d.length) (show(0:Int)≤_ by exact lin [] [_] an af 1 [] rfl) (show _≤(4294967295:Int)by exact lin [] [_] af aP 1 [.j 1 ab (.n 65536)] rfl hd)
  rw[Gr,Gr,cO]at this;rw[show((4+(d.length+(1+(cI {a with nested:=true} 4 ((d.length:Int)+1)).T.length)):Nat):Int)=((d.length+(1+(cI {a with nested:=true} 4 ((d.length:Int)+1)).T.length):Nat):Int)+((Fm.w .I:Nat):Int)by show _=_+((4:Nat):Int);lia]
  exact this
 ·rw[show(nI a d).T.length-(((nI a d).T.length:Nat):Int).toNat+4=4 by lia,e1,List.drop_left' (cO 4 _),List.take_left]
structure En where
 k:List Int
 w:Int
 p:Int
def z4(T:List UInt8)(t:Bool)(p q0:Int)(k:List Int):Prop:=match t with
 |true=>∃sp d,k=d.map (fun c:UInt8=>(c.toNat:Int))∧q0≠0∧q0<p∧FldE .I T q0 (q0-sp)∧B4 T sp d
 |false=>∃n,k=[n]∧B7 .h T p q0 n
theorem z4.suf{T T':List UInt8}{t:Bool}{p q0:Int}{k:List Int}(h:z4 T t p q0 k)(hs:∃X,T'=X++T):z4 T' t p q0 k:=by
 cases t with
 |true=>exact e2e h fun sp d h1 h2 h3 h4 h5=>⟨sp,d,h1,h2,h3,h4.suf hs,h5.suf hs⟩
 |false=>exact e1b h fun n h1 h2=>⟨n,h1,h2.suf hs⟩
def EnE(T:List UInt8)(t:Bool)(e:En):Prop:=∃q0 q1,ut T e.p [q0,q1]∧z4 T t e.p q0 e.k∧B7 .i T e.p q1 e.w
theorem EnE.suf{T T':List UInt8}{t:Bool}{e:En}(h:EnE T t e)(hs:∃X,T'=X++T):EnE T' t e:=e2c h fun q0 q1 h1 h2 h3=>⟨q0,q1,h1.suf hs,h2.suf hs,h3.suf hs⟩
def B8(t:Bool)(k:List Int):Prop:=t=false→∃n,k=[n]∧-32768≤n∧n≤32767
structure z0(t:Bool)(a:Ab)(es:List En):Prop where
 g:EK a es.length
 en:∀e∈es,EnE a.T t e∧4≤e.p∧e.p≤a.T.length
 nd:(es.map (·.k)).Nodup
 kb:∀e∈es,B8 t e.k
 wb:∀e∈es,-1000000≤e.w∧e.w≤1000000
noncomputable def fX(a:Ab):Int:=(gY {a with nested:=false} 0).T.length
theorem oW{a:Ab}{o p q:Int}(h:a.vt=some [p,q])(hn:a.nested=true)(h0:0≤o)(h1:o<2):oH o [p,q] a:=⟨h,hn,h0,h1,GB rfl⟩
theorem Dy{t:Bool}{a a0 a2:Ab}{es:List En}{q0 w:Int}{k:List Int}(L:z0 t a es)(hf:es.length<15)(S:Sm a a0)(e1:a0.T.length≤a.T.length+60)(O:oI a0 a2 [q0,0])(b7:a2.T.length≤a0.T.length+20)
  (hk:∀T' p,(∃X,T'=X++a2.T)→(a2.T.length:Int)<p→z4 T' t p q0 k) (c0:B8 t k) (hw : -1000000≤w∧w≤1000000) (hn:k∉es.map (·.k)) :
  lA .i 1 w 0 [q0,0] a2∧∃q1,xk a0.T.length [q0,q1] (eA a2 .i 1 w 0)∧z0 t (wvA {eA a2 .i 1 w 0 with nested:=false} [q0,q1] a0.T.length) (es++[⟨k,w,fX (eA a2 .i 1 w 0)⟩]):=by
 have hT:=L.g.len;refine⟨⟨⟨show(-2147483648:Int)≤w by exact(lin [_] [] ay aa 1 [.i 1 (.n (-1000000)) aa] rfl (Gz hw)),show w≤(2147483647:Int)by exact(lin [_] [] aa aQ 1 [.i 1 aa (.n 1000000)] rfl (Gu hw)),by exact cG [] [_,_,_,_] ab aF 1 [.j 300 be (.n 15),.j 1 aj (.a au a9),.j 1 ab (.a aj (.n 20)),.j 1 au (.m 300 ae)] rfl hf e1 b7 hT⟩,by decide,by decide,oW O.vt O.nested (by decide) (by decide)⟩,?_⟩
 refine e1b (qa (F:=.i) (o:=1) (x:=w) O (O.force.trans (S.force.trans L.g.force)) (show(-2147483648:Int)≤w by exact lin [_] [] ay aa 1 [.i 1 (.n (-1000000)) aa] rfl (Gz hw)) (show w≤(2147483647:Int)by exact lin [_] [] aa aQ 1 [.i 1 aa (.n 1000000)] rfl (Gu hw)) rfl) fun q1 P N=>?_
 have PI:oI a0 (eA a2 .i 1 w 0) [q0,q1]:=P.inv;have hp3:=P.len;refine e0c (L.g.close S (by exact cG [] [_,_] ab (.a ae aY) 1 [.j 1 ab b9] rfl e1) PI (by exact cG [] [_,_,_] ab (.a ae aY) 1 [.j 1 aj (.a ae (.n 20)),.j 1 ab (.a aj (.n 16))] rfl b7 hp3) (GB rfl) (by exact cG [] [_] bc (.n 20) 1 [.j 1 bc (.n 15)] rfl hf)) fun W G C=>?_
 refine⟨q1,⟨PI.nested,PI.vt,PI.oe,W⟩,?_,fun e he=>?_,?_,fun e he=>?_,fun e he=>?_⟩
 ·rw[Gr];exact G
 ·rcases List.mem_append.mp he with q|q
  ·refine e0c (L.en e q) fun h1 h2 h3=>?_;have hs:∃X,(wvA {eA a2 .i 1 w 0 with nested:=false} [q0,q1] a0.T.length).T=X++a.T:=by
    refine e1a C.suf fun X hX=>e1a PI.suf fun Y hY=>e1a S.suf fun Z hZ=>⟨X++(Y++Z),?_⟩;rw[hX,hY,hZ];simp only[GE]
   refine⟨h1.suf hs,h2,?_⟩;refine e1a hs fun X hX=>?_;rw[hX,Gr];exact lin [_] [_,_] aa (.c bg) 1 [.i 1 aa ak] rfl h3
  ·obtain rfl:=List.mem_singleton.mp q;have h1:=C.tab.lo;refine⟨⟨q0,q1,C.tab,hk _ _ ?_ ?_,N.num C.suf C.lo⟩,h1,C.hi⟩
   ·exact e1a C.suf fun X hX=>e1a P.suf fun Y hY=>⟨X++Y,by rw[hX,hY,GE]⟩
   ·refine e1a P.suf fun Y hY=>?_;have h2:=congrArg List.length hY;rw[Gr]at h2;exact Int.lt_of_le_of_lt (show(a2.T.length:Int)≤(eA a2 .i 1 w 0).T.length by exact lin [] [_,_,_] af ak 1 [.f (-1) ae (.a aj ab)] rfl h2) C.lo
 ·rw[Ha,List.nodup_append];exact⟨L.nd,List.pairwise_singleton _ _,fun x hx y hy e=>hn (by have q:y=k:=List.mem_singleton.mp hy;rw[←q,←e];exact hx)⟩
 ·rcases List.mem_append.mp he with q|q
  ·exact L.kb e q
  ·rw[List.mem_singleton.mp q];exact c0
 ·rcases List.mem_append.mp he with q|q
  ·exact L.wb e q
  ·rw[List.mem_singleton.mp q];exact hw
theorem yH{a0:Ab}{sp:Int}{d:List UInt8}(hm:jD a0.mal)(h1:0<sp)(h2:sp≤a0.T.length)(hT:a0.T.length≤900000)(hs:B4 a0.T sp d) :
  nv 0 sp [0,0] (cR a0 2)∧∃q0,oI a0 (dA (cR a0 2) 0 sp 0) [q0,0]∧(dA (cR a0 2) 0 sp 0).T.length≤a0.T.length+20∧
   ∀T' p,(∃X,T'=X++(dA (cR a0 2) 0 sp 0).T)→((dA (cR a0 2) 0 sp 0).T.length:Int)<p→z4 T' true p q0 (d.map fun c:UInt8=>(c.toNat:Int)):=by
 have O:=oI.start hm 2;have c2:=(cP (cR a0 2) (s:=4) (add:=0) sz4).1;have h3:(cR a0 2).T.length=a0.T.length:=rfl;refine⟨⟨⟨by exact(lin [_] [] an aa 1 [.i 1 bt aa] rfl h1),by exact(lin [_] [_,_,_] aa af 1 [.i 1 aa ak,.i 1 av af,.f (-1) aj ae] rfl h2 c2 h3),by exact cG [] [_,_] ab aF 1 [.j 1 ae aS,.f 1 ab ae] rfl hT h3⟩,oW rfl rfl (by decide) (by decide)⟩,?_⟩
 refine e1e (pJ (o:=0) (x:=sp) O h1 (by exact lin [_] [_,_] aa af 1 [.i 1 aa ak,.f (-1) ab ae] rfl h2 h3) (by exact cG [] [_,_] ab aF 1 [.j 1 ae aS,.f 1 ab ae] rfl hT h3)) fun q0 P g1 g2 g3 _=>?_
 have hl:=P.len;refine⟨q0,P.inv,by exact(cG [] [_,_,_] ab (.a ae (.n 20)) 1 [.f 1 aj ae,.j 1 ab (.a aj (.n 8))] rfl h3 hl),fun T' p hX hp=>⟨sp,d,rfl,g1,by exact(lin [_,_] [_] bi am 1 [.i 1 aa af,.i 1 bv am] rfl g2 hp),g3.suf hX,?_⟩⟩
 refine hs.suf (e1a hX fun X hX=>e1a P.suf fun Y hY=>⟨X++Y,by rw[hX,hY,GE];rfl⟩)
theorem BA{a0:Ab}{n:Int}(hm:jD a0.mal)(hf:a0.force=false)(h1 : -32768≤n)(h2:n≤32767)(hT:a0.T.length≤900000) :
  lA .h 0 n 0 [0,0] (cR a0 2)∧∃q0,oI a0 (eA (cR a0 2) .h 0 n 0) [q0,0]∧(eA (cR a0 2) .h 0 n 0).T.length≤a0.T.length+20∧
   ∀T' p,(∃X,T'=X++(eA (cR a0 2) .h 0 n 0).T)→((eA (cR a0 2) .h 0 n 0).T.length:Int)<p→z4 T' false p q0 [n]:=by
 have O:=oI.start hm 2;have h3:(cR a0 2).T.length=a0.T.length:=rfl;refine⟨⟨⟨h1,h2,by exact cG [] [_,_] ab aF 1 [.j 1 ae aS,.f 1 ab ae] rfl hT h3⟩,by decide,by decide,oW rfl rfl (by decide) (by decide)⟩,?_⟩
 refine e1b (qa (F:=.h) (o:=0) (x:=n) O hf h1 h2 rfl) fun q0 P N=>?_;have hl:=P.len;exact⟨q0,P.inv,by exact(cG [] [_,_,_] ab (.a ae (.n 20)) 1 [.f 1 aj ae,.j 1 ab (.a aj (.n 16))] rfl h3 hl),fun T' p hX hp=>⟨n,rfl,N.num hX hp⟩⟩
end
section
noncomputable def rz(a:Int)(m:Nat):List P:=(List.range m).map fun(k:Nat)=>P.int (a+k)
theorem kH(a b:Int):mN a b 1=rz a (b-a).toNat:=by
 unfold mN rz;have e:(Builtin.Range.rangeSize a b 1).toNat=(b-a).toNat:=by
  unfold Builtin.Range.rangeSize;simp
  split<;>lia
 rw[e];exact List.map_congr_left fun k _=>by rw[Int.mul_one]
theorem ry{x:P}{xs:List P}{a:Int}{m:Nat}(h:x::xs=rz a m):∃n,m=n+1∧x=.int a∧xs=rz (a+1) n:=by
 cases m with
 |zero=>exact cn h
 |succ n=>
  unfold rz at h;rw[List.range_succ_eq_map,List.map_cons,List.map_map]at h;have h1:=List.cons.inj h;refine⟨n,rfl,h1.1.trans (congrArg P.int (Int.add_zero a)),h1.2.trans ?_⟩;exact List.map_congr_left fun k _=>congrArg P.int (by show a+((k+1:Nat):Int)=a+1+k;lia)
theorem zw{a:Int}{m:Nat}(h:[]=rz a m):m=0:=by
 cases m with
 |zero=>rfl
 |succ n=>unfold rz at h;rw[List.range_succ_eq_map]at h;exact nc h
noncomputable def sU(d:List UInt8):List P:=d.map fun c=>.int (c.toNat:Int)
structure la(x:Str)(d:List UInt8)(n:Nat):Prop where
 enc:iA x=d
 sur:∀c∈x.cps.toList,Str.isSurrogate c=false
 len:d.length≤4*n
 xl:x.length≤n
theorem la.app{x y:Str}{d e:List UInt8}{n m:Nat}(h:la x d n)(k:la y e m):la (x++y) (d++e) (n+m):=by
 have e1:(x++y).cps.toList=x.cps.toList++y.cps.toList:=by show(x.cps++y.cps).toList=_;simp
 have h1:=h.len;have h2:=k.len;have h3:=h.xl;have h4:=k.xl;refine⟨?_,?_,by rw[Gr];exact(cG [] [_,_,_,_] bg (.m 4 bG) 1 [.j 1 ab (.m 4 aj),.j 1 ae (.m 4 au)] rfl h1 h2),?_⟩
 ·unfold iA;rw[e1,Ha,List.flatten_append];exact congr (congrArg _ h.enc) k.enc
 ·rw[e1];intro c hc;rcases List.mem_append.mp hc with q|q
  ·exact h.sur c q
  ·exact k.sur c q
 ·have:(x++y).length=x.length+y.length:=by show(x.cps++y.cps).size=_;simp;rfl
  exact cG [] [_,_,_,_,_] ab bz 1 [.j 1 au ae,.j 1 aB aj,.f 1 ab (.a au aB)] rfl h3 h4 this
noncomputable def EV:List P:=[.tup [.str "a", .lst [.int 97]], .tup [.str "b", .lst [.int 98]], .tup [.str "é", .lst [.int 195, .int 169]], .tup [.str "😀", .lst [.int 240, .int 159, .int 152, .int 128]]]
theorem AJ{v:Int}(h0:0≤v)(h1:v<4):∃x d,EV[v.toNat]?=some (.tup [.str x, .lst (sU d)])∧la x d 1:=by
 have h:v.toNat<4:=by exact cG [_] [_] bc aC 1 [.i 1 bi ap,.e 1 af aa] rfl h1 (Gl (h0))
 generalize v.toNat=w at h
 cases w with
 |zero=>exact⟨"a",[97],rfl,by decide +kernel,by decide +kernel,by decide,by decide +kernel⟩
 |succ w=>cases w with
 |zero=>exact⟨"b",[98],rfl,by decide +kernel,by decide +kernel,by decide,by decide +kernel⟩
 |succ w=>cases w with
 |zero=>exact⟨"é",[195,169],rfl,by decide +kernel,by decide +kernel,by decide,by decide +kernel⟩
 |succ w=>cases w with
 |zero=>exact⟨"😀",[240,159,152,128],rfl,by decide +kernel,by decide +kernel,by decide,by decide +kernel⟩
 |succ w=>exact absurd h (Nat.not_lt.mpr (Nat.le_add_left 4 w))
@[irreducible] noncomputable def si:Ctr:=fun args kws objs Q=>∃xs i m,args=[.ref 0, .p (.int m)]∧kws=[]∧objs=[bxO xs i]∧q8 xs i m∧m≤4∧∀x d i',la x d 3→0≤i'→Q (.p (.tup [.str x, .lst (sU d)])) [bxO xs i']
structure Tx where
 x:Str
 d:List UInt8
 i:Int
 n:Nat
 p:Option P
 q:Option P
 r:Option P
theorem DV{Φ:Addr→Option Ctr}(hT:AT Φ eN nQ):BD Φ si (cQ 2) 5 mG:=fun args kws objs Q hq=>by
 unfold si at hq;refine e3f hq fun xs i m ck c1 a4 h hm a0=>?_;clear hq;subst ck c1 a4;refine qW (env:=[.ref 0, .p (.int m)]) rfl fun K hK=>?_;lk;refine⟨G1 _,?_⟩;lk;refine dG hT rfl rfl (gH h fun v i1 d4 cc b7=>?_);lk;refine⟨⟨by decide,by decide,by exact(lin [_] [] ay aa 1 [.i 1 an aa] rfl d4),by exact(lin [_,_] [] aa aG 1 [.i 1 am ap,.i 1 bi am] rfl hm cc), .inl rfl⟩,?_⟩
 rw[kH];refine qt (n0:=1) (ι:=Tx) (fun j=>⟨[some (.ref 0),some (.p (.int m)),some (.p (.str j.x)),some (.p (.lst (sU j.d))),j.p.map .p,j.q.map .p,j.r.map .p],[bxO xs j.i]⟩) (fun l j=>(∃a k,l=rz a k∧k+j.n≤3)∧la j.x j.d j.n∧0≤j.i)
  (fun x l j K3 hj hn=>⟨trivial,?_⟩) (fun j hj=>⟨trivial,?_⟩) _ ⟨"",[],i1,0,none,none,none⟩ ⟨⟨0,_,rfl,by exact cG [_,_] [_] (.a ab ax) a6 1 [.i 1 aa ap,.i 1 bA aa,.e 1 af (.s am an)] rfl hm cc (Gl (lin [_] [] an (.s aa an) 1 [.i 1 an aa] rfl d4))⟩,⟨rfl,(fun c hc=>nomatch hc),Gw 0,Gw 0⟩,b7⟩
 ·refine e0c hj fun hr ht hi=>?_;refine e2b hr fun a k hl hk=>?_;refine e1c (ry hl) fun k' ek ex df=>?_;subst ek ex df;lk;refine dG hT rfl rfl (gH ⟨hi,by decide,h.l⟩ fun u i2 a5 hu1 eb=>?_)
  refine e2b (AJ a5 hu1) fun y e hy a3=>?_;lk;refine jZ a5 hy (GB rfl) ?_;have htt:=ht.app a3;have h1:=ht.xl;have h2:=a3.xl;have h3:=ht.len;have h4:=a3.len;lk;refine⟨by exact(cG [] [_,_,_,_] bg aq 1 [.j 1 (.a bf au) a6,.j 1 ab au,.j 1 ae ai] rfl hk h1 h2),?_⟩
  lk;refine⟨by unfold sU;rw[GA,GA];exact(cG [] [_,_,_,_] bg aq 1 [.j 4 (.a bf au) a6,.j 1 ab (.m 4 au),.j 1 ae (.m 4 ai)] rfl hk h3 h4),?_⟩
  lk;rw[show sU j.d++sU e=sU (j.d++e)from(Ha ..).symm]
  exact(hn _ ⟨j.x++y,j.d++e,i2,j.n+1,some (.int a),some (.str y),some (.lst (sU e))⟩ rfl ⟨⟨a+1,k',rfl,by exact cG [] [_,_] cp a6 1 [.j 1 (.a bc ae) a6] rfl hk⟩,htt,eb⟩).1
 ·refine e0c hj fun hr ht hi=>?_;refine e2b hr fun a k hl hk=>?_;lk;refine⟨GB rfl,?_⟩;lk;refine hK (.ret (.p (.tup [.str j.x, .lst (sU j.d)]))) _ [bxO xs j.i] [] rfl rfl (a0 _ _ _ ⟨ht.enc,ht.sur,?_,?_⟩ hi)
  ·have:=ht.len;exact cG [] [_,_,_] ab (.m 4 a6) 1 [.j 4 bz a6,.j 1 ab (.m 4 aj)] rfl hk this
  ·have:=ht.xl;exact cG [] [_,_,_] ab a6 1 [.j 1 bz a6,.j 1 ab aj] rfl hk this
def Ci(t:Bool)(told:P)(k:List Int):Prop:=match t with
 |true=>∃x d,told=.str x∧k=d.map (fun c:UInt8=>(c.toNat:Int))∧la x d 3
 |false=>∃n,told=.int n∧k=[n]∧-5000≤n∧n≤5000
theorem Ci.len{t:Bool}{told:P}{k:List Int}(h:Ci t told k):t=false→k.length=1:=fun e=>by
 subst e;exact e1d h fun n _ h2 _ _=>by rw[h2];rfl
theorem Ci.kb{t:Bool}{told:P}{k:List Int}(h:Ci t told k):B8 t k:=fun e=>by
 subst e;exact e1d h fun n _ h2 h3 h4=>⟨n,h2,by exact(lin [_] [] (.n (-32768)) aa 1 [.i 1 (.n (-5000)) aa] rfl h3),by exact lin [_] [] aa (.n 32767) 1 [.i 1 aa (.n 5000)] rfl h4⟩
@[irreducible] noncomputable def zU:Ctr:=fun args kws objs Q=>∃xs i t,args=[.ref 0, .p (.bool t)]∧kws=[]∧objs=[bxO xs i]∧(0≤i∧xs.length≤64)∧∀told k i',Ci t told k→0≤i'→Q (.p (.tup [told,kP t k])) [bxO xs i']
theorem wf{xs:List Int}{i:Int}{t:Bool}{Q:V→List O→Prop}(h0:0≤i)(hl:xs.length≤64)(h:∀told k i',Ci t told k→0≤i'→Q (.p (.tup [told,kP t k])) [bxO xs i']):zU [.ref 0, .p (.bool t)] [] [bxO xs i] Q:=by
 unfold zU;exact⟨xs,i,t,rfl,rfl,rfl,⟨h0,hl⟩,h⟩
theorem xB{xs:List Int}{i:Int}{Q:V→List O→Prop}(h0:0≤i)(hl:xs.length≤64)(h:∀x d i',la x d 3→0≤i'→Q (.p (.tup [.str x, .lst (sU d)])) [bxO xs i']):si [.ref 0, .p (.int 4)] [] [bxO xs i] Q:=by
 unfold si;exact⟨xs,i,4,rfl,rfl,rfl,⟨h0,by decide,hl⟩,by decide,h⟩
theorem FL{Φ:Addr→Option Ctr}(hT:AT Φ eN nQ)(hX:AT Φ gC si):BD Φ zU (cQ 2) 3 nZ:=fun args kws objs Q hq=>by
 unfold zU at hq;refine e3e hq fun xs i t ck c1 a4 h a0=>?_;clear hq;subst ck c1 a4;refine qW (env:=[.ref 0, .p (.bool t)]) rfl fun K hK=>?_
 cases t with
 |true=>
  lk;refine dG hX rfl rfl (xB h.1 h.2 fun x d i1 ht b7=>?_);lk;refine⟨⟨trivial,by unfold sU;rw[GA];have:=ht.len;exact cG [] [_] ab aq 1 [.j 1 ab (.m 4 a6)] rfl this⟩,?_⟩
  lk;refine⟨GB rfl,?_⟩;lk;refine hK (.ret (.p (.tup [.str x, .tup (sU d)]))) _ [bxO xs i1] [] rfl rfl ?_;have e:sU d=(d.map fun c:UInt8=>(c.toNat:Int)).map .int:=by rw[List.map_map];rfl
  rw[e];exact a0 (.str x) (d.map fun c:UInt8=>(c.toNat:Int)) i1 ⟨x,d,rfl,rfl,ht⟩ b7
 |false=>
  lk;refine dG hT rfl rfl (gH ⟨h.1,by decide,h.2⟩ fun v i1 d4 cc b7=>?_)
  lk;refine⟨by decide,?_⟩
  lk;refine⟨GB rfl,?_⟩;lk;exact hK (.ret (.p (.tup [.int (v*1000-5000), .int (v*1000-5000)]))) _ [bxO xs i1] [] rfl rfl (a0 (.int (v*1000-5000)) [v*1000-5000] i1 ⟨_,rfl,rfl,by exact(lin [_] [] (.n (-5000)) (.s (.r aa 1000) (.n 5000)) 1 [.i 1000 an aa] rfl d4),by exact lin [_] [] (.s (.r aa 1000) (.n 5000)) (.n 5000) 1 [.i 1000 bi (.n 11)] rfl cc⟩ b7)
end
section
structure RdE(d:List UInt8)(t:Bool)(R q1 vp:Int)(rs:List En):Prop where
 dl:d.length≤16777216
 tab:ut d R [0,q1]
 n1:q1≠0
 l1:q1<R
 f1:FldE .I d q1 (q1-vp)
 fv:FldE .I d vp rs.length
 el:∀(i:Nat) e,rs[i]?=some e→FldE .I d (vp-4-4*i) (vp-4-4*i-e.p)∧EnE d t e
 few:rs.length≤1000
section
variable {d:List UInt8}{t:Bool}{R q1 vp:Int}{rs:List En}
theorem RdE.off(h:RdE d t R q1 vp rs):oG d (d.length-R) 6∧nY d (d.length-R) 6=R-q1:=by
 have g:=vF h.tab h.dl 1;exact⟨g.1,g.2.trans (if_neg h.n1)⟩
theorem RdE.vec(h:RdE d t R q1 vp rs):Ej d (d.length-R) (R-q1)∧R-q1+(d.length-R)+rdF .I d (R-q1+(d.length-R))+4=d.length-vp+4:=by
 have g:=lO h.f1 h.dl;have h1:=h.tab.lo;have h2:=h.tab.hi;have h3:=h.dl;have h4:=h.l1;have h5:=h.f1.lo;rw[show R-q1+((d.length:Int)-R)=d.length-q1 by lia,g.2]
 have h5:((4:Nat):Int)≤q1:=h5;exact⟨⟨by exact(lin [_,_] [] an bn 1 [.i 1 bA aa] rfl h4),by exact(lin [_,_] [_] bn aP 1 [.i 1 aa af,.j 1 ab aq,.i 1 (.c aC) am] rfl h2 h3 h5),by rw[show R-q1+((d.length:Int)-R)=d.length-q1 by lia];exact g.1⟩,by lia⟩
theorem RdE.veclen(h:RdE d t R q1 vp rs):tB d (d.length-R) (R-q1)∧rdF .I d (R-q1+(d.length-R)+rdF .I d (R-q1+(d.length-R)))=rs.length:=by
 have g:=lO h.f1 h.dl;have g2:=lO h.fv h.dl;have v:=h.vec.1;have e1:R-q1+((d.length:Int)-R)=d.length-q1:=by lia
 have e2:(d.length:Int)-q1+(q1-vp)=d.length-vp:=by lia
 have b2:inB .I d (R-q1+(d.length-R)+rdF .I d (R-q1+(d.length-R))):=by rw[e1,g.2,e2];exact g2.1
 refine⟨⟨v.n0,v.n1,v.b1,b2⟩,?_⟩;rw[e1,g.2,e2];exact g2.2
theorem RdE.at_(h:RdE d t R q1 vp rs){i:Nat}{e:En}(he:rs[i]?=some e):inB .I d (d.length-vp+4+4*i)∧d.length-vp+4+4*i+rdF .I d (d.length-vp+4+4*i)=d.length-e.p∧(0≤(d.length:Int)-e.p∧(d.length:Int)-e.p≤4294967295):=by
 have g:=lO (h.el i e he).1 h.dl;have e1:(d.length:Int)-vp+4+4*i=d.length-(vp-4-4*i):=by lia
 rw[e1,g.2];refine e2c (h.el i e he).2 fun q0 q1 h1 _ _=>?_;have h2:=h1.lo;have h3:=h1.hi;have h4:=h.dl;exact⟨g.1,by lia,by exact(lin [_] [_] an bl 1 [.i 1 aa af] rfl h3),by exact lin [_] [_] bl aP 1 [.i 1 ap aa,.j 1 ab aq] rfl h2 h4⟩
theorem td{e:En}(h:EnE d t e)(hd:d.length≤16777216):sD .i d (d.length-e.p) 6 0∧uY .i d (d.length-e.p) 6 0=e.w:=by
 refine e2c h fun q0 q1 h1 _ h3=>?_;have g:=zD h1 hd (i:=1) rfl h3;exact⟨⟨by decide,by decide,by decide,by decide,g.1,g.2.1⟩,g.2.2⟩
theorem Dz{e:En}(h:EnE d false e)(hd:d.length≤16777216):∃n,e.k=[n]∧sD .h d (d.length-e.p) 4 0∧uY .h d (d.length-e.p) 4 0=n:=by
 refine e2c h fun q0 q1 h1 h2 _=>?_;refine e1b h2 fun n h3 h4=>?_;have g:=zD h1 hd (i:=0) rfl h4;exact⟨n,h3,⟨by decide,by decide,by decide,by decide,g.1,g.2.1⟩,g.2.2⟩
theorem BB{e:En}(h:EnE d true e)(hd:d.length≤16777216):∃s:List UInt8,e.k=s.map (fun c:UInt8=>(c.toNat:Int))∧oG d (d.length-e.p) 4∧zY d (d.length-e.p+nY d (d.length-e.p) 4)∧Ev d (d.length-e.p+nY d (d.length-e.p) 4)=s:=by
 refine e2c h fun q0 q1 h1 h2 _=>?_;refine e2e h2 fun sp s h3 h4 h5 h6 h7=>?_;have g:=vF h1 hd 0;have e1:nY d (d.length-e.p) 4=e.p-q0:=g.2.trans (if_neg h4);rw[e1,show(d.length:Int)-e.p+(e.p-q0)=d.length-q0 by lia]
 have g6:=lO h6 hd;have g7:=lO h7.n hd;have e2:kA d (d.length-q0)=d.length-sp:=by unfold kA;rw[g6.2];lia
 have a0:=h7.lo;have e9:=h7.n.hi;refine⟨s,h3,g.1,⟨g6.1,by rw[e2];exact g7.1,by rw[e2,g7.2];exact(lin [] [_] an af 1 [] rfl),by rw[e2,g7.2];exact lin [_] [_,_] (.a cq ak) af 1 [.i 1 bB aa] rfl a0⟩,?_⟩
 unfold Ev cut;rw[e2,g7.2,show((d.length:Int)-sp+4).toNat=d.length-sp.toNat+4 by lia,show((d.length:Int)-sp+4+s.length).toNat-(d.length-sp.toNat+4)=s.length by lia]
 exact h7.eq
end
end
section
structure Rw where
 d:List UInt8
 t:Bool
 R:Int
 q1:Int
 vp:Int
 rs:List En
noncomputable def Rw.o(w:Rw)(v:Nat):O:=Tw.o ⟨w.d,w.d.length-w.R,v⟩
def Rw.ok(w:Rw):Prop:=RdE w.d w.t w.R w.q1 w.vp w.rs
@[irreducible] noncomputable def l7:Ctr:=fun args kws objs Q=>∃(w:Rw) (v k:Nat) (e:En),args=[.ref 0, .p (.int k), .p (.bool w.t)]∧kws=[]∧objs=[w.o v]∧w.ok∧w.rs[k]?=some e∧
 ∀v',Q (.tup [.p (kP w.t e.k), .ref 1]) [w.o v,Tw.o ⟨w.d,w.d.length-e.p,v'⟩]
theorem oX{w:Rw}{v k:Nat}{e:En}{Q:V→List O→Prop}(h:w.ok)(he:w.rs[k]?=some e)(hq:∀v',Q (.tup [.p (kP w.t e.k), .ref 1]) [w.o v,Tw.o ⟨w.d,w.d.length-e.p,v'⟩]) :
  l7 [.ref 0, .p (.int k), .p (.bool w.t)] [] [w.o v] Q:=by
 unfold l7;exact⟨w,v,k,e,rfl,rfl,rfl,h,he,hq⟩
theorem DT{ac:List V→List (Str×P)→Option (List V)}{k:Nat}{S:S}{G:Pg}{args:List V}{kws:List (Str×P)}{objs:List O}{Q:V→List O→Prop}{env:List V}(hb:ac args kws=some env)
  (h:∀K:Fl→St→Prop,(∀fl e os r,objs.length≤os.length→scp os.length (uy fl)=true→Q (uy fl) os→K fl ⟨e,os++r⟩)→wS G S ⟨env.map some++List.replicate k none,objs⟩ K):ez ac k S G args kws objs Q:=by
 unfold ez;rw[hb];refine h _ fun fl e os r hl hs hq=>⟨os.length,⟨hl,?_,hs⟩,?_⟩
 ·rw[Gr];exact Nat.le_add_right _ _
 ·refine(?_:Q _ ((os++r).take os.length));rw[List.take_left' rfl];exact hq
theorem DX{Φ:Addr→Option Ctr}(hO:AT Φ d0 fL)(hC:AT Φ ej (fu jy ej 2))(hI:AT Φ fT yZ)(hV:AT Φ io yX)(hS:AT Φ ip yY)(hG:AT Φ dR kY) :
  BD Φ l7 (cQ 3) 2 mI:=fun args kws objs Q hq=>by
 unfold l7 at hq;obtain⟨w,v,k,e,rfl,rfl,rfl,h,he,hq⟩:=hq;obtain⟨d,t,R,q1,vp,rs⟩:=w;have h:RdE d t R q1 vp rs:=h;have he:rs[k]?=some e:=he;have hh:=h.at_ he;refine DT (env:=[.ref 0, .p (.int k), .p (.bool t)]) rfl fun K hK=>?_;lk;refine gE hO 0 {x:=6} ⟨d,d.length-R,v⟩ (.int (R-q1)) rfl rfl h.off.1 (congrArg P.int h.off.2) ?_;lk;refine gE hV 0 {x:=R-q1} ⟨d,d.length-R,v⟩ (.int (d.length-vp+4)) rfl rfl h.vec.1 (congrArg P.int h.vec.2) ?_;lk;refine⟨⟨by exact(lin [] [_] (.a (.n (-18446744073709551616)) ao) af 1 [] rfl),by have:=h.few;have:=(List.getElem?_eq_some_iff.mp he).1;exact lin [] [_,_] bv (.n 18446744073709551616) 1 [.j 1 ae aJ,.j 1 bc ae] rfl (by assumption) this⟩,?_⟩
 lk;refine gE hI 0 {x:=d.length-vp+4+4*k} ⟨d,d.length-R,v⟩ (.int (d.length-e.p)) rfl rfl hh.1 (congrArg P.int hh.2.1) ?_;lk;refine zS hC hh.2.2 fun a5=>?_
 cases t with
 |true=>
  refine e1d (BB (h.el k e he).2 h.dl) fun s g1 g2 g3 g4=>?_;lk;refine ei hO 1 {x:=4} ⟨d,d.length-e.p,a5⟩ rfl g2 ?_;lk;refine gE hS 1 {x:=d.length-e.p+nY d (d.length-e.p) 4} ⟨d,d.length-e.p,a5⟩ (.bytes s) rfl rfl g3 (congrArg P.bytes g4) ?_;lk;refine⟨?_,?_⟩
  ·rw[←g4];unfold Ev cut;rw[GW,GX];have:=h.dl;exact Gp (Nat.min_le_right _ _) (Gp (Nat.sub_le _ _) this)
  lk;refine⟨GB rfl,?_⟩;lk;have hq:=hq a5;rw[g1,show kP true (s.map fun c:UInt8=>(c.toNat:Int))=.tup (sU s)from congrArg P.tup (List.map_map ..)]at hq
  exact hK (.ret _) _ [_,_] [] (Nat.le_succ 1) rfl hq
 |false=>
  refine e1c (Dz (h.el k e he).2 h.dl) fun n g1 g2 g3=>?_;lk;refine gE hG 1 {x:=4,y:=0,g:=.h} ⟨d,d.length-e.p,a5⟩ (.int n) rfl rfl g2 (congrArg P.int g3) ?_;lk;refine⟨GB rfl,?_⟩;lk;have hq:=hq a5;rw[g1]at hq;exact hK (.ret _) _ [_,_] [] (Nat.le_succ 1) rfl hq
structure nT(rs:List En)(key:List Int)(low high:Int):Prop where
 l0:0≤low
 lh:low≤high
 hn:high≤rs.length
 lo:∀(i:Nat) e,rs[i]?=some e→(i:Int)<low→ltL e.k key=true
 hi:∀(i:Nat) e,rs[i]?=some e→high≤i→ltL e.k key=false
def nw(rs:List En):Prop:=∀(i j:Nat) e f,rs[i]?=some e→rs[j]?=some f→i<j→ltL e.k f.k=true
theorem nT.up{rs:List En}{key:List Int}{low high:Int}(h:nT rs key low high)(S:nw rs){m:Nat}{e:En}(h1:low≤m)(h2:(m:Int)<high)(he:rs[m]?=some e)(q:ltL e.k key=true):nT rs key (m+1) high:=
 ⟨by have:=h.l0;lia,by exact(h2),h.hn,fun i f hf hi=>by
  rcases G5 i m with a|a
  ·exact sW _ _ _ (S i m f e hf he a) q
  ·have:i=m:=by exact Nat.le_antisymm (cG [] [_,_] ab ae 1 [.i 1 bv (.a ak ao)] rfl hi) (a)
   subst this;rw[he]at hf;obtain rfl:=sj hf;exact q,h.hi⟩
theorem nT.down{rs:List En}{key:List Int}{low high:Int}(h:nT rs key low high)(S:nw rs){m:Nat}{e:En}(h1:low≤m)(h2:(m:Int)<high)(he:rs[m]?=some e)(q:ltL e.k key=false):nT rs key low m:=
 ⟨h.l0,h1,by have:=h.hn;exact(lin [_] [_,_] af ak 1 [.i 1 bv aa,.i 1 aa ak] rfl h2 this),h.lo,fun i f hf hi=>by
  rcases Nat.eq_or_lt_of_le (show m≤i by exact cG [] [_,_] ab ae 1 [.i 1 af ak] rfl hi)with a|a
  ·subst a;rw[he]at hf;obtain rfl:=sj hf;exact q
  ·cases z:ltL f.k key with
   |false=>rfl
   |true=>rw[sW _ _ _ (S m i e f he hf a) z]at q;exact absurd q (by decide)⟩
def Cj(n:Nat)(a0 left:Int):Prop:=0≤a0∧∀s:Nat,n<2 ^ s→a0≤s∧left<2 ^ (s-a0.toNat)
theorem Cj.step{n:Nat}{a0 left a3:Int}(h:Cj n a0 left)(h1:0<left)(h2:2*a3≤left):Cj n (a0+1) a3:=by
 refine⟨by have:=h.1;exact(lin [_] [] an bi 1 [.i 1 an aa] rfl this),fun s hs=>?_⟩
 have h0:=h.1;refine e0b (h.2 s hs) fun h3 h4=>?_;have h5:0<s-a0.toNat:=by
  rcases Nat.eq_zero_or_pos (s-a0.toNat)with q|q
  ·rw[q]at h4;have h4:left<1:=h4;exact False.elim (v8 [_] [] [.i 1 bt aa,.i 1 bi ao] rfl h1 (by assumption))
  ·exact q
 refine⟨by exact(lin [_] [_,_,_] bi af 1 [.j 1 bj ae,.e (-1) av aa,.f 1 bz ab] rfl h5 (Gl (h0)) (Go (cG [_] [_,_] ab ae 1 [.i 1 aa ak,.e 1 af aa] rfl h3 (Gl (h0))))),?_⟩
 obtain⟨r,hr⟩:∃r,s-a0.toNat=r+1:=⟨s-a0.toNat-1,by exact Eq.symm (Go (cG [] [_] ai ab 1 [.j 1 bj ab] rfl h5))⟩
 rw[hr,Int.pow_succ]at h4;rw[show s-(a0+1).toNat=r by exact(jl [_] [_,_,_,_,_,_] ab ae [.f 1 aj be,.e 1 az aa,.e (-1) aR bi,.f (-1) bG aM,.f 1 (.a ab aB) aM] rfl hr (Gl (h0)) (Gl (lin [_] [] an bi 1 [.i 1 an aa] rfl h0)) (Go (cG [_] [_,_] ab ae 1 [.i 1 aa ak,.e 1 af aa] rfl h3 (Gl (h0)))) (Go (cG [_] [_,_,_,_] ab ae 1 [.j 1 bj aj,.e (-1) az aa,.e 1 af bi,.f 1 bG ae] rfl h5 (Gl (h0)) (Gl (lin [_] [] an bi 1 [.i 1 an aa] rfl h0)) (Go (cG [_] [_,_] ab ae 1 [.i 1 aa ak,.e 1 af aa] rfl h3 (Gl (h0)))))))]
 exact lin [_,_,_] [] bi am 2 [.i 1 (.m 2 aa) aD,.i 1 bQ (.r am 2)] rfl h2 h4
@[irreducible] noncomputable def j5:Ctr:=fun args kws objs Q=>∃(w:Rw) (v:Nat) (key:List Int),args=[.ref 0, .p (kP w.t key), .p (.bool w.t)]∧kws=[]∧objs=[w.o v]∧(w.ok∧nw w.rs∧(w.t=false→key.length=1)∧∀e∈w.rs,w.t=false→e.k.length=1)∧
 ∀low a0,nT w.rs key low low→Cj w.rs.length a0 0→Q (.p (.tup [.int low, .int a0])) [w.o v]
theorem wL{t:Bool}{a b:List Int}{st:St}{Q:V→St→Prop}(ha:t=false→a.length=1)(hb:t=false→b.length=1)(h:Q (.p (.bool (ltL a b))) st):r0 .Lt (.p (kP t a)) (.p (kP t b)) st Q:=by
 cases t with
 |true=>exact⟨a,b,⟨rfl,rfl⟩,h⟩
 |false=>
  refine e1a (kB (ha rfl)) fun i e=>e1a (kB (hb rfl)) fun j e'=>?_;clear ha hb;subst e e';have:ltL [i] [j]=decide (i<j):=by unfold ltL ltL;simp
  exact(this▸h:Q (.p (.bool (decide (i<j)))) st)
theorem CO{G:Pg}{i j:Nat}{A B C:S}{st:St}{Q:Fl→St→Prop}{t:Bool}{a b:List Int}(hi:st.env[i]?=some (some (.p (kP t a))))(hj:st.env[j]?=some (some (.p (kP t b))))(ha:t=false→a.length=1)(hb:t=false→b.length=1)
  (h1:ltL a b=true→wS G (.seq A C) st Q) (h2:ltL a b=false→wS G (.seq B C) st Q):wS G (.seq (.ite (.cmp .Lt (.var i) (.var j)) A B) C) st Q:=by
 show jr st.env i fun x=>jr st.env j fun y=>r0 .Lt x y st fun v st=>fB v st fun u=>br u (wS G A st fun f st=>match f with|.next=>wS G C st Q|f=>Q f st) (wS G B st fun f st=>match f with|.next=>wS G C st Q|f=>Q f st)
 unfold jr;rw[hi,hj];exact wL ha hb (c9 h1 h2)
theorem BU{Φ:Addr→Option Ctr}(hO:AT Φ d0 fL)(hL:AT Φ dz gO)(hS:AT Φ dQ l7):BD Φ j5 (cQ 3) 6 lF:=fun args kws objs Q hq=>by
 unfold j5 at hq;obtain⟨w,v,key,rfl,rfl,rfl,⟨h,hso,f3,d4⟩,hq⟩:=hq;have h':RdE w.d w.t w.R w.q1 w.vp w.rs:=h;refine qW (env:=[.ref 0, .p (kP w.t key), .p (.bool w.t)]) rfl fun K hK=>?_;lk;refine gE hO 0 {x:=6} ⟨w.d,w.d.length-w.R,v⟩ (.int (w.R-w.q1)) rfl rfl h'.off.1 (congrArg P.int h'.off.2) ?_;lk;refine gE hL 0 {x:=w.R-w.q1} ⟨w.d,w.d.length-w.R,v⟩ (.int w.rs.length) rfl rfl h'.veclen.1 (congrArg P.int h'.veclen.2) ?_;lk;refine xq (n0:=1) (fun j=>⟨[some (.ref 0),some (.p (kP w.t key)),some (.p (.bool w.t)),some (.p (.int j.x)),some (.p (.int j.y)),some (.p (.int j.k)),j.o.map .p,j.q.map .p,none],[w.o v]⟩) (fun j=>(j.y-j.x).toNat) (fun j=>nT w.rs key j.x j.y∧Cj w.rs.length j.k (j.y-j.x))
  (fun j K2 hj hn _ _=>?_) {x:=0,y:=w.rs.length,k:=0} ⟨⟨GP 0,G4 _,GP _,fun i e he hi=>by lia,fun i e he hi=>by have:=(List.getElem?_eq_some_iff.mp he).1;lia⟩,GP 0,fun s hs=>⟨G4 s,by show((w.rs.length:Int)-0)<2 ^ (s-0);rw[Int.sub_zero,Nat.sub_zero];exact_mod_cast hs⟩⟩
 refine e0b hj fun hc hv=>?_;lk;refine c9 (fun q=>?_) (fun q=>?_)
 ·have q:=GI q;have c0:=hc.l0;have c1:=hc.hn;obtain⟨m,hm⟩:∃m:Nat,(j.x+j.y) / 2=m:=⟨((j.x+j.y) / 2).toNat,by lia⟩
  obtain⟨e,he⟩:∃e,w.rs[m]?=some e:=⟨w.rs[m]'(by lia),GD (by lia)⟩
  lk;refine eK (ι:=Nat) (fun v'=>⟨[some (.ref 0),some (.p (kP w.t key)),some (.p (.bool w.t)),some (.p (.int j.x)),some (.p (.int j.y)),some (.p (.int j.k)),some (.p (.int m)),some (.p (kP w.t e.k)),some (.ref 1)],[w.o v,Tw.o ⟨w.d,w.d.length-e.p,v'⟩]⟩) (fun _=>True) (fun K3 d3=>?_) fun v' _=>?_
  ·conv=>whnf
   rw[hm];exact dG hS rfl rfl (oX (w:=w) h he fun v'=>d3 v' trivial)
  refine eK (ι:=Unit) (fun _=>⟨[some (.ref 0),some (.p (kP w.t key)),some (.p (.bool w.t)),some (.p (.int j.x)),some (.p (.int j.y)),some (.p (.int (j.k+1))),some (.p (.int m)),some (.p (kP w.t e.k)),some (.ref 1)],[w.o v,Tw.o ⟨w.d,w.d.length-e.p,v'⟩]⟩) (fun _=>True) (fun K3 d3=>?_) fun _ _=>?_
  ·exact d3 () trivial
  refine CO rfl rfl (d4 e (GV he)) f3 (fun z=>?_) fun z=>?_
  ·exact(hn _ {x:=m+1,y:=j.y,k:=j.k+1,o:=some (.int m),q:=some (kP w.t e.k)} rfl (by show(j.y-(m+1)).toNat<(j.y-j.x).toNat;lia) ⟨hc.up hso (by lia) (by lia) he z,hv.step (by exact lin [_,_] [] bt bn 1 [.i 1 bA aa] rfl q) (by show 2*(j.y-(m+1))≤j.y-j.x;lia)⟩).1
  ·exact(hn _ {x:=j.x,y:=m,k:=j.k+1,o:=some (.int m),q:=some (kP w.t e.k)} rfl (by show((m:Int)-j.x).toNat<(j.y-j.x).toNat;lia) ⟨hc.down hso (by lia) (by lia) he z,hv.step (by exact lin [_,_] [] bt bn 1 [.i 1 bA aa] rfl q) (by show 2*((m:Int)-j.x)≤j.y-j.x;lia)⟩).1
 ·have q:=GN q;have e:j.y=j.x:=by have:=hc.lh;exact Int.le_antisymm ((Int.not_lt.mp q)) (this)
  lk;refine⟨GB rfl,?_⟩;lk;rw[e]at hc hv;rw[Int.sub_self]at hv;exact hK (.ret _) _ [_] [] rfl rfl (hq _ _ hc hv)
end
section
noncomputable def fw(t:Bool)(es:List En):List (P×P):=es.map fun e=>(kP t e.k, .int e.w)
noncomputable def dP(t:Bool)(es:List En):List (P×P):=es.map fun e=>(kP t e.k, .int e.p)
structure Lz where
 a:Ab
 b:List UInt8
 h:Int
 v:Nat
 x:Int
 k:Nat
 t:Bool
 m:Int
 es:List En
 p7:Option P
 p8:Option P
 p9:Option P
 p10:Option P
 p11:Option P
noncomputable def Lz.st(j:Lz)(ag xs:List Int):St:=⟨[some (.p (.lst (ag.map .int))),some (.ref 0),some (.ref 1),some (.p (.bool j.t)),some (.ref 2),some (.ref 3),some (.p (.int j.m)),j.p7.map .p,j.p8.map .p,j.p9.map .p,j.p10.map .p,j.p11.map .p,
 none,none,none,none,none,none,none,none,none,none,none,none,none,none,none,none],[bxO xs j.x,bo cz j.a j.b j.h j.v, .bx (.dict (fw j.t j.es)), .bx (.dict (dP j.t j.es))]⟩
theorem De{t:Bool}{a b:List Int}(ha:t=false→a.length=1)(hb:t=false→b.length=1):kP t a=kP t b↔a=b:=by
 cases t with
 |true=>exact qx
 |false=>
  refine e1a (kB (ha rfl)) fun i e=>e1a (kB (hb rfl)) fun j e'=>?_;clear ha hb;subst e e';exact⟨fun h=>by injection h with h;rw[show i=j from h],fun h=>by rw[h]⟩
theorem qw{t:Bool}{k:List Int}(h:B8 t k):t=false→k.length=1:=fun e=>e1b (h e) fun n h _=>by rw[h];rfl
theorem lx{t:Bool}{es:List En}{k:List Int}(f:En→P)(hk:t=false→k.length=1)(hs:∀e∈es,B8 t e.k):iM (es.map fun e=>(kP t e.k,f e)) (kP t k)=(es.find? fun e=>decide (e.k=k)).map f:=by
 induction es with
 |nil=>rfl
 |cons e es ih=>
  have h1:=hs e GS;by_cases q:e.k=k
  ·rw[List.map_cons,pw (by rw[q]),List.find?_cons];simp[q]
  ·rw[List.map_cons,m6 (fun z=>q ((De (qw h1) hk).mp z)),ih fun e he=>hs e (GM _ he),List.find?_cons];simp[q]
theorem kQ{es:List En}{k:List Int}:(es.find? fun e=>decide (e.k=k))=none↔k∉es.map (·.k):=by
 rw[List.find?_eq_none];constructor
 ·intro h hm;refine e1b (List.mem_map.mp hm) fun e he q=>h e he (decide_eq_true q)
 ·intro h e he q;exact h (List.mem_map.mpr ⟨e,he,GI q⟩)
theorem jn{t:Bool}{es:List En}{k:List Int}(f:En→P):lX (kP t k) (es.map fun e=>(kP t e.k,f e)):=by
 cases t with
 |true=>exact .inr ⟨⟨k,rfl⟩,fun x hx=>e1b (List.mem_map.mp hx) fun e _ q=>⟨e.k,by rw[←q];rfl⟩⟩
 |false=>exact .inl ⟨⟨_,rfl⟩,fun x hx=>e1b (List.mem_map.mp hx) fun e _ q=>⟨e.k.headD 0,by rw[←q];rfl⟩⟩
theorem wE{t:Bool}{es:List En}{k:List Int}(f:En→P)(z:P)(hk:t=false→k.length=1)(hs:∀e∈es,B8 t e.k)(hn:k∉es.map (·.k)):pH (es.map fun e=>(kP t e.k,f e)) (kP t k) z=es.map (fun e=>(kP t e.k,f e))++[(kP t k,z)]:=by
 unfold pH;rw[lx f hk hs,kQ.mpr hn];rfl
end
section
structure LzI(j:Lz):Prop where
 L:z0 j.t j.a j.es
 r:Rb j.a.T j.a.room j.b j.h
 x:0≤j.x
 n:j.es.length≤j.k
 n1:1≤j.k→1≤j.es.length
 o:1≤j.es.length→∃z,j.p11=some z
theorem Fn(t:Bool):z0 t ab0 []:=⟨⟨rfl,rfl,rfl, .inl rfl,(fun x hx=>nomatch hx),Gw 0,Gw 0,G1 _⟩,(fun e he=>nomatch he),List.nodup_nil,(fun e he=>nomatch he),fun e he=>nomatch he⟩
structure NmE(t:Bool)(k:List Int)(told:P)(a a0:Ab)(nm:Int):Prop where
 S:Sm a a0
 l:a0.T.length≤a.T.length+60
 tx:t=true→∃x d,told=.str x∧k=d.map (fun c:UInt8=>(c.toNat:Int))∧B4 a0.T nm d∧0<nm∧nm≤a0.T.length
theorem wo(t:Bool)(es:List En)(e:En):fw t (es++[e])=fw t es++[(kP t e.k, .int e.w)]:=Ha ..
theorem rG(t:Bool)(es:List En)(e:En):dP t (es++[e])=dP t es++[(kP t e.k, .int e.p)]:=Ha ..
theorem yT{x:Str}{a:Ab}{bytes:List UInt8}{head:Int}{ver:Nat}{Q:V→List O→Prop}(hr:Rb a.T a.room bytes head)(h:El x a)
  (hq:∀a0 head' a5,Rb (nI a (iA x)).T (nI a (iA x)).room a0 head'→Q (.p (.int (nI a (iA x)).T.length)) [bo cz (nI a (iA x)) a0 head' a5]):sr [.ref 0, .p (.str x)] [] [bo cz a bytes head ver] Q:=by
 unfold sr;exact⟨x,a,bytes,head,ver,rfl,rfl,rfl,hr,h,hq⟩
theorem ER{ag xs:List Int}(j:Lz){e:List (Option V)}{D1 D2:List (P×P)}(h1:D1=fw j.t j.es)(h2:D2=dP j.t j.es)(he:e=(j.st ag xs).env):(⟨e,[bxO xs j.x,bo cz j.a j.b j.h j.v, .bx (.dict D1), .bx (.dict D2)]⟩:St)=j.st ag xs:=by
 subst h1 h2 he;rfl
end
section
noncomputable def tlS:Nat→S→S
 |0,s=>s
 |n+1, .seq _ b=>tlS n b
 |_+1,s=>s
noncomputable def vW(es:List En)(k:List Int):En:=(es.find? fun e=>decide (e.k=k)).getD ⟨[],0,0⟩
theorem pa{es:List En}{k:List Int}(h:k∈es.map (·.k)):vW es k∈es∧(vW es k).k=k∧(es.find? fun e=>decide (e.k=k))=some (vW es k):=by
 unfold vW
 cases q:es.find? (fun e=>decide (e.k=k))with
 |none=>exact absurd h (kQ.mp q)
 |some e=>
  have hd:decide (e.k=k)=true:=List.find?_some (p:=fun e:En=>decide (e.k=k)) q;exact⟨List.mem_of_find?_eq_some q,GI hd,rfl⟩
structure Srt(es rs:List En):Prop where
 mem:∀e∈rs,e∈es∧(es.find? fun f=>decide (f.k=e.k))=some e
 inv:∀e∈es,∃f∈rs,f.k=e.k
 so:nw rs
 len:rs.length=es.length
theorem CF{es:List En}{r:List (List Int)}(h:uu (es.map (·.k)) r):Srt es (r.map (vW es))∧(r.map (vW es)).map (·.k)=r:=by
 have hm:∀k∈r,k∈es.map (·.k):=fun k hk=>h.pm.mem_iff.mp hk;have e:(r.map (vW es)).map (·.k)=r:=by
  rw[List.map_map];exact(List.map_congr_left fun k hk=>(pa (hm k hk)).2.1).trans (List.map_id r)
 refine⟨⟨fun f hf=>?_,fun f hf=>?_,fun i j f g hi hj a0=>?_,by rw[GA,h.pm.length_eq,GA]⟩,e⟩
 ·refine e1b (List.mem_map.mp hf) fun k hk q=>?_;subst q;have l:=pa (hm k hk);exact⟨l.1,by rw[l.2.1];exact l.2.2⟩
 ·have:f.k∈r:=h.pm.mem_iff.mpr (List.mem_map_of_mem hf);exact⟨vW es f.k,List.mem_map_of_mem this,(pa (hm _ this)).2.1⟩
 ·have h2:=h.up;rw[←e,List.pairwise_map,List.pairwise_iff_getElem]at h2;have g1:=List.getElem?_eq_some_iff.mp hi;have g2:=List.getElem?_eq_some_iff.mp hj;have:=h2 i j g1.1 g2.1 a0;rw[g1.2,g2.2]at this;exact this
noncomputable def ed(t:Bool)(rs:List En):List P:=rs.map fun e=>kP t e.k
structure zZ(t:Bool)(a1:Ab)(rs:List En)(xs:List P)(j:Lv):Prop where
 k:j.k≤rs.length
 x:xs=ed t (rs.take j.k).reverse
 r:Rb j.a.T j.a.room j.b j.h
 sm:Sm a1 j.a
 ln:(j.a.T.length:Int)=a1.T.length+4*rs.length-4*j.k
 rm:4+4*(j.k:Int)≤j.a.room
 vn:j.a.vne=some (.int rs.length)
 fl:∀(i:Nat) e,rs[i]?=some e→j.k≤i→FldE .I j.a.T ((a1.T.length:Int)+4*(rs.length-i)) ((a1.T.length:Int)+4*(rs.length-i)-e.p)
theorem zZ.cons{t:Bool}{a1:Ab}{rs:List En}{x:P}{xs:List P}{j:Lv}(h:zZ t a1 rs (x::xs) j):∃k e,j.k=k+1∧rs[k]?=some e∧x=kP t e.k∧xs=ed t (rs.take k).reverse:=by
 have hx:=h.x;have hk:=h.k
 cases q:j.k with
 |zero=>rw[q]at hx;exact nc hx.symm
 |succ k=>
  rw[q]at hx hk;have e1:(rs.take (k+1)).reverse=rs[k]'hk::(rs.take k).reverse:=by
   rw[List.take_succ_eq_append_getElem hk,List.reverse_append];rfl
  rw[e1]at hx;have h2:=List.cons.inj hx;exact⟨k,_,rfl,GD hk,h2.1,h2.2⟩
theorem zZ.step{t:Bool}{a1:Ab}{rs:List En}{x:P}{xs:List P}{j:Lv}(h:zZ t a1 rs (x::xs) j){k:Nat}{e:En}(ek:j.k=k+1)(he:rs[k]?=some e)(dh:xs=ed t (rs.take k).reverse)(hm:(j.a.T.length:Int) % 4=0)
  (h0:0≤e.p) (h1:e.p≤a1.T.length) (h2:a1.T.length≤100000) (h3:rs.length≤100):nx e.p j.a∧∀bytes head ver o,Rb (fF j.a e.p).T (fF j.a e.p).room bytes head→zZ t a1 rs xs {k:=k,a:=fF j.a e.p,b:=bytes,h:=head,v:=ver,o:=o}∧((fF j.a e.p).T.length:Int) % 4=0:=by
 have hl:=h.ln;have hr:=h.rm;have hk:=h.k;refine e0d (tL j.a e.p hm) fun g1 g2 g3 g4=>?_;have hq:=(cP j.a (s:=4) (add:=0) sz4).1;have a0:nx e.p j.a:=⟨h0,by exact(lin [_] [_,_,_,_,_] aa af 1 [.i 1 aa ak,.e (-1) aR (.s (.a ak (.m 4 av)) (.m 4 az)),.j 4 au aj,.f (-1) ab aB] rfl h1 hl hk g4),by exact cG [] [_,_,_,_,_] ab aF 1 [.f (-4) aj be,.j 1 au a7,.j 4 aB aY,.e 1 af (.s (.a az (.m 4 aR)) (.m 4 av))] rfl ek h2 h3 hl⟩
 refine⟨a0,fun bytes head ver o e9=>⟨⟨by show k≤_;exact(cG [] [_,_,_] ab ae 1 [.f (-1) aj bc,.j 1 aj ae] rfl ek hk),dh,e9,h.sm.trans (kc _ _),by show((fF j.a e.p).T.length:Int)=_-4*(k:Int);exact(gL [] [_,_,_,_,_,_] af (.s (.a ak (.m 4 av)) (.m 4 az)) [.f (-4) aB bD,.e 1 (.w 5) (.s (.a ak (.m 4 av)) (.m 4 aR)),.e 1 af (.a (.w 5) ap)] rfl ek hl g1),by show 4+4*(k:Int)≤(fF j.a e.p).room;exact(lin [_,_] [_,_] (.a ap (.m 4 af)) aa 1 [.f (-4) ae bc,.i 1 (.a ap (.m 4 ak)) am,.i 1 (.s am ap) aa] rfl ek hr g2),g3.trans h.vn,fun i f hf hki=>?_⟩,by lia⟩⟩
 rcases G5 k i with q|q
 ·exact(h.fl i f hf (by exact Gp (GF ek) q)).suf (kc j.a e.p).suf
 ·have e2:i=k:=Nat.le_antisymm q hki;subst e2;rw[he]at hf;obtain rfl:=sj hf;have hf:=oY j.a (off:=e.p) h0 a0.n1 a0.len;rw[g1]at hf;rw[show(a1.T.length:Int)+4*(rs.length-i)=(j.a.T.length:Int)+4 by exact(gL [] [_,_,_,_,_] (.a af (.m 4 (.s ak av))) bZ [.e (-1) az (.s (.a af (.m 4 ak)) (.m 4 aR)),.f 4 aB bf] rfl hl ek)]
  exact hf
noncomputable def re(m:Int):Int:=if m=1 then 4 else 0
theorem rT{a:Ab}{R m add:Int}(h:pG R m a)(b:Ab)(hb:b.T.length≤1000100)(hs:a.T.length≤b.T.length):FldE .I (fF b R).T (fF b R).T.length ((fF b R).T.length-R)∧(fF b R).T.length≤b.T.length+8:=by
 have h1:=h.n1;have hq:=(cP b (s:=4) (add:=0) sz4).1;have hl:=(jG b R).2.2;exact⟨oY b h.n0 (by exact lin [_] [_,_,_] aa af 1 [.j 1 ae aj,.i 1 aa ak,.i 1 av af] rfl hs h1 hq) (by exact cG [] [_] ab aF 1 [.j 1 ab (.n 1000100)] rfl hb),by exact cG [] [_,_] ab (.a ae (.n 8)) 1 [.i 1 af b8] rfl hl⟩
theorem yd(a:Ab):((cI a 4 0).T.length:Int) % 4=0:=by
 rw[(cP a (s:=4) (add:=0) sz4).2];unfold kJ;lia
theorem Bv{a:Ab}{R m:Int}(h:pG R m a):(∃X,(lY a R m).T=X++a.T)∧(lY a R m).T.length≤a.T.length+60∧FldE .I (lY a R m).T ((lY a R m).T.length-re m) ((lY a R m).T.length-re m-R):=by
 have ag:a.mal≤8:=by rcases h.mal with q|q|q|q<;>(first|exact(lin [_] [] aa aK 1 [.e 1 aa ao] rfl q)|exact(lin [_] [] aa aK 1 [.e 1 aa aE] rfl q)|exact(lin [_] [] aa aK 1 [.e 1 aa ap] rfl q)|exact(G6 q))
 have h2:=h.len;rcases h.m with rfl|rfl|rfl
 ·have c2:=cP a (s:=a.mal) (add:=4) h.mal;have a3:=(c5 (n:=a.T.length) (add:=4) (s:=a.mal) h.mal).2;refine e0b (rT h (add:=0) (cI a a.mal 4) (by exact cG [_,_] [_,_] ab (.n 1000100) 1 [.i 1 aa aK,.j 1 ae aW,.e 1 af bK,.i 1 bA aa] rfl ag h2 (Gu c2) a3) (by exact cG [] [_,_] ab ae 1 [.i 1 af ak] rfl (Gz c2))) fun f1 f2=>?_
  refine⟨(iU a (add:=4) h.mal |>.trans (kc _ R)).suf,show(fF (cI a a.mal 4) R).T.length≤_ by exact(cG [_,_] [_,_,_] ab b9 1 [.i 1 aa aK,.e 1 av bK,.i 1 bA aa,.j 1 ab (.a aj (.n 8))] rfl ag (Gu c2) a3 f2),?_⟩
  show FldE .I (fF (cI a a.mal 4) R).T ((fF (cI a a.mal 4) R).T.length-0) ((fF (cI a a.mal 4) R).T.length-0-R)
  rw[Int.sub_zero];exact f1
 ·have c2:=cP a (s:=a.mal) (add:=8) h.mal;have a3:=(c5 (n:=a.T.length) (add:=8) (s:=a.mal) h.mal).2;refine e0b (rT h (add:=0) (cI a a.mal 8) (by exact cG [_,_] [_,_] ab (.n 1000100) 1 [.i 1 aa aK,.j 1 ae aW,.e 1 af bK,.i 1 bA aa] rfl ag h2 (Gu c2) a3) (by exact cG [] [_,_] ab ae 1 [.i 1 af ak] rfl (Gz c2))) fun f1 f2=>?_
  have g1:=yd (cI a a.mal 8);have g2:=(jG (cI a a.mal 8) R).1;have hl:=(cP (fF (cI a a.mal 8) R) (s:=4) (add:=0) sz4).2;have hz:kJ (fF (cI a a.mal 8) R).T.length 0 4=0:=by unfold kJ;lia
  have el:((lY a R 1).T.length:Int)=(fF (cI a a.mal 8) R).T.length+4:=by
   show((le 4 _++(cI (fF (cI a a.mal 8) R) 4 0).T).length:Int)=_
   rw[Gr,cO];exact gL [_] [_,_] (.c (.a aC ab)) bB [.e 1 af bE,.e 1 aa an] rfl hl hz
  have hs:=lq (fF (cI a a.mal 8) R) .i (fF (cI a a.mal 8) R).T.length;refine⟨((iU a (add:=8) h.mal |>.trans (kc _ R)).trans hs).suf,by exact(cG [_,_] [_,_,_,_] ab b9 1 [.i 1 aa aK,.e 1 av bK,.i 1 bA aa,.j 1 au (.a aj (.n 8)),.e 1 af bZ] rfl ag (Gu c2) a3 f2 el),?_⟩
  rw[show((lY a R 1).T.length:Int)-re 1=(fF (cI a a.mal 8) R).T.length by show _-(4:Int)=_;lia]
  exact f1.suf hs.suf
 ·have c2:=cP a (s:=a.mal) (add:=8) h.mal;have a3:=(c5 (n:=a.T.length) (add:=8) (s:=a.mal) h.mal).2;have a0:=cP (cI a a.mal 8) (s:=4) (add:=4) sz4;have a4:=(c5 (n:=(cI a a.mal 8).T.length) (add:=4) (s:=4) sz4).2;have e:(idA (cI (cI a a.mal 8) 4 4)).T.length=(cI (cI a a.mal 8) 4 4).T.length+4:=rfl;refine e0b (rT h (add:=0) (idA (cI (cI a a.mal 8) 4 4)) (by exact cG [_,_,_] [_,_,_,_] ab (.n 1000100) 1 [.i 1 aa aK,.j 1 ae aW,.e 1 av bK,.i 1 bA aa,.e 1 az (.a av aD),.i 1 bQ ap,.f 1 ab bC] rfl ag h2 (Gu c2) a3 (Gu a0) a4 e) (by exact cG [] [_,_,_,_] ab ae 1 [.i 1 af av,.i 1 av az,.f (-1) ae bC] rfl (Gz c2) (Gz a0) e)) fun f1 f2=>?_
  have e2:(lY a R 2).T=(fF (idA (cI (cI a a.mal 8) 4 4)) R).T:=(congrArg Ab.T (rU a R)).trans rfl;have hi:Sm (cI (cI a a.mal 8) 4 4) (idA (cI (cI a a.mal 8) 4 4)):=(((jE _ .B 83).trans (jE _ .B 89)).trans (jE _ .B 69)).trans (jE _ .B 75);refine⟨?_,?_,?_⟩
  ·rw[e2];exact((((iU a (add:=8) h.mal).trans (iU _ (add:=4) sz4)).trans hi).trans (kc _ R)).suf
  ·rw[e2];exact cG [_,_,_] [_,_,_,_,_] ab b9 1 [.i 1 aa aK,.e 1 av bK,.i 1 bA aa,.e 1 az (.a av aD),.i 1 bQ ap,.f 1 aB bC,.j 1 ab (.a aB (.n 8))] rfl ag (Gu c2) a3 (Gu a0) a4 e f2
  ·rw[e2]
   show FldE .I _ (((fF (idA (cI (cI a a.mal 8) 4 4)) R).T.length:Int)-0) (((fF (idA (cI (cI a a.mal 8) 4 4)) R).T.length:Int)-0-R)
   rw[Int.sub_zero];exact f1
structure FT(c:Ab)(t:Bool)(R q1 vp:Int)(rs:List En):Prop where
 fin:∀m,m=0∨m=1∨m=2→pG R m c∧RdE (lY c R m).T t R q1 vp rs∧FldE .I (lY c R m).T ((lY c R m).T.length-re m) ((lY c R m).T.length-re m-R)
theorem AN{t:Bool}{a:Ab}{es rs:List En}{j:Lv}(L:z0 t a es)(hf:es.length≤7)(S:Srt es rs)(hj:zZ t (de a 4 rs.length 4) rs [] j):Aa rs.length j.a∧Sm a (fA j.a rs.length)∧(fA j.a rs.length).T.length≤a.T.length+60∧
  FldE .I (fA j.a rs.length).T (fA j.a rs.length).T.length rs.length∧∀(i:Nat) e,rs[i]?=some e→FldE .I (fA j.a rs.length).T ((fA j.a rs.length).T.length-4-4*i) ((fA j.a rs.length).T.length-4-4*i-e.p):=by
 have hk:j.k=0:=by
  have h1:=congrArg List.length hj.x;unfold ed at h1;rw[GA,List.length_reverse,GW,G8 hj.k]at h1;exact h1.symm
 have hn:=S.len;have l1:=hj.ln;have l2:=hj.rm;have l3:=hj.fl;rw[hk]at l1 l2 l3;refine e1l (lD a (es:=4) (n:=rs.length) (al:=4) (.inr rfl) rfl (G4 _)) fun X t1 t2 t3 t4 t5 t6 t7 t8 t9 ep ea e4=>?_;refine e0c (ua j.a rs.length (G4 _) (by exact lin [] [_,_] af aP 1 [.j 1 ae aN,.f 1 ab ae] rfl hf hn)) fun v1 v2 v3=>?_
 have sm:=hj.sm;refine⟨⟨hj.vn,sm.nested.trans t5,G4 _,by exact(lin [] [_,_] af aP 1 [.j 1 ae aN,.f 1 ab ae] rfl hf hn),by exact lin [_] [] ap aa 1 [.i 1 (.a ap (.m 4 (.c ax))) aa] rfl l2⟩,⟨?_,sm.vt.trans t7,L.g.nested.symm,sm.oe.trans t8,sm.force.trans t9,sm.fin.trans ep,sm.vts.trans ea,fun h=>sm.mal (e4 h)⟩,by exact(cG [] [_,_,_,_,_,_] ab b9 1 [.j 4 aj aN,.f 4 au aj,.e 1 aR (.s (.a (.w 5) (.m 4 az)) (.m 4 (.c ax))),.i 1 (.w 5) (.a ak (.n 3)),.e 1 af (.a aR ap)] rfl hf hn l1 t2 v1),by rw[v1];exact v2,fun i e he=>?_⟩
 ·refine e1a sm.suf fun Y hY=>e1a v3 fun Z hZ=>⟨Z++(Y++X),?_⟩;rw[hZ,hY,t1];simp only[GE]
 ·have:=(l3 i e he (G1 _)).suf v3;have e1:((fA j.a rs.length).T.length:Int)-4-4*i=(de a 4 rs.length 4).T.length+4*(rs.length-i):=by exact gL [] [_,_,_,_,_] (.s (.s af ap) (.m 4 ak)) (.a av (.m 4 (.s az ak))) [.e 1 aR (.s (.a av (.m 4 az)) (.m 4 (.c ax))),.e 1 af (.a aR ap)] rfl l1 v1
  rw[e1];exact this
theorem xY{t:Bool}{a b:Ab}{es rs:List En}(L:z0 t a es)(hf:es.length≤7)(S:Srt es rs)(sm:Sm a b)(hl:b.T.length≤a.T.length+60)(f1:FldE .I b.T b.T.length rs.length)
  (fl:∀(i:Nat) e,rs[i]?=some e→FldE .I b.T (b.T.length-4-4*i) (b.T.length-4-4*i-e.p)) :
  nv 1 b.T.length [0,0] (cR b 2)∧∃q1,xk b.T.length [0,q1] (dA (cR b 2) 1 b.T.length 0)∧(dA (cR b 2) 1 b.T.length 0).vt=some [0,q1]∧
   FT (wvA {dA (cR b 2) 1 b.T.length 0 with nested:=false} [0,q1] b.T.length) t (fX (dA (cR b 2) 1 b.T.length 0)) q1 b.T.length rs:=by
 have hT:=L.g.len;have hn:=S.len;have hml:jD b.mal:=sm.mal L.g.mal;have O:=oI.start hml 2;have h3:(cR b 2).T.length=b.T.length:=rfl;have c2:=(cP (cR b 2) (s:=4) (add:=0) sz4).1;have a3:((4:Nat):Int)≤b.T.length:=f1.lo;refine⟨⟨⟨by exact(lin [] [_] an af 1 [.i 1 (.c aC) af] rfl a3),by exact(lin [] [_,_,_] af ak 1 [.f (-1) aj ab,.i 1 av ak] rfl h3 c2),by exact cG [] [_,_,_,_] ab aF 1 [.j 300 ae aN,.j 1 aj (.a au a9),.j 1 au (.m 300 ae),.f 1 ab aj] rfl hf hl hT h3⟩,oW rfl rfl (by decide) (by decide)⟩,?_⟩
 refine e1e (pJ (o:=1) (x:=b.T.length) O (by exact lin [] [_] bt af 1 [.i 1 (.c aC) af] rfl a3) (by exact lin [] [_,_] af ak 1 [.f (-1) ae ab] rfl h3) (by exact cG [] [_,_,_,_] ab aF 1 [.j 300 ae aN,.j 1 aj (.a au a9),.j 1 au (.m 300 ae),.f 1 ab aj] rfl hf hl hT h3)) fun q1 P g1 g2 g3 _=>?_
 have PI:oI b (dA (cR b 2) 1 b.T.length 0) [0,q1]:=P.inv;have b7:=P.len;refine e0c (L.g.close sm (by exact cG [] [_,_] ab (.a ae aY) 1 [.j 1 ab b9] rfl hl) PI (by exact cG [] [_,_,_] ab (.a ae aY) 1 [.f 1 aj ae,.j 1 ab (.a aj (.n 8))] rfl h3 b7) (GB rfl) (by exact cG [] [_] bc (.n 20) 1 [.j 1 ab aN] rfl hf)) fun W G C=>?_
 refine⟨q1,⟨PI.nested,PI.vt,PI.oe,W⟩,PI.vt,⟨fun m hm=>?_⟩⟩;have hgl:=G.len;have a0:=C.lo;have F:pG (fX (dA (cR b 2) 1 b.T.length 0)) m (wvA {dA (cR b 2) 1 b.T.length 0 with nested:=false} [0,q1] b.T.length):=⟨by show(0:Int)≤(gY _ 0).T.length;exact G4 _,C.hi,by exact(cG [] [_,_] ab aW 1 [.j 300 ae aN,.j 1 ab (.m 300 be)] rfl hf hgl),G.mal,hm⟩
 refine⟨F,?_⟩;refine e0c (Bv F) fun z1 z2 z3=>?_;refine⟨?_,z3⟩;have s1:∃X,(lY (wvA {dA (cR b 2) 1 b.T.length 0 with nested:=false} [0,q1] b.T.length) (fX (dA (cR b 2) 1 b.T.length 0)) m).T=X++(dA (cR b 2) 1 b.T.length 0).T:=by
  refine e1a z1 fun X hX=>e1a C.suf fun Y hY=>⟨X++Y,by rw[hX,hY,GE]⟩
 have s2:∃X,(lY (wvA {dA (cR b 2) 1 b.T.length 0 with nested:=false} [0,q1] b.T.length) (fX (dA (cR b 2) 1 b.T.length 0)) m).T=X++b.T:=by
  refine e1a s1 fun X hX=>e1a P.suf fun Y hY=>⟨X++Y,by rw[hX,hY,GE];rfl⟩
 have s3:∃X,(lY (wvA {dA (cR b 2) 1 b.T.length 0 with nested:=false} [0,q1] b.T.length) (fX (dA (cR b 2) 1 b.T.length 0)) m).T=X++a.T:=by
  refine e1a s2 fun X hX=>e1a sm.suf fun Y hY=>⟨X++Y,by rw[hX,hY,GE]⟩
 exact⟨by exact(cG [] [_,_,_] ab aq 1 [.j 300 ae aN,.j 1 aj (.m 300 be),.j 1 ab (.a aj a9)] rfl hf hgl z2),C.tab.suf z1,g1,Int.lt_of_le_of_lt g2 a0,g3.suf s1,f1.suf s2,fun i e he=>⟨(fl i e he).suf s2,(L.en e (S.mem e (GV he)).1).1.suf s3⟩,by exact cG [] [_,_] ab aJ 1 [.j 1 ae aN,.f 1 ab ae] rfl hf hn⟩
end
section
theorem Be(t:Bool)(rs:List En):ed t rs=(rs.map (·.k)).map (kP t):=by
 rw[List.map_map];rfl
structure Yw where
 t:Bool
 x:Int
 es:List En
 rs:List En
 d:List UInt8
 R:Int
 q1:Int
 vp:Int
 v:Nat
 z6:P
 z7:P
 z8:P
 z9:P
 z10:P
 z11:P
 z13:P
 z14:P
 z15:P
 z17:P
 o1:O
 o3:O
 o4:O
noncomputable def Yw.st(y:Yw)(ag xs:List Int):St:=⟨[some (.p (.lst (ag.map .int))),some (.ref 0),some (.ref 1),some (.p (.bool y.t)),some (.ref 2),some (.ref 3),some (.p y.z6),some (.p y.z7),some (.p y.z8),some (.p y.z9),some (.p y.z10),some (.p y.z11),
 some (.p (.lst (ed y.t y.rs))),some (.p y.z13),some (.p y.z14),some (.p y.z15),some (.p (.bytes y.d)),some (.p y.z17),some (.ref 5),none,none,none,none,none,none,none,none,none],
 [bxO xs y.x,y.o1, .bx (.dict (fw y.t y.es)),y.o3,y.o4,Tw.o ⟨y.d,y.d.length-y.R,y.v⟩]⟩
structure YwI(y:Yw):Prop where
 x:0≤y.x
 rd:RdE y.d y.t y.R y.q1 y.vp y.rs
 S:Srt y.es y.rs
 kb:∀e∈y.es,B8 y.t e.k
 n0:1≤y.es.length
 n1:y.es.length≤7
theorem Fq{Φ:Addr→Option Ctr}(hT:AT Φ eN nQ)(et:AT Φ d6 ni)(ey:AT Φ cK sk)(f5:AT Φ ew ui)
  (em:AT Φ d7 nj) (eh:AT Φ cM qT) (eo:AT Φ eQ wU) (hF:AT Φ gn DP) (f3:AT Φ c7 wR) (e5:AT Φ gm iD) (hG:AT Φ mY y3) (e3:AT Φ ej (fu jy ej 2))
  {ag xs:List Int} {Q:Fl→St→Prop} (dh:xs.length≤64) (j:Lz) (J:LzI j) (ee:1≤j.es.length) (ck:j.es.length≤7) {z7 z8 z9 z10 z11:P} (e7:j.p7=some z7) (e8:j.p8=some z8) (e9:j.p9=some z9) (e2:j.p10=some z10) (e1:j.p11=some z11)
  (hQ:∀y:Yw,YwI y→wS ⟨Φ,wx,sS⟩ (tlS 19 pX) (y.st ag xs) Q):wS ⟨Φ,wx,sS⟩ (tlS 7 pX) (j.st ag xs) Q:=by
 have e6:∀{i many:Int},0≤i→0<many→q8 xs i many:=fun h1 h2=>⟨h1,h2,dh⟩;obtain⟨a,jb,jh,jv,jx,jk,t,jm,es,j7,j8,j9,j10,j11⟩:=j;have L:z0 t a es:=J.L;have hr:Rb a.T a.room jb jh:=J.r;have hx:0≤jx:=J.x;have ee:1≤es.length:=ee;have ck:es.length≤7:=ck;have e7:j7=some z7:=e7;have e8:j8=some z8:=e8;have e9:j9=some z9:=e9;have e2:j10=some z10:=e2;have e1:j11=some z11:=e1;subst e7 e8 e9 e2 e1;have fh:=L.g.len;refine eK (ι:=List En) (fun rs=>⟨[some (.p (.lst (ag.map .int))),some (.ref 0),some (.ref 1),some (.p (.bool t)),some (.ref 2),some (.ref 3),some (.p (.int jm)),some (.p z7),some (.p z8),some (.p z9),some (.p z10),some (.p z11),
  some (.p (.lst (ed t rs))),none,none,none,none,none,none,none,none,none,none,none,none,none,none,none],[bxO xs jx,bo cz a jb jh jv, .bx (.dict (fw t es)), .bx (.dict (dP t es))]⟩) (fun rs=>Srt es rs) (fun K2 ah=>?_) fun rs S=>?_
 ·lk;refine⟨t,es.map (·.k),⟨?_,?_,fun k hk=>?_⟩,fun r c1=>?_⟩
  ·unfold fw;rw[List.map_map,List.map_map];rfl
  ·rw[GA];exact cG [] [_] bc (.n 64) 1 [.j 1 ab aN] rfl (by assumption)
  ·refine e1b (List.mem_map.mp hk) fun e he q=>?_;rw[←q];exact qw (L.kb e he)
  ·have s:=CF c1;have e:=ah (r.map (vW es)) s.1;rw[Be,s.2]at e;exact e
 have a3:=S.len;have cf:(ed t rs).length=rs.length:=GA ..;have dr:tC 4 rs.length 4 a:=⟨L.g.nested,sz4,by decide,by decide,G4 _,by exact(lin [] [_,_] af (.n 1000) 1 [.j 1 ae aN,.f 1 ab ae] rfl (by assumption) a3),by exact(lin [] [_,_] an (.m 4 af) 1 [.j 4 ai ae,.f (-4) ab ae] rfl (by assumption) a3),by exact lin [] [_,_,_] (.a af (.m 4 ak)) (.n 1048000) 1 [.j 304 aj aN,.j 1 ab (.m 300 aj),.f 4 ae aj] rfl (by assumption) fh a3⟩
 refine e1l (lD a (es:=4) (n:=rs.length) (al:=4) (.inr rfl) rfl (G4 _)) fun X t1 t2 t3 t4 t5 t6 t7 t8 t9 ep ea e4=>?_;refine eK (ι:=Lv) (fun n=>⟨[some (.p (.lst (ag.map .int))),some (.ref 0),some (.ref 1),some (.p (.bool t)),some (.ref 2),some (.ref 3),some (.p (.int jm)),some (.p z7),some (.p z8),some (.p z9),some (.p z10),some (.p z11),
  some (.p (.lst (ed t rs))),none,none,none,none,none,none,none,none,none,none,none,none,none,none,none],[bxO xs jx,bo cz (de a 4 rs.length 4) n.b n.h n.v, .bx (.dict (fw t es)), .bx (.dict (dP t es))]⟩) (fun n=>Rb (de a 4 rs.length 4).T (de a 4 rs.length 4).room n.b n.h) (fun K2 ah=>?_) fun n c1=>?_
 ·lk;refine⟨by rw[cf];exact(cG [] [_,_] ab aq 1 [.j 1 ae aN,.f 1 ab ae] rfl (by assumption) a3),?_⟩
  lk;refine ju (b:=de a 4 rs.length 4) (z:=.int (de a 4 rs.length 4).T.length) et 1 {x:=4,y:=rs.length,z:=4} (congrArg (fun n:Nat=>[V.p (.int 4),V.p (.int n),V.p (.int 4)]) cf) rfl hr dr rfl rfl fun a4 ac ar aw=>?_;lk;exact ah {b:=a4,h:=ac,v:=ar} aw
 generalize n.b=b1 at c1;generalize n.h=h1 at c1;generalize n.v=v1;have hlT:a.T.length≤(de a 4 rs.length 4).T.length:=by
  rw[t1,Gr];exact cG [] [_,_] ab (.a ae ab) 1 [] rfl
 refine eK (ι:=Lv) (fun j=>⟨[some (.p (.lst (ag.map .int))),some (.ref 0),some (.ref 1),some (.p (.bool t)),some (.ref 2),some (.ref 3),some (.p (.int jm)),some (.p z7),some (.p z8),j.o.map .p,some (.p z10),some (.p z11),
  some (.p (.lst (ed t rs))),none,none,none,none,none,none,none,none,none,none,none,none,none,none,none],[bxO xs jx,bo cz j.a j.b j.h j.v, .bx (.dict (fw t es)), .bx (.dict (dP t es))]⟩) (fun j=>zZ t (de a 4 rs.length 4) rs [] j∧∃z,j.o=some z) (fun K2 ah=>?_) fun j hj=>?_
 ·lk;refine⟨trivial,by rw[cf];exact(cG [] [_,_] ab aq 1 [.j 1 ae aN,.f 1 ab ae] rfl (by assumption) a3),?_⟩
  lk;refine qt (n0:=4) (ι:=Lv) (fun j=>⟨[some (.p (.lst (ag.map .int))),some (.ref 0),some (.ref 1),some (.p (.bool t)),some (.ref 2),some (.ref 3),some (.p (.int jm)),some (.p z7),some (.p z8),j.o.map .p,some (.p z10),some (.p z11),
   some (.p (.lst (ed t rs))),none,none,none,none,none,none,none,none,none,none,none,none,none,none,none],[bxO xs jx,bo cz j.a j.b j.h j.v, .bx (.dict (fw t es)), .bx (.dict (dP t es))]⟩)
   (fun l j=>zZ t (de a 4 rs.length 4) rs l j∧(j.a.T.length:Int) % 4=0∧∃z,j.o=some z) (fun x l j K3 hj hn=>⟨rfl,?_⟩) (fun j hj=>⟨rfl,?_⟩) _
   {k:=rs.length,a:=de a 4 rs.length 4,b:=b1,h:=h1,v:=v1,o:=some z9} ⟨⟨Gw _,by rw[List.take_length];exact List.map_reverse.symm,c1, .refl _,by show((de a 4 rs.length 4).T.length:Int)=_;lia,by show 4+4*(rs.length:Int)≤_;exact(t4),t6,fun i e hi hk=>absurd (List.getElem?_eq_some_iff.mp hi).1 (Nat.not_lt.mpr hk)⟩,by show((de a 4 rs.length 4).T.length:Int) % 4=0;lia,z9,rfl⟩
  ·refine e0c hj fun hR hm ho=>?_;refine e2d hR.cons fun k e ek he ex df=>?_;subst ex;have dx:=S.mem e (GV he);have hb:=L.en e dx.1;refine e0b (hR.step ek he df hm (by exact lin [_] [] an aa 1 [.i 1 ap aa] rfl (Gz (Gu hb))) (by exact lin [_] [_,_] aa af 1 [.j 1 ae ab,.i 1 aa ak] rfl hlT (Gu (Gu hb))) (by exact cG [] [_,_,_] ab a7 1 [.j 300 ae aN,.j 1 aj (.m 300 ae),.i 1 af (.a av (.n 3))] rfl (by assumption) fh t2) (by exact cG [] [_,_] ab aY 1 [.j 1 ae aN,.f 1 ab ae] rfl (by assumption) a3)) fun g1 g2=>?_
   lk;refine⟨jn _, .int e.p,(lx (fun e=>P.int e.p) (qw (L.kb e dx.1)) L.kb).trans (congrArg (Option.map fun e=>P.int e.p) dx.2),?_⟩;lk;refine cX ey 1 {x:=e.p} rfl hR.r g1 fun c0 c4 d3 ce=>?_;lk;refine(hn _ {k:=k,a:=fF j.a e.p,b:=c0,h:=c4,v:=d3,o:=some (kP t e.k)} rfl ?_).1;refine e0b (g2 c0 c4 d3 (some (kP t e.k)) ce) fun g3 g4=>⟨g3,g4,_,rfl⟩
  ·exact ah j (e0c hj fun h1 _ h2=>⟨h1,h2⟩)
 refine e0b hj fun hR zp=>e1a zp fun a0 ho=>?_;clear hj zp;obtain⟨jb2,jh2,jv2,jk2,jx2,jy2,jo2,jq2,jr2,jt2,jl2,jm2,jmt2,je2,js2,ja2⟩:=j;have ho:jo2=some a0:=ho;subst ho;have a5:Rb ja2.T ja2.room jb2 jh2:=hR.r;refine e0e (AN L ck S hR) fun p1 p2 p3 p4 p5=>?_;refine eK (ι:=Lv) (fun n=>⟨[some (.p (.lst (ag.map .int))),some (.ref 0),some (.ref 1),some (.p (.bool t)),some (.ref 2),some (.ref 3),some (.p (.int jm)),some (.p z7),some (.p z8),some (.p a0),some (.p z10),some (.p z11),
  some (.p (.lst (ed t rs))),some (.p (.int (fA ja2 rs.length).T.length)),none,none,none,none,none,none,none,none,none,none,none,none,none,none],[bxO xs jx,bo cz (fA ja2 rs.length) n.b n.h n.v, .bx (.dict (fw t es)), .bx (.dict (dP t es))]⟩) (fun n=>Rb (fA ja2 rs.length).T (fA ja2 rs.length).room n.b n.h) (fun K2 ah=>?_) fun n ce=>?_
 ·lk;refine cX f5 1 {x:=rs.length} rfl a5 p1 fun c3 ct dd d2=>?_;lk;exact ah {b:=c3,h:=ct,v:=dd} d2
 generalize n.b=b3 at ce;generalize n.h=h3 at ce;generalize n.v=v3;have p2:Sm a (fA ja2 rs.length):=p2;have p3:(fA ja2 rs.length).T.length≤a.T.length+60:=p3;have p4:FldE .I (fA ja2 rs.length).T (fA ja2 rs.length).T.length rs.length:=p4;have p5:∀(i:Nat) e,rs[i]?=some e→FldE .I (fA ja2 rs.length).T ((fA ja2 rs.length).T.length-4-4*i) ((fA ja2 rs.length).T.length-4-4*i-e.p):=p5;clear hR p1 a5;generalize fA ja2 rs.length=b at *;refine e0b (xY L ck S p2 p3 p4 p5) fun u zp=>e1c zp fun q1 E V Rt=>?_;clear zp;refine eK (ι:=Lv) (fun n=>⟨[some (.p (.lst (ag.map .int))),some (.ref 0),some (.ref 1),some (.p (.bool t)),some (.ref 2),some (.ref 3),some (.p (.int jm)),some (.p z7),some (.p z8),some (.p a0),some (.p z10),some (.p z11),
  some (.p (.lst (ed t rs))),some (.p (.int b.T.length)),none,none,none,none,none,none,none,none,none,none,none,none,none,none],[bxO xs jx,bo cz (cR b 2) n.b n.h n.v, .bx (.dict (fw t es)), .bx (.dict (dP t es))]⟩) (fun n=>Rb (cR b 2).T (cR b 2).room n.b n.h) (fun K2 ah=>?_) fun n d2=>?_
 ·lk;refine cX em 1 {x:=2} rfl ce ⟨p2.nested.trans L.g.nested,by decide,by decide⟩ fun c3 ct dd d2=>?_
  lk;exact ah {b:=c3,h:=ct,v:=dd} d2
 generalize n.b=b4 at d2;generalize n.h=h4 at d2;generalize n.v=v4;refine eK (ι:=Lv) (fun n=>⟨[some (.p (.lst (ag.map .int))),some (.ref 0),some (.ref 1),some (.p (.bool t)),some (.ref 2),some (.ref 3),some (.p (.int jm)),some (.p z7),some (.p z8),some (.p a0),some (.p z10),some (.p z11),
  some (.p (.lst (ed t rs))),some (.p (.int b.T.length)),none,none,none,none,none,none,none,none,none,none,none,none,none,none],[bxO xs jx,bo cz (dA (cR b 2) 1 b.T.length 0) n.b n.h n.v, .bx (.dict (fw t es)), .bx (.dict (dP t es))]⟩) (fun n=>Rb (dA (cR b 2) 1 b.T.length 0).T (dA (cR b 2) 1 b.T.length 0).room n.b n.h) (fun K2 ah=>?_) fun n d5=>?_
 ·lk;refine cX eh 1 {x:=1,y:=b.T.length,z:=0} rfl d2 ⟨_,u⟩ fun c3 ct dd d2=>?_;lk;exact ah {b:=c3,h:=ct,v:=dd} d2
 generalize n.b=b5 at d5;generalize n.h=h5 at d5;generalize n.v=v5;clear u d2 ce;generalize dA (cR b 2) 1 b.T.length 0=u at *;refine eK (ι:=Lv) (fun n=>⟨[some (.p (.lst (ag.map .int))),some (.ref 0),some (.ref 1),some (.p (.bool t)),some (.ref 2),some (.ref 3),some (.p (.int jm)),some (.p z7),some (.p z8),some (.p a0),some (.p z10),some (.p z11),
  some (.p (.lst (ed t rs))),some (.p (.int b.T.length)),some (.p (.int (fX u))),none,none,none,none,none,none,none,none,none,none,none,none,none],[bxO xs jx,bo cz (wvA {u with nested:=false} [0,q1] b.T.length) n.b n.h n.v, .bx (.dict (fw t es)), .bx (.dict (dP t es))]⟩) (fun n=>Rb (wvA {u with nested:=false} [0,q1] b.T.length).T (wvA {u with nested:=false} [0,q1] b.T.length).room n.b n.h) (fun K2 ah=>?_) fun n bh=>?_
 ·lk;refine ju (b:=wvA {u with nested:=false} [0,q1] b.T.length) (z:=.int (fX u)) eo 1 {x:=b.T.length} rfl rfl d5 ⟨_,E⟩ (by show wvA _ (u.vt.getD []) _=_;rw[V];rfl) rfl fun bb c2 d1 d5=>?_
  lk;exact ah {b:=bb,h:=c2,v:=d1} d5
 generalize n.b=b6 at bh;generalize n.h=h6 at bh;generalize n.v=v6;generalize wvA {u with nested:=false} [0,q1] b.T.length=c at *;generalize fX u=R at *;generalize b.T.length=vp at *;clear E V d5;refine eK (ι:=Lv) (fun n=>⟨[some (.p (.lst (ag.map .int))),some (.ref 0),some (.ref 1),some (.p (.bool t)),some (.ref 2),some (.ref 3),some (.p (.int jm)),some (.p z7),some (.p z8),some (.p a0),some (.p z10),some (.p z11),
  some (.p (.lst (ed t rs))),some (.p (.int vp)),some (.p (.int R)),some (.p (.int n.y)),none,none,none,none,none,none,none,none,none,none,none,none],[bxO xs n.x,bo cz c b6 h6 v6, .bx (.dict (fw t es)), .bx (.dict (dP t es))]⟩) (fun n=>0≤n.x∧0≤n.y∧n.y<3) (fun K2 ah=>?_) fun n hn=>?_
 ·lk;refine dG hT rfl rfl (gH (e6 hx (by decide)) fun v i2 d4 cc eb=>?_)
  lk;exact ah {x:=i2,y:=v} ⟨eb,d4,cc⟩
 refine e0c hn fun fb hy0 hy1=>?_;generalize n.x=x2 at fb;generalize n.y=m at hy0 hy1;have hm:m=0∨m=1∨m=2:=by lia
 refine e0c (Rt.fin m hm) fun F RD F0=>?_;refine eK (ι:=Lv) (fun n=>⟨[some (.p (.lst (ag.map .int))),some (.ref 0),some (.ref 1),some (.p (.bool t)),some (.ref 2),some (.ref 3),some (.p (.int jm)),some (.p z7),some (.p z8),some (.p a0),some (.p z10),some (.p z11),
  some (.p (.lst (ed t rs))),some (.p (.int vp)),some (.p (.int R)),some (.p (.int m)),none,none,none,none,none,none,none,none,none,none,none,none],[bxO xs x2,bo cz (lY c R m) n.b n.h n.v, .bx (.dict (fw t es)), .bx (.dict (dP t es))]⟩) (fun n=>Rb (lY c R m).T (lY c R m).room n.b n.h) (fun K2 ah=>?_) fun n dv=>?_
 ·rcases hm with rfl|rfl|rfl
  ·lk;refine qP hF 1 {x:=R,y:=0} rfl bh ⟨.inl rfl,F⟩ fun r bb c2 d1 d5=>?_;lk;exact ah {b:=bb,h:=c2,v:=d1} d5
  ·lk;refine qP f3 1 {x:=R} rfl bh F fun r bb c2 d1 d5=>?_;lk;exact ah {b:=bb,h:=c2,v:=d1} d5
  ·lk;refine qP hF 1 {x:=R,y:=2} rfl bh ⟨.inr rfl,F⟩ fun r bb c2 d1 d5=>?_;lk;exact ah {b:=bb,h:=c2,v:=d1} d5
 generalize n.b=b7 at dv;generalize n.h=h7 at dv;generalize n.v=v7;have e0:(lY c R m).fin=true:=rfl;clear bh F;generalize lY c R m=f at *;have dl:=RD.dl;have tlo:=RD.tab.lo;have thi:=RD.tab.hi;refine e0b (lO F0 dl) fun F1 F2=>?_;rw[show(f.T.length:Int)-(f.T.length-re m)=re m by lia]at F1 F2
 refine eK (ι:=Unit) (fun _=>⟨[some (.p (.lst (ag.map .int))),some (.ref 0),some (.ref 1),some (.p (.bool t)),some (.ref 2),some (.ref 3),some (.p (.int jm)),some (.p z7),some (.p z8),some (.p a0),some (.p z10),some (.p z11),
  some (.p (.lst (ed t rs))),some (.p (.int vp)),some (.p (.int R)),some (.p (.int m)),some (.p (.bytes f.T)),none,none,none,none,none,none,none,none,none,none,none],[bxO xs x2,bo cz f b7 h7 v7, .bx (.dict (fw t es)), .bx (.dict (dP t es)), .bx (.ba f.T)]⟩) (fun _=>True) (fun K2 ah=>?_) fun _ _=>?_
 ·lk;refine yV e5 1 ⟨f,b7,h7,v7⟩ rfl dv e0 ?_;lk;refine⟨dl,?_⟩;lk;exact ah () trivial
 refine eK (ι:=Unit) (fun _=>⟨[some (.p (.lst (ag.map .int))),some (.ref 0),some (.ref 1),some (.p (.bool t)),some (.ref 2),some (.ref 3),some (.p (.int jm)),some (.p z7),some (.p z8),some (.p a0),some (.p z10),some (.p z11),
  some (.p (.lst (ed t rs))),some (.p (.int vp)),some (.p (.int R)),some (.p (.int m)),some (.p (.bytes f.T)),some (.p (.int (re m))),none,none,none,none,none,none,none,none,none,none],[bxO xs x2,bo cz f b7 h7 v7, .bx (.dict (fw t es)), .bx (.dict (dP t es)), .bx (.ba f.T)]⟩) (fun _=>True) (fun K2 ah=>?_) fun _ _=>?_
 ·have ah:=ah () trivial;rcases hm with rfl|rfl|rfl
  ·lk;exact ah
  ·lk;exact ah
  ·lk;exact ah
 lk;refine eH hG {g:=.u,d:=f.T,x:=re m} F1 ?_;lk
 conv=>whnf
 rw[show re m+rdF (Ar.g {g:=.u,d:=f.T,x:=re m}).F (Ar.d {g:=.u,d:=f.T,x:=re m}) (Ar.x {g:=.u,d:=f.T,x:=re m})=f.T.length-R by show re m+rdF .I f.T (re m)=_;rw[F2];lia]
 refine zS e3 ⟨by exact(lin [_] [_] an bl 1 [.i 1 aa af] rfl thi),by exact lin [_] [_] bl aP 1 [.j 1 ab aq,.i 1 ap aa] rfl dl tlo⟩ fun dt=>?_
 lk;exact hQ ⟨t,x2,es,rs,f.T,R,q1,vp,dt, .int jm,z7,z8,a0,z10,z11, .int vp, .int R, .int m, .int (re m),bo cz f b7 h7 v7, .bx (.dict (dP t es)), .bx (.ba f.T)⟩ ⟨fb,RD,S,L.kb,ee,ck⟩
end
section
theorem vP:∀a:List Int,ltL a a=false
 |[]=>rfl
 |x::a=>by
  have:=vP a;unfold ltL;simp[this]
theorem pp{α:Type}(p:α→Bool):∀(l:List α) (a b:Nat),(∀(i:Nat) e,l[i]?=some e→(p e=true↔a≤i∧i<b))→l.filter p=(l.drop a).take (b-a)
 |[],a,b,_=>by rw[List.drop_nil,List.take_nil];rfl
 |x::l,a,b,h=>by
  have ih:=pp p l (a-1) (b-1) fun i e he=>(h (i+1) e he).trans ⟨fun q=>⟨by lia,by exact cG [] [_,_,_] bc ae 1 [.j 1 cb aj,.f (-1) be aj] rfl (Gu q) (Go (cG [] [_,_] ai ab 1 [.j 1 (.a be ai) ab] rfl (Gu q)))⟩,fun q=>⟨by lia,by exact cG [] [_,_,_] cb ae 1 [.j 1 bc aj,.f 1 bf ae] rfl (Gu q) (Go (cG [] [_,_,_,_] ai ab 1 [.j 1 ae aj,.j 1 bf au,.j 1 au ab] rfl (Gz q) (Gu q) (Nat.sub_le _ _)))⟩⟩
  have h0:=h 0 x rfl
  cases a with
  |zero=>
   cases b with
   |zero=>
    have:¬p x=true:=fun q=>absurd (h0.mp q).2 (Nat.lt_irrefl 0);rw[List.filter_cons_of_neg this,ih];rfl
   |succ b=>
    rw[List.filter_cons_of_pos (h0.mpr ⟨Gw 0,Nat.succ_pos b⟩),ih];rfl
  |succ a=>
   have:¬p x=true:=fun q=>absurd (h0.mp q).1 (Nat.not_succ_le_zero a);rw[List.filter_cons_of_neg this,ih,List.drop_succ_cons,show b-1-(a+1-1)=b-(a+1)by lia];rfl
noncomputable def gW(rs:List En)(k:List Int):Nat:=(rs.filter fun e=>ltL e.k k).length
theorem nT.low{rs:List En}{k:List Int}{low:Int}(h:nT rs k low low):low=gW rs k:=by
 have h0:=h.l0;have hn:=h.hn;have:=pp (fun e=>ltL e.k k) rs 0 low.toNat fun i e he=>⟨fun q=>⟨G1 _,by
  rcases G5 i low.toNat with z|z
  ·exact z
  ·rw[h.hi i e he (by exact lin [_] [_,_] aa af 1 [.j 1 ae ab,.e (-1) ak aa] rfl z (Gl (h0)))]at q;exact ft q⟩,fun q=>h.lo i e he (by exact lin [_] [_,_] bv aa 1 [.j 1 bc ae,.e 1 ak aa] rfl (Gu q) (Gl (h0)))⟩
 unfold gW;rw[this,List.drop_zero,GW];lia
theorem nT.at{rs:List En}{k:List Int}{low:Int}(h:nT rs k low low):nT rs k (gW rs k) (gW rs k):=h.low▸h
noncomputable def btw(a b:List Int)(e:En):Bool:=!ltL e.k a&&ltL e.k b
theorem BP{rs:List En}{a b:List Int}{x y:Nat}(h:nT rs a x x)(h':nT rs b y y):rs.filter (btw a b)=(rs.drop x).take (y-x):=
 pp _ rs x y fun i e he=>by
  unfold btw;have p1:=h.lo i e he;have p2:=h.hi i e he;have p3:=h'.lo i e he;have p4:=h'.hi i e he;rcases G5 i x with q|q<;>rcases G5 i y with q2|q2
  ·rw[p1 (by exact lin [] [_,_] bv ak 1 [.j 1 bc ae] rfl q),p3 (by exact lin [] [_,_] bv ak 1 [.j 1 bc ae] rfl q2)];exact⟨fun z=>ft z,fun z=>absurd z.1 (Nat.not_le.mpr q)⟩
  ·rw[p1 (by exact lin [] [_,_] bv ak 1 [.j 1 bc ae] rfl q),p4 (by exact lin [] [_,_] af ak 1 [.j 1 ab ae] rfl q2)];exact⟨fun z=>ft z,fun z=>absurd z.1 (Nat.not_le.mpr q)⟩
  ·rw[p2 (by exact lin [] [_,_] af ak 1 [.j 1 ab ae] rfl q),p3 (by exact lin [] [_,_] bv ak 1 [.j 1 bc ae] rfl q2)];exact⟨fun _=>⟨q,q2⟩,fun _=>rfl⟩
  ·rw[p2 (by exact lin [] [_,_] af ak 1 [.j 1 ab ae] rfl q),p4 (by exact lin [] [_,_] af ak 1 [.j 1 ab ae] rfl q2)];exact⟨fun z=>ft z,fun z=>absurd z.2 (Nat.not_lt.mpr q2)⟩
theorem yS{es rs:List En}{k:List Int}{n:Nat}(S:Srt es rs)(h:nT rs k n n)(hk:k∈es.map (·.k)):∃e,rs[n]?=some e∧e.k=k:=by
 refine e1b (List.mem_map.mp hk) fun e he q=>?_;refine e1b (S.inv e he) fun f hf qf=>?_;refine e1a (List.mem_iff_getElem?.mp hf) fun i hi=>?_;rw[q]at qf;rcases Nat.lt_trichotomy i n with z|z|z
 ·have:=h.lo i f hi (by exact lin [] [_,_] bv ak 1 [.j 1 bc ae] rfl z);rw[qf,vP]at this;exact ft this
 ·exact⟨f,z▸hi,qf⟩
 ·have hl:n<rs.length:=by have:=(List.getElem?_eq_some_iff.mp hi).1;exact cG [] [_,_,_] bc ae 1 [.j 1 bc aj,.j 1 bf ae] rfl z this
  have g:=S.so n i _ f (GD hl) hi z;rw[qf,h.hi n _ (GD hl) (GP _)]at g;exact ft g
end
section
theorem m5{env:List (Option V)}{i:Nat}{v:V}{K:V→Prop}(h:env[i]?=some (some v))(k:K v):jr env i K:=by
 unfold jr;rw[h];exact k
theorem A4(i j:Int):ltL [i] [j]=decide (i<j):=by unfold ltL ltL;simp
theorem DM{t:Bool}{a b:List Int}{st:St}{Q:V→St→Prop}(ha:t=false→a.length=1)(hb:t=false→b.length=1)(h:Q (.p (.bool (!ltL b a))) st):r0 .LtE (.p (kP t a)) (.p (kP t b)) st Q:=by
 cases t with
 |true=>exact⟨a,b,⟨rfl,rfl⟩,h⟩
 |false=>
  refine e1a (kB (ha rfl)) fun i e=>e1a (kB (hb rfl)) fun j e'=>?_;clear ha hb;subst e e';have:(!ltL [j] [i])=decide (i≤j):=by rw[A4,←decide_not];exact decide_eq_decide.mpr Int.not_lt
  exact(this▸h:Q (.p (.bool (decide (i≤j)))) st)
theorem DN{t:Bool}{a b:List Int}{st:St}{Q:V→St→Prop}(ha:t=false→a.length=1)(hb:t=false→b.length=1)(h:Q (.p (.bool (decide (a=b)))) st):r0 .Eq (.p (kP t a)) (.p (kP t b)) st Q:=by
 cases t with
 |true=>exact⟨a,b,⟨rfl,rfl⟩,h⟩
 |false=>
  refine e1a (kB (ha rfl)) fun i e=>e1a (kB (hb rfl)) fun j e'=>?_;clear ha hb;subst e e';have:decide ([i]=[j])=decide (i=j):=decide_eq_decide.mpr ⟨fun z=>(List.cons.inj z).1,fun z=>by rw[z]⟩
  exact(this▸h:Q (.p (.bool (decide (i=j)))) st)
theorem CP{G:Pg}{i j:Nat}{A B C:S}{st:St}{Q:Fl→St→Prop}{t:Bool}{a b:List Int}(hi:st.env[i]?=some (some (.p (kP t a))))(hj:st.env[j]?=some (some (.p (kP t b))))(ha:t=false→a.length=1)(hb:t=false→b.length=1)
  (h1:a=b→wS G (.seq A C) st Q) (h2:a≠b→wS G (.seq B C) st Q):wS G (.seq (.ite (.cmp .Eq (.var i) (.var j)) A B) C) st Q:=by
 show jr st.env i fun x=>jr st.env j fun y=>r0 .Eq x y st fun v st=>fB v st fun u=>br u (wS G A st fun f st=>match f with|.next=>wS G C st Q|f=>Q f st) (wS G B st fun f st=>match f with|.next=>wS G C st Q|f=>Q f st)
 exact m5 hi (m5 hj (DN ha hb (c9 (fun q=>h1 (GI q)) fun q=>h2 (GN q))))
theorem uP{i:Nat}{G:Pg}{conds elt:C}{x:P}{st:St}{K:List P→St→Prop}(b:Bool)(h:∀Qc:Bool→St→Prop,Qc b ⟨st.env.set i (some (.p x)),st.σ⟩→wt G conds ⟨st.env.set i (some (.p x)),st.σ⟩ Qc)
  (h1:b=true→w G elt ⟨st.env.set i (some (.p x)),st.σ⟩ fun ys a3=>a3.env=st.env.set i (some (.p x))∧match pk ys a3.σ with|(ys,σ)=>match ps? ys with|some ps=>K ps ⟨st.env,σ⟩|none=>False)
  (h2:b=false→K [] ⟨st.env,st.σ⟩):oU (.var i) (wt G conds) (w G elt) x st K:=by
 show wt G conds ⟨st.env.set i (some (.p x)),st.σ⟩ fun b a0=>a0.env=st.env.set i (some (.p x))∧br b (w G elt a0 fun ys a3=>a3.env=a0.env∧match pk ys a3.σ with|(ys,σ)=>match ps? ys with|some ps=>K ps ⟨st.env,σ⟩|none=>False) (K [] ⟨st.env,a0.σ⟩)
 exact h _ ⟨rfl,c9 h1 h2⟩
theorem EL{G:Pg}{i j:Nat}{st:St}{Q:Bool→St→Prop}{t:Bool}{a b:List Int}(hi:st.env[i]?=some (some (.p (kP t a))))(hj:st.env[j]?=some (some (.p (kP t b))))(ha:t=false→a.length=1)(hb:t=false→b.length=1)
  (h:Q (ltL a b) st):wt G (.cmp .Lt (.var i) (.var j)) st Q:=by
 show jr st.env i fun x=>jr st.env j fun y=>r0 .Lt x y st fun v st=>fB v st fun u=>Q u st
 exact m5 hi (m5 hj (wL ha hb h))
theorem Cm{G:Pg}{i j:Nat}{st:St}{Q:Bool→St→Prop}{t:Bool}{a b k:List Int}{l:List P}(hi:st.env[i]?=some (some (.p (.lst (kP t a::kP t b::l)))))(hl:l.length≤100)(hj:st.env[j]?=some (some (.p (kP t k))))(ha:t=false→a.length=1)(hb:t=false→b.length=1)(hk:t=false→k.length=1)
  (h:Q (!ltL k a&&ltL k b) st):wt G (.chain .LtE .Lt (.idx (.var i) (.lit (.int 0))) (.var j) (.idx (.var i) (.lit (.int 1)))) st Q:=by
 show jr st.env i fun l=>EB l (.p (.int 0)) st fun x st=>jr st.env j fun y=>r0 .LtE x y st fun v st=>fB v st fun u=>br u (jr st.env i fun l=>EB l (.p (.int 1)) st fun z st=>r0 .Lt y z st fun v st=>fB v st fun b=>Q b st) (Q false st)
 refine m5 hi ?_;have b7:(kP t a::kP t b::l).length≤16777216:=by show l.length+1+1≤_;exact cG [] [_] cb aq 1 [.j 1 ab aY] rfl hl
 refine jZ (GP 0) (z:=kP t a) rfl b7 (m5 hj (DM ha hk ?_));refine c9 (fun q=>?_) fun q=>?_
 ·refine m5 hi (jZ (show(0:Int)≤1 by decide) (z:=kP t b) rfl b7 (wL hk hb ?_))
  rw[q]at h;exact h
 ·rw[q]at h;exact h
theorem xc{w:Rw}{v:Nat}{key:List Int}{Q:V→List O→Prop}(h:w.ok∧nw w.rs∧(w.t=false→key.length=1)∧∀e∈w.rs,w.t=false→e.k.length=1)
  (hq:∀low a0,nT w.rs key low low→Cj w.rs.length a0 0→Q (.p (.tup [.int low, .int a0])) [w.o v]):j5 [.ref 0, .p (kP w.t key), .p (.bool w.t)] [] [w.o v] Q:=by
 unfold j5;exact⟨w,v,key,rfl,rfl,rfl,h,hq⟩
end
section
noncomputable def Yw.s3(y:Yw)(ag xs:List Int)(z8:V)(z9:P)(s:Nat)(ar:Option V)(qs:List (List Int))(o22 o23 o24 o25 o26 o27:Option V)(r:List O):St:=⟨[some (.p (.lst (ag.map .int))),some (.ref 0),some (.ref 1),some (.p (.bool y.t)),some (.ref 2),some (.ref 3),some (.p y.z6),some (.p y.z7),some z8,some (.p z9),some (.p y.z10),some (.p y.z11),
 some (.p (.lst (ed y.t y.rs))),some (.p y.z13),some (.p y.z14),some (.p y.z15),some (.p (.bytes y.d)),some (.p y.z17),some (.ref 5),some (.p (.int s)),ar,some (.p (.lst (qs.map (kP y.t)))),o22,o23,o24,o25,o26,o27],
 bxO xs y.x::y.o1::.bx (.dict (fw y.t y.es))::y.o3::y.o4::Tw.o ⟨y.d,y.d.length-y.R,y.v⟩::r⟩
noncomputable def vg(t:Bool)(e:En):P:=Cd t (e.k,e.w)
noncomputable def kj(rs:List En)(qs:List (List Int)):List P:=qs.map fun k=>.int (gW rs k)
noncomputable def Yw.w(y:Yw):Rw:=⟨y.d,y.t,y.R,y.q1,y.vp,y.rs⟩
theorem YwI.get{y:Yw}(I:YwI y){e:En}(he:e∈y.rs):iM (fw y.t y.es) (kP y.t e.k)=some (.int e.w):=
 (lx (fun e=>P.int e.w) (qw (I.kb e (I.S.mem e he).1)) I.kb).trans (congrArg (Option.map fun e=>P.int e.w) (I.S.mem e he).2)
theorem YwI.kl{y:Yw}(I:YwI y):∀e∈y.rs,y.t=false→e.k.length=1:=fun e he=>qw (I.kb e (I.S.mem e he).1)
theorem Da{Φ:Addr→Option Ctr}(dt:AT Φ dQ l7)(dr:AT Φ dR kY){ag xs:List Int}{Q:Fl→St→Prop}(hQ:∀e r,Q (.ret (.p (.bool true))) ⟨e,r⟩)(y:Yw)(I:YwI y)(s:Nat){k0 k1 k2 k3 k4:List Int}{z9 ac a5 a0:P}{o27:Option P}{n0 n1:Nat}{fs:List P}
  (h0:nT y.rs k0 n0 n0) (h1:nT y.rs k1 n1 n1) (l0:y.t=false→k0.length=1) (l1:y.t=false→k1.length=1) (hf:fs.length≤100) :
  wS ⟨Φ,wx,sS⟩ (tlS 24 pX) (y.s3 ag xs (.p y.z8) z9 s none [k0,k1,k2,k3,k4] (some (.ref 6)) (some (.p ac)) (some (.p a5)) none (some (.p a0)) (o27.map .p) [.bx (.lst (.int n0::.int n1::fs))]) Q:=by
 have a3:=I.S.len;have a4:=I.n1;have c0:=h0.hn;have c1:=h1.hn;have aw:(P.int n0::P.int n1::fs).length≤16777216:=by show fs.length+1+1≤_;exact cG [] [_] cb aq 1 [.j 1 ab aY] rfl hf
 refine eK (ι:=Unit) (fun _=>y.s3 ag xs (.ref 7) z9 s none [k0,k1,k2,k3,k4] (some (.ref 6)) (some (.p ac)) (some (.p a5)) none (some (.p a0)) (o27.map .p) [.bx (.lst (.int n0::.int n1::fs)), .bx (.lst [])]) (fun _=>True) (fun K2 ah=>?_) fun _ _=>?_
 ·lk;refine⟨G1 _,?_⟩;lk;exact ah () trivial
 refine eK (ι:=Lv) (fun j=>y.s3 ag xs (.ref 7) z9 s (j.o.map .p) [k0,k1,k2,k3,k4] (some (.ref 6)) (some (.p ac)) (some (.p a5)) none (some (.p a0)) (j.q.map .p) [.bx (.lst (.int n0::.int n1::fs)), .bx (.lst (((y.rs.drop n0).take (n1-n0)).map (vg y.t)))]) (fun _=>True) (fun K2 ah=>?_) fun j _=>?_
 ·lk;refine jZ (GP 0) (z:=.int n0) rfl aw ?_;lk;refine jZ (show(0:Int)≤1 by decide) (z:=.int n1) rfl aw ?_
  lk;refine⟨⟨by exact(lin [] [_] ay af 1 [] rfl),by exact(lin [] [_,_,_] af aG 1 [.f 1 ae aj,.j 1 aj aN,.i 1 af ak] rfl a3 a4 c0),by exact(lin [] [_] ay af 1 [] rfl),by exact(lin [] [_,_,_] af aG 1 [.f 1 ae aj,.j 1 aj aN,.i 1 af ak] rfl a3 a4 c1), .inl rfl⟩,?_⟩
  rw[kH,show((n1:Int)-n0).toNat=n1-n0 by lia]
  refine qt (n0:=8) (ι:=Lv) (fun j=>y.s3 ag xs (.ref 7) z9 s (j.o.map .p) [k0,k1,k2,k3,k4] (some (.ref 6)) (some (.p ac)) (some (.p a5)) none (some (.p a0)) (j.q.map .p) [.bx (.lst (.int n0::.int n1::fs)), .bx (.lst (((y.rs.drop n0).take j.k).map (vg y.t)))])
   (fun l j=>∃m,l=rz ((n0+j.k:Nat):Int) m∧j.k+m=n1-n0) (fun x l j K3 hj hn=>⟨trivial,?_⟩) (fun j hj=>⟨trivial,?_⟩) _ {k:=0,q:=o27} ⟨_,rfl,Nat.zero_add _⟩
  ·refine e1b hj fun m hl hk=>?_;refine e1c (ry hl) fun m' em ex df=>?_;subst em ex df;obtain⟨e,he⟩:∃e,y.rs[n0+j.k]?=some e:=⟨y.rs[n0+j.k]'(by lia),GD (by lia)⟩
   have hw:=I.rd.el _ e he;have hw:=td hw.2 I.rd.dl;lk;refine dG dt rfl rfl (oX (w:=y.w) (v:=y.v) I.rd he fun v'=>?_);lk;refine gE dr 8 {x:=6,y:=0,g:=.i} ⟨y.d,y.d.length-e.p,v'⟩ (.int e.w) rfl rfl hw.1 (congrArg P.int hw.2) ?_;lk;refine⟨GB rfl,?_⟩;lk;refine⟨by rw[GA,GW];exact(cG [] [_,_,_,_,_,_,_] bc aq 1 [.f 1 ae aj,.j 1 aj aN,.i 1 az ak,.f 1 (.a aB (.a aM ai)) (.v 6),.j 1 (.v 6) au,.j 1 ab aB] rfl a3 a4 c1 hk (Nat.sub_le _ _) (Nat.min_le_left _ _)),?_⟩
   lk;refine(hn _ {k:=j.k+1,o:=some (.int ((n0+j.k:Nat):Int)),q:=some (kP y.t e.k)} ?_ ⟨m',congrArg (fun z=>rz z m') (by show((n0+j.k:Nat):Int)+1=((n0+(j.k+1):Nat):Int);lia),by show j.k+1+m'=_;lia⟩).1
   have e2:((y.rs.drop n0).take (j.k+1)).map (vg y.t)=((y.rs.drop n0).take j.k).map (vg y.t)++[vg y.t e]:=by
    rw[List.take_add_one,List.getElem?_drop,he,Ha];rfl
   show _=y.s3 ag xs (.ref 7) z9 s (some (.p (.int ((n0+j.k:Nat):Int)))) [k0,k1,k2,k3,k4] (some (.ref 6)) (some (.p ac)) (some (.p a5)) none (some (.p a0)) (some (.p (kP y.t e.k))) [.bx (.lst (.int n0::.int n1::fs)), .bx (.lst (((y.rs.drop n0).take (j.k+1)).map (vg y.t)))]
   rw[e2];rfl
  ·refine e1b hj fun m hl hk=>?_;rw[zw hl]at hk;have hk:j.k=n1-n0:=hk;rw[hk];exact ah {o:=j.o,q:=j.q} trivial
 generalize j.o=ar;generalize j.q=o27;lk;refine⟨⟨rfl,by unfold ed;rw[GA];exact cG [] [_,_] ab aq 1 [.f 1 ab ae,.j 1 ae aN] rfl a3 a4⟩,?_⟩
 lk;refine zQ (fun _=>⟨(y.s3 ag xs (.ref 7) z9 s (ar.map .p) [k0,k1,k2,k3,k4] (some (.ref 6)) (some (.p ac)) (some (.p a5)) none (some (.p a0)) (o27.map .p) []).env++[none],(y.s3 ag xs (.ref 7) z9 s (ar.map .p) [k0,k1,k2,k3,k4] (some (.ref 6)) (some (.p ac)) (some (.p a5)) none (some (.p a0)) (o27.map .p) [.bx (.lst (.int n0::.int n1::fs)), .bx (.lst (((y.rs.drop n0).take (n1-n0)).map (vg y.t)))]).σ⟩)
  (fun l acc j=>l=ed y.t (y.rs.drop j.k)∧acc=((y.rs.take j.k).filter (btw k0 k1)).map (vg y.t)) (fun x l acc j K3 hj hn=>⟨by rfl,?_⟩) (fun acc j hj=>⟨by rfl,?_⟩) _ _ {k:=0} ⟨by rfl,by rfl⟩
 ·refine e0b hj fun hl ha=>?_;subst ha;obtain⟨e,he,ex,df⟩:∃e,y.rs[j.k]?=some e∧x=kP y.t e.k∧l=ed y.t (y.rs.drop (j.k+1)):=by
   rcases G5 j.k y.rs.length with q|q
   ·rw[List.drop_eq_getElem_cons q]at hl;have h2:=List.cons.inj hl;exact⟨_,GD q,h2.1,h2.2⟩
   ·rw[List.drop_eq_nil_of_le q]at hl;exact cn hl
  subst ex df;have cf:=I.kl e (GV he);have et:(y.rs.take (j.k+1)).filter (btw k0 k1)=(y.rs.take j.k).filter (btw k0 k1)++if btw k0 k1 e then[e]else[]:=by
   rw[List.take_add_one,he,List.filter_append]
   show _++(List.filter (btw k0 k1) [e])=_
   rw[List.filter_cons];rfl
  refine uP (btw k0 k1 e) (fun Qc h=>Cm rfl (GB rfl) rfl l0 l1 cf h) (fun q=>?_) (fun q=>?_)
  ·lk;refine⟨jn _, .int e.w,I.get (GV he),?_⟩;lk;refine⟨GB rfl,?_⟩;lk;refine hn [vg y.t e] {k:=j.k+1} ⟨rfl,?_⟩
   show _=((y.rs.take (j.k+1)).filter (btw k0 k1)).map (vg y.t)
   rw[et,q,Ha];rfl
  ·refine hn [] {k:=j.k+1} ⟨rfl,?_⟩
   show _=((y.rs.take (j.k+1)).filter (btw k0 k1)).map (vg y.t)
   rw[et,q,Ha];rfl
 ·refine e0b hj fun hl ha=>?_;have hk:y.rs.length≤j.k:=by
   have:=congrArg List.length hl;unfold ed at this;rw[GA,GX]at this;have this:0=y.rs.length-j.k:=this
   lia
  rw[List.take_of_length_le hk,BP h0 h1]at ha;lk;refine⟨⟨trivial,ha.symm,y.t,((y.rs.drop n0).take (n1-n0)).map fun e=>(e.k,e.w),?_⟩,?_⟩
  ·rw[ha,List.map_map];rfl
  ·lk;exact hQ _ _
end
section
structure Fv where
 k:Nat
 z9:P
 o23:Option P
 o24:Option P
 o26:Option P
 o27:Option P
structure FvI(y:Yw)(qs:List (List Int))(l:List P)(j:Fv):Prop where
 l:l=(qs.drop j.k).map (kP y.t)
 cut:∀(i:Nat) k,qs[i]?=some k→i<j.k→nT y.rs k (gW y.rs k) (gW y.rs k)
 some:1≤j.k→∃a b c,j.o23=some a∧j.o24=some b∧j.o26=some c
noncomputable def Fv.st(j:Fv)(y:Yw)(ag xs:List Int)(s:Nat)(qs:List (List Int)):St:=y.s3 ag xs (.p y.z8) j.z9 s none qs (some (.ref 6)) (j.o23.map .p) (j.o24.map .p) none (j.o26.map .p) (j.o27.map .p) [.bx (.lst (kj y.rs (qs.take j.k)))]
noncomputable def o25(b:Bool):Option V:=match b with|true=>some (.ref 7)|false=>none
structure Gv where
 b:Bool
 a:P
 o27:Option P
 s:List O
noncomputable def CV:S:=match tlS 23 pX with|.seq (.forIn _ _ _ b) _=>b|s=>s
theorem yD{y:Yw}{k0 k1 k2 k3 k4:List Int}{x:P}{l:List P}{j:Fv}(h:FvI y [k0,k1,k2,k3,k4] (x::l) j):∃key,[k0,k1,k2,k3,k4][j.k]?=some key∧x=kP y.t key∧l=([k0,k1,k2,k3,k4].drop (j.k+1)).map (kP y.t):=by
 have hl:=h.l;rcases G5 j.k [k0,k1,k2,k3,k4].length with q|q
 ·rw[List.drop_eq_getElem_cons q]at hl;have h2:=List.cons.inj hl;exact⟨_,GD q,h2.1,h2.2⟩
 ·rw[List.drop_eq_nil_of_le q]at hl;exact cn hl
theorem yE{y:Yw}{k0 k1 k2 k3 k4:List Int}{j:Fv}(h:FvI y [k0,k1,k2,k3,k4] [] j):5≤j.k:=by
 have h1:=congrArg List.length h.l;rw[GA,GX]at h1;have h1:0=5-j.k:=h1
 lia
theorem wA{Φ:Addr→Option Ctr}(hA:AT Φ eg j5)(dt:AT Φ dQ l7)(hO:AT Φ d0 fL)(hL:AT Φ dz gO)(dr:AT Φ dR kY){ag xs:List Int}(y:Yw)(I:YwI y)(s:Nat)(hs:y.rs.length<2 ^ s){k0 k1 k2 k3 k4:List Int}
  (hq:∀k∈[k0,k1,k2,k3,k4],y.t=false→k.length=1) (j:Fv) {x:P} {l:List P} {K:Fl→St→Prop} (hj:FvI y [k0,k1,k2,k3,k4] (x::l) j)
  (hn:∀b3 j,iu 7 b3=Fv.st j y ag xs s [k0,k1,k2,k3,k4]→FvI y [k0,k1,k2,k3,k4] l j→K .next b3∧K .cont b3) :
  y4 (.var 9) (.p x) (j.st y ag xs s [k0,k1,k2,k3,k4]) fun st=>wS ⟨Φ,wx,sS⟩ CV st K:=by
 have a3:=I.S.len;have a4:=I.n1;refine e1c (yD hj) fun key hk ex df=>?_;subst ex;have cf:=hq key (GV hk);have hql:[k0,k1,k2,k3,k4].length≤5:=Gw 5;generalize [k0,k1,k2,k3,k4]=qs at *;obtain⟨jk,jz,j23,j24,j26,j27⟩:=j;refine(?_:wS ⟨Φ,wx,sS⟩ CV (Fv.st ⟨jk,kP y.t key,j23,j24,j26,j27⟩ y ag xs s qs) K);refine eK (ι:=Lv) (fun n=>y.s3 ag xs (.p y.z8) (kP y.t key) s none qs (some (.ref 6)) (some (.p (.int n.x))) (some (.p (.int n.y))) none (j26.map .p) (j27.map .p) [.bx (.lst (kj y.rs (qs.take jk)))]) (fun n=>nT y.rs key n.x n.x∧n.y≤s) (fun K2 ah=>?_) fun n b5=>?_
 ·lk;refine dG hA rfl rfl (xc (w:=y.w) (v:=y.v) ⟨I.rd,I.S.so,cf,I.kl⟩ fun low a0 hc hv=>?_);lk;exact ah {x:=low,y:=a0} ⟨hc,(hv.2 s hs).1⟩
 refine e0b b5 fun hc aw=>?_;clear b5;generalize n.x=low at hc;generalize n.y=a0 at aw;have el:=hc.low;subst el;refine eK (ι:=Unit) (fun _=>y.s3 ag xs (.p y.z8) (kP y.t key) s none qs (some (.ref 6)) (some (.p (.int (gW y.rs key)))) (some (.p (.int a0))) none (j26.map .p) (j27.map .p) [.bx (.lst (kj y.rs (qs.take jk)))]) (fun _=>True) (fun K2 ah=>?_) fun _ _=>?_
 ·lk;refine uB (decide_eq_false (Int.not_lt.mpr aw)) ?_;lk;refine⟨⟨rfl,by unfold ed;rw[GA];exact cG [] [_,_] ab aq 1 [.f 1 ab ae,.j 1 ae aN] rfl a3 a4⟩,?_⟩
  lk;refine zQ (fun _=>⟨(y.s3 ag xs (.p y.z8) (kP y.t key) s none qs (some (.ref 6)) (some (.p (.int (gW y.rs key)))) (some (.p (.int a0))) none (j26.map .p) (j27.map .p) []).env++[none],(y.s3 ag xs (.p y.z8) (kP y.t key) s none qs (some (.ref 6)) (some (.p (.int (gW y.rs key)))) (some (.p (.int a0))) none (j26.map .p) (j27.map .p) [.bx (.lst (kj y.rs (qs.take jk)))]).σ⟩)
   (fun l acc j=>l=ed y.t (y.rs.drop j.k)∧acc=ed y.t ((y.rs.take j.k).filter fun e=>ltL e.k key)) (fun x l acc j K3 hj hn=>⟨by rfl,?_⟩) (fun acc j hj=>⟨by rfl,?_⟩) _ _ {k:=0} ⟨by rfl,by rfl⟩
  ·refine e0b hj fun hl ha=>?_;subst ha;obtain⟨e,he,ex,df⟩:∃e,y.rs[j.k]?=some e∧x=kP y.t e.k∧l=ed y.t (y.rs.drop (j.k+1)):=by
    rcases G5 j.k y.rs.length with q|q
    ·rw[List.drop_eq_getElem_cons q]at hl;have h2:=List.cons.inj hl;exact⟨_,GD q,h2.1,h2.2⟩
    ·rw[List.drop_eq_nil_of_le q]at hl;exact cn hl
   subst ex df;have ac:=I.kl e (GV he);have et:(y.rs.take (j.k+1)).filter (fun e=>ltL e.k key)=(y.rs.take j.k).filter (fun e=>ltL e.k key)++if ltL e.k key then[e]else[]:=by
    rw[List.take_add_one,he,List.filter_append]
    show _++(List.filter (fun e=>ltL e.k key) [e])=_
    rw[List.filter_cons];rfl
   refine uP (ltL e.k key) (fun Qc h=>EL rfl rfl ac cf h) (fun q=>?_) (fun q=>?_)
   ·lk;refine hn [kP y.t e.k] {k:=j.k+1} ⟨rfl,?_⟩
    show _=ed y.t ((y.rs.take (j.k+1)).filter fun e=>ltL e.k key)
    rw[et,q];unfold ed;rw[Ha];rfl
   ·refine hn [] {k:=j.k+1} ⟨rfl,?_⟩
    show _=ed y.t ((y.rs.take (j.k+1)).filter fun e=>ltL e.k key)
    rw[et,q];unfold ed;rw[Ha];rfl
  ·refine e0b hj fun hl ha=>?_;have hk:y.rs.length≤j.k:=by
    have:=congrArg List.length hl;unfold ed at this;rw[GA,GX]at this;have this:0=y.rs.length-j.k:=this
    lia
   rw[List.take_of_length_le hk]at ha;have ar:acc.length=gW y.rs key:=by rw[ha];unfold ed;rw[GA];rfl
   have d1:=hc.hn;lk;refine⟨by exact(cG [] [_,_,_,_] ab aq 1 [.f 1 ae aj,.j 1 aj aN,.f 1 ab au,.i 1 az ak] rfl a3 a4 ar d1),?_⟩
   lk;refine uB (decide_eq_false fun h=>h (congrArg Nat.cast ar.symm)) ?_;lk;exact ah () trivial
 refine eK (ι:=Unit) (fun _=>y.s3 ag xs (.p y.z8) (kP y.t key) s none qs (some (.ref 6)) (some (.p (.int (gW y.rs key)))) (some (.p (.int a0))) none (some (.p .none)) (j27.map .p) [.bx (.lst (kj y.rs (qs.take jk)))]) (fun _=>True) (fun K2 ah=>?_) fun _ _=>?_
 ·exact ah () trivial
 refine eK (ι:=Gv) (fun g=>y.s3 ag xs (.p y.z8) (kP y.t key) s none qs (some (.ref 6)) (some (.p (.int (gW y.rs key)))) (some (.p (.int a0))) (o25 g.b) (some (.p g.a)) (g.o27.map .p) (.bx (.lst (kj y.rs (qs.take jk)))::g.s)) (fun g=>(∃w,g.a=.int w∧iM (fw y.t y.es) (kP y.t key)=some (.int w))∨(g.a=.none∧iM (fw y.t y.es) (kP y.t key)=none)) (fun K2 ah=>?_) fun g hg=>?_
 ·have b4:(∀e,y.rs[gW y.rs key]?=some e→e.k≠key)→iM (fw y.t y.es) (kP y.t key)=none:=fun h=>by
   refine(lx (fun e=>P.int e.w) cf I.kb).trans ?_;rw[kQ.mpr fun hm=>e1b (yS I.S hc hm) fun e he q=>h e he q];rfl
  lk;refine gE hO 5 {x:=6} ⟨y.d,y.d.length-y.R,y.v⟩ (.int (y.R-y.q1)) rfl rfl I.rd.off.1 (congrArg P.int I.rd.off.2) ?_;lk;refine gE hL 5 {x:=y.R-y.q1} ⟨y.d,y.d.length-y.R,y.v⟩ (.int y.rs.length) rfl rfl I.rd.veclen.1 (congrArg P.int I.rd.veclen.2) ?_;lk;refine c9 (fun q=>?_) (fun q=>?_)
  ·have q:=GI q;obtain⟨e,he⟩:∃e,y.rs[gW y.rs key]?=some e:=⟨y.rs[gW y.rs key]'(by exact cG [] [_,_] bc ae 1 [.i 1 bv ak] rfl q),GD (by exact cG [] [_,_] bc ae 1 [.i 1 bv ak] rfl q)⟩
   have ac:=I.kl e (GV he);refine eK (ι:=Nat) (fun v'=>y.s3 ag xs (.p y.z8) (kP y.t key) s none qs (some (.ref 6)) (some (.p (.int (gW y.rs key)))) (some (.p (.int a0))) (some (.ref 7)) (some (.p .none)) (some (.p (kP y.t e.k))) [.bx (.lst (kj y.rs (qs.take jk))),Tw.o ⟨y.d,y.d.length-e.p,v'⟩]) (fun _=>True) (fun K3 d3=>?_) fun v' _=>?_
   ·lk;exact dG dt rfl rfl (oX (w:=y.w) (v:=y.v) I.rd he fun v'=>d3 v' trivial)
   refine CP rfl rfl ac cf (fun z=>?_) fun z=>?_
   ·have hw:=I.rd.el _ e he;have hw:=td hw.2 I.rd.dl;lk;refine gE dr 7 {x:=6,y:=0,g:=.i} ⟨y.d,y.d.length-e.p,v'⟩ (.int e.w) rfl rfl hw.1 (congrArg P.int hw.2) ?_;lk;exact ah ⟨true, .int e.w,some (kP y.t e.k),[Tw.o ⟨y.d,y.d.length-e.p,v'⟩]⟩ (.inl ⟨e.w,rfl,z▸I.get (GV he)⟩)
   ·lk;exact ah ⟨true, .none,some (kP y.t e.k),[Tw.o ⟨y.d,y.d.length-e.p,v'⟩]⟩ (.inr ⟨rfl,b4 fun f hf=>by rw[he]at hf;exact sj hf▸z⟩)
  ·have q:=GN q;lk;exact ah ⟨false, .none,j27,[]⟩ (.inr ⟨rfl,b4 fun f hf=>absurd (List.getElem?_eq_some_iff.mp hf).1 (by exact Nat.not_lt.mpr (cG [] [_,_] ab ae 1 [.i 1 af ak] rfl (Int.not_lt.mp q)))⟩)
 obtain⟨gb,ga,g27,gs⟩:=g;refine eK (ι:=Unit) (fun _=>y.s3 ag xs (.p y.z8) (kP y.t key) s none qs (some (.ref 6)) (some (.p (.int (gW y.rs key)))) (some (.p (.int a0))) (o25 gb) (some (.p ga)) (g27.map .p) (.bx (.lst (kj y.rs (qs.take jk)))::gs)) (fun _=>True) (fun K2 ah=>?_) fun _ _=>?_
 ·rcases hg with zp|zp
  ·refine e1b zp fun w e hd=>?_;have e:ga=.int w:=e;subst e;lk;refine⟨jn _,?_⟩;lk;refine EF (by rw[hd];rfl) ?_
   lk;refine⟨jn _, .int w,hd,?_⟩;lk;refine uB (decide_eq_false fun h=>h rfl) ?_;lk;exact ah () trivial
  ·refine e0b zp fun e hd=>?_;have e:ga=.none:=e;subst e;lk;refine⟨jn _,?_⟩;lk;refine uB (by rw[hd];rfl) ?_
   lk;exact ah () trivial
 have a5:(kj y.rs (qs.take jk)).length<16777216:=by
  unfold kj;rw[GA,GW];exact cG [] [_,_] bc aq 1 [.j 1 ae (.n 5),.j 1 ab ae] rfl hql (Nat.min_le_right _ _)
 have e2:kj y.rs (qs.take (jk+1))=kj y.rs (qs.take jk)++[.int (gW y.rs key)]:=by
  unfold kj;rw[List.take_add_one,hk,Ha];rfl
 have hJ:FvI y qs l ⟨jk+1,kP y.t key,some (.int (gW y.rs key)),some (.int a0),some ga,g27⟩:=⟨df,fun i k hi hl=>by
  rcases G5 i jk with z|z
  ·exact hj.cut i k hi z
  ·have:i=jk:=by have hl:i<jk+1:=hl;exact Nat.le_antisymm (cG [] [_,_] ab ae 1 [.j 1 bc be] rfl (by assumption)) (z)
   subst this;rw[hk]at hi;obtain rfl:=sj hi;exact hc,fun _=>⟨_,_,_,rfl,rfl,rfl⟩⟩
 lk;refine⟨a5,?_⟩;lk;refine(hn _ ⟨jk+1,kP y.t key,some (.int (gW y.rs key)),some (.int a0),some ga,g27⟩ ?_ hJ).1;unfold Fv.st;dsimp only;rw[e2]
 cases gb<;>cases g27<;>rfl
theorem Db{Φ:Addr→Option Ctr}(hA:AT Φ eg j5)(dt:AT Φ dQ l7)(hO:AT Φ d0 fL)(hL:AT Φ dz gO)(dr:AT Φ dR kY){ag xs:List Int}{Q:Fl→St→Prop}(hQ:∀e r,Q (.ret (.p (.bool true))) ⟨e,r⟩)(y:Yw)(I:YwI y)(s:Nat)(hs:y.rs.length<2 ^ s){k0 k1 k2 k3 k4:List Int}{z9:P}
  (hq:∀k∈[k0,k1,k2,k3,k4],y.t=false→k.length=1) :
  wS ⟨Φ,wx,sS⟩ (tlS 23 pX) (Fv.st ⟨0,z9,none,none,none,none⟩ y ag xs s [k0,k1,k2,k3,k4]) Q:=by
 have a3:=I.S.len;have a4:=I.n1;refine eK (ι:=Fv) (fun j=>j.st y ag xs s [k0,k1,k2,k3,k4]) (fun j=>5≤j.k∧FvI y [k0,k1,k2,k3,k4] [] j) (fun K2 ah=>?_) fun j hj=>?_
 ·lk;refine qt (n0:=7) (ι:=Fv) (fun j=>j.st y ag xs s [k0,k1,k2,k3,k4]) (fun l j=>FvI y [k0,k1,k2,k3,k4] l j) (fun x l j K3 hj hn=>⟨rfl,?_⟩) (fun j hj=>⟨rfl,?_⟩) _ ⟨0,z9,none,none,none,none⟩ ⟨rfl,fun i k _ h=>absurd h (Nat.not_lt_zero i),fun h=>absurd h (Nat.not_succ_le_zero 0)⟩
  ·exact wA hA dt hO hL dr y I s hs hq j hj hn
  ·exact ah j ⟨yE hj,hj⟩
 ·refine e0b hj fun hk hj=>?_;refine e3c (hj.some (by exact cG [] [_] ai ab 1 [.j 1 (.n 5) ab] rfl (Gz (by assumption)))) fun ac a5 a0 e1 e2 e3=>?_
  have c0:=hj.cut 0 k0 rfl (by exact cG [] [_] bj ab 1 [.j 1 (.n 5) ab] rfl (Gz (by assumption)))
  have c1:=hj.cut 1 k1 rfl (by exact cG [] [_] (.a ai ai) ab 1 [.j 1 (.n 5) ab] rfl (Gz (by assumption)))
  obtain⟨jk,jz,j23,j24,j26,j27⟩:=j;have e1:j23=some ac:=e1;have e2:j24=some a5:=e2;have e3:j26=some a0:=e3;subst e1 e2 e3;have et:kj y.rs ([k0,k1,k2,k3,k4].take jk)=kj y.rs [k0,k1,k2,k3,k4]:=congrArg _ (List.take_of_length_le hk);unfold Fv.st;dsimp only;rw[et];exact Da dt dr hQ y I s c0 c1 (hq k0 (GS ..)) (hq k1 (GM _ (GS ..))) (GB rfl)
end
section
noncomputable def Yw.s4(y:Yw)(ag xs:List Int)(x:Int)(o19 o21:Option P)(r:List (Option V)):St:=⟨[some (.p (.lst (ag.map .int))),some (.ref 0),some (.ref 1),some (.p (.bool y.t)),some (.ref 2),some (.ref 3),some (.p y.z6),some (.p y.z7),some (.p y.z8),some (.p y.z9),some (.p y.z10),some (.p y.z11),
 some (.p (.lst (ed y.t y.rs))),some (.p y.z13),some (.p y.z14),some (.p y.z15),some (.p (.bytes y.d)),some (.p y.z17),some (.ref 5),o19.map .p,none,o21.map .p,none,none,none,none,none,none]++r,
 [bxO xs x,y.o1, .bx (.dict (fw y.t y.es)),y.o3,y.o4,Tw.o ⟨y.d,y.d.length-y.R,y.v⟩]⟩
theorem DL{ι:Type}{chk:St→Prop}{step:P→St→(List P→St→Prop)→Prop}{Q:List P→St→Prop}(stf:ι→St)(I:List P→List P→ι→Prop)
  (a0:∀x xs acc i (K:List P→St→Prop),I (x::xs) acc i→(∀ys j,I xs (acc++ys) j→K ys (stf j))→chk (stf i)∧step x (stf i) K)
  (b4:∀acc i,I [] acc i→chk (stf i)∧Q acc (stf i)) (xs acc:List P) (i:ι) (h:I xs acc i):uc chk step xs acc (stf i) Q:=
 qL (fun xs acc st=>∃i,st=stf i∧I xs acc i) (fun x xs acc st K zp hn=>e1b zp fun i e1 hI=>by subst e1;exact a0 x xs acc i K hI fun ys j hj=>hn ys (stf j) ⟨j,rfl,hj⟩) (fun acc st zp=>e1b zp fun i e1 hI=>by clear zp;subst e1;exact b4 acc i hI) xs acc (stf i) ⟨i,rfl,h⟩
theorem Bp{l:List P}{z:P}{st:St}{Q:V→St→Prop}(h0:1≤l.length)(h1:l[l.length-1]?=some z)(h2:l.length≤16777216)(h:Q (.p z) st):uA l (-1) st Q:=by
 have e:at_ (-1) l.length=(l.length:Int)-1:=by unfold at_;rw[if_pos (by decide)];lia
 unfold uA;rw[e,show((l.length:Int)-1).toNat=l.length-1 by exact(jl [] [_,_,_] ab ae [.e 1 af (.s av ao),.f (-1) be aj] rfl (Gl (lin [] [_] an bW 1 [.j 1 ai ab] rfl h0)) (Go (h0)))]
 exact⟨⟨by exact(lin [] [_] an bW 1 [.j 1 ai ab] rfl h0),h2⟩,z,h1,h⟩
theorem mM:(mN 0 3 1).length=3:=by rw[kH];rfl
theorem Dc{Φ:Addr→Option Ctr}(e7:AT Φ gk zU)(hA:AT Φ eg j5)(dt:AT Φ dQ l7)(hO:AT Φ d0 fL)(hL:AT Φ dz gO)(dr:AT Φ dR kY){ag xs:List Int}(dh:xs.length≤64){Q:Fl→St→Prop}(hQ:∀e r,Q (.ret (.p (.bool true))) ⟨e,r⟩)(y:Yw)(I:YwI y) :
  wS ⟨Φ,wx,sS⟩ (tlS 19 pX) (y.st ag xs) Q:=by
 have a3:=I.S.len;have a4:=I.n1;have ck:=I.n0;have a5:(ed y.t y.rs).length=y.rs.length:=GA ..;refine eK (ι:=Unit) (fun _=>y.s4 ag xs y.x (some (.int 0)) none []) (fun _=>True) (fun K2 ah=>?_) fun _ _=>?_
 ·exact ah () trivial
 refine eK (ι:=Nat) (fun s=>y.s4 ag xs y.x (some (.int s)) none []) (fun s=>y.rs.length<2 ^ s) (fun K2 ah=>?_) fun s hs=>?_
 ·refine xq (n0:=6) (fun j=>y.s4 ag xs y.x (some (.int j.k)) none []) (fun j=>y.rs.length-j.k) (fun j=>j.k≤y.rs.length) (fun j K3 hj hn _ _=>?_) {k:=0} (G1 _);lk;refine⟨⟨by lia,by exact GK (lin [] [_] an af 1 [] rfl) (lin [] [_,_,_] af (.n 64) 1 [.f 1 ae aj,.j 1 aj aN,.j 1 ab ae] rfl a3 a4 hj)⟩,?_⟩
  lk;refine⟨by rw[a5];exact(cG [] [_,_] ab aq 1 [.f 1 ab ae,.j 1 ae aN] rfl a3 a4),?_⟩
  lk;refine c9 (fun q=>?_) (fun q=>?_)
  ·have q:=GI q;have h2:j.k<2 ^ j.k:=Nat.lt_two_pow_self;have q:(2:Int) ^ j.k≤((ed y.t y.rs).length:Int):=q;rw[a5]at q;have q2:2 ^ j.k≤y.rs.length:=by exact_mod_cast q
   lk;exact(hn _ {k:=j.k+1} rfl (by show y.rs.length-(j.k+1)<y.rs.length-j.k;exact cG [] [_,_,_,_] bc ae 1 [.f 1 (.a ab bf) au,.f (-1) bz au] rfl (Go (Gp h2 q2)) (Go (cG [] [_,_,_] ab ae 1 [.j 1 bc aj,.j 1 aj ae] rfl h2 q2))) (by show j.k+1≤_;exact Gp h2 q2)).1
  ·have q:=GN q;have q:¬(2:Int) ^ j.k≤((ed y.t y.rs).length:Int):=q;rw[a5]at q;have q2:¬2 ^ j.k≤y.rs.length:=fun h=>q (by exact_mod_cast h)
   exact ah j.k (Nat.not_le.mp q2)
 obtain⟨el,hel⟩:∃e,y.rs[y.rs.length-1]?=some e:=⟨y.rs[y.rs.length-1]'(by exact(GF (Go (cG [] [_,_] ai ab 1 [.f (-1) ab ae,.j 1 ai ae] rfl a3 ck)))),GD (by exact(GF (Go (cG [] [_,_] ai ab 1 [.f (-1) ab ae,.j 1 ai ae] rfl a3 ck))))⟩
 obtain⟨em,hem⟩:∃e,y.rs[y.rs.length / 2]?=some e:=⟨y.rs[y.rs.length / 2]'(by lia),GD (by lia)⟩
 refine eK (ι:=Int×List (List Int)) (fun j=>y.s4 ag xs j.1 (some (.int s)) (some (.lst ((j.2++[el.k,em.k]).map (kP y.t)))) []) (fun j=>0≤j.1∧j.2.length=3∧∀k∈j.2,y.t=false→k.length=1) (fun K2 ah=>?_) fun j hj=>?_
 ·lk;refine⟨⟨by decide,by decide,by decide,by decide, .inl rfl⟩,?_⟩
  lk;refine⟨⟨rfl,by rw[mM];decide⟩,?_⟩
  lk;refine DL (ι:=Int×List (List Int)) (fun j=>y.s4 ag xs j.1 (some (.int s)) none [none]) (fun l acc j=>acc=j.2.map (kP y.t)∧j.2.length+l.length=3∧(∀k∈j.2,y.t=false→k.length=1)∧0≤j.1)
   (fun x l acc j K3 hj hn=>⟨trivial,?_⟩) (fun acc j hj=>⟨trivial,?_⟩) _ _ (y.x,[]) ⟨rfl,by rw[mM];rfl,(fun v hv=>nomatch hv),I.x⟩
  ·refine e0d hj fun ha hl hk hx=>?_;subst ha;lk;refine dG e7 rfl rfl (wf hx dh fun told k i1 e0 b7=>?_);lk;refine gB 1 rfl rfl ?_;lk;refine hn _ (i1,j.2++[k]) ⟨(Ha (f:=kP y.t) (l₁:=j.2) (l₂:=[k])).symm,?_,fun v hv=>?_,b7⟩
   ·show(j.2++[k]).length+l.length=3
    rw[Gr];rw[GR]at hl;show j.2.length+1+l.length=3;lia
   ·rcases List.mem_append.mp hv with q|q
    ·exact hk v q
    ·rw[List.mem_singleton.mp q];exact e0.len
  ·refine e0d hj fun ha hl hk hx=>?_;subst ha;lk;refine Bp (by lia) (z:=kP y.t el.k) (by rw[a5];unfold ed;rw[GZ,hel];rfl) (by exact cG [] [_,_,_] ab aq 1 [.f 1 ae aj,.j 1 aj aN,.f 1 ab ae] rfl a3 a4 a5) ?_
   lk;refine⟨by exact(cG [] [_,_,_] ab aq 1 [.f 1 ae aj,.j 1 aj aN,.f 1 ab ae] rfl a3 a4 a5),?_⟩
   lk;refine jZ (by lia) (z:=kP y.t em.k) (by rw[a5];unfold ed;rw[GZ,show((y.rs.length:Int) / 2).toNat=y.rs.length / 2 by lia,hem];rfl) (by exact cG [] [_,_,_] ab aq 1 [.f 1 ae aj,.j 1 aj aN,.f 1 ab ae] rfl a3 a4 a5) ?_
   lk;refine⟨GB rfl,?_⟩;lk;refine⟨by rw[GA];show j.2.length+2≤_;lia,?_⟩
   lk;have:=ah j ⟨hx,hl,hk⟩;rw[Ha]at this;exact this
 refine e0c hj fun hx hl hk=>?_;obtain⟨x,qs⟩:=j;obtain⟨k0,k1,k2,rfl⟩:∃k0 k1 k2,qs=[k0,k1,k2]:=by
  match qs,hl with
  |[a,b,c],_=>exact⟨a,b,c,rfl⟩
 have hx:0≤x:=hx;have hk:∀k∈[k0,k1,k2],y.t=false→k.length=1:=hk;have I2:YwI {y with x:=x}:=⟨hx,I.rd,I.S,I.kb,I.n0,I.n1⟩;refine eK (ι:=Unit) (fun _=>Fv.st ⟨0,y.z9,none,none,none,none⟩ {y with x:=x} ag xs s [k0,k1,k2,el.k,em.k]) (fun _=>True) (fun K2 ah=>?_) fun _ _=>?_
 ·lk;refine⟨G1 _,?_⟩;lk;exact ah () trivial
 exact Db hA dt hO hL dr hQ {y with x:=x} I2 s hs fun k hm=>by
  have hm:k∈[k0,k1,k2]++[el.k,em.k]:=hm;rcases List.mem_append.mp hm with q|q
  ·exact hk k q
  ·rcases List.mem_cons.mp q with q|q
   ·rw[q];exact I.kl el (GV hel)
   ·rw[List.mem_singleton.mp q];exact I.kl em (GV hem)
end
section
theorem FK{Φ:Addr→Option Ctr}(hT:AT Φ eN nQ)(hC:AT Φ cz (fu kZ cz 11))(e7:AT Φ gk zU)(hCS:AT Φ eD sr)
  (em:AT Φ d7 nj) (eh:AT Φ cM qT) (h16:AT Φ dy (lQ .h)) (h32:AT Φ dw (lQ .i)) (eo:AT Φ eQ wU)
  (et:AT Φ d6 ni) (ey:AT Φ cK sk) (f5:AT Φ ew ui) (hF:AT Φ gn DP) (f3:AT Φ c7 wR) (e5:AT Φ gm iD) (hG:AT Φ mY y3) (e3:AT Φ ej (fu jy ej 2))
  (hA:AT Φ eg j5) (dt:AT Φ dQ l7) (hO:AT Φ d0 fL) (hL:AT Φ dz gO) (dr:AT Φ dR kY) :
  BD Φ BO (cQ 1) 27 pX:=fun args kws objs Q hh=>by
 unfold BO at hh;refine e1e hh fun ag a3 b6 ck e8 hq=>?_;clear hh;subst a3 b6 ck;refine qW (env:=[.p (.lst (ag.map .int))]) rfl fun K hK=>?_;have b4:=fun e r=>hK (.ret (.p (.bool true))) e [] r rfl rfl hq;clear hK hq;refine eK (ι:=Lv) (fun j=>⟨some (.p (.lst (ag.map .int)))::some (.ref 0)::List.replicate 26 none,[bxO j.l 0]⟩) (fun j=>j.l.length≤64) (fun K2 ah=>?_) fun j dh=>?_
 ·lk;refine iC rfl pA rfl (by rw[GA];exact Gp e8 (by decide)) ?_
  lk;refine⟨GB rfl,?_⟩;lk
  conv=>whnf
  generalize (max 0 (min (at_ 40 (ag.map P.int).length) ((ag.map P.int).length:Int))).toNat=k;rw[show cut (ag.map P.int) 0 k=(ag.take k).map P.int by rw[List.map_take];rfl]
  exact ah {l:=ag.take k} (Gp (List.length_take_le' ..) e8)
 generalize j.l=xs at dh;have e6:∀{i many:Int},0≤i→0<many→q8 xs i many:=fun h1 h2=>⟨h1,h2,dh⟩;refine eK (ι:=Lv) (fun j=>⟨some (.p (.lst (ag.map .int)))::some (.ref 0)::some (.ref 1)::List.replicate 25 none,[bxO xs j.x,bo cz ab0 j.b j.h j.v]⟩) (fun j=>0≤j.x∧Rb [] 0 j.b j.h) (fun K2 ah=>?_) fun j hj=>?_
 ·lk;refine⟨GB rfl,?_⟩;lk;refine dG hT rfl rfl (gH (e6 (GP 0) (by decide)) fun v i1 d4 cc b7=>?_)
  lk;obtain⟨n,hn,ee⟩:∃n:Int,[P.int 0,P.int 1,P.int 100][v.toNat]?=some (.int n)∧(0≤n∧n≤65536):=by
   have hv:v.toNat<3:=by exact cG [_] [_] bc a6 1 [.i 1 bi (.n 3),.e 1 af aa] rfl cc (Gl (d4))
   generalize v.toNat=w at hv
   match w,hv with
   |0,_=>exact⟨0,rfl,by decide⟩
   |1,_=>exact⟨1,rfl,by decide⟩
   |2,_=>exact⟨100,rfl,by decide⟩
  refine jZ d4 hn (GB rfl) ?_;lk;refine DO hC ee fun bytes a5 e9=>?_;lk;exact ah {x:=i1,b:=bytes,h:=n,v:=a5} ⟨b7,e9⟩
 refine e0b hj fun hi dv=>?_;generalize j.x=i at hi;generalize j.b=bytes at dv;generalize j.h=head at dv;generalize j.v=ver;refine eK (ι:=Lv) (fun j=>⟨some (.p (.lst (ag.map .int)))::some (.ref 0)::some (.ref 1)::some (.p (.bool j.t))::List.replicate 24 none,[bxO xs j.x,bo cz ab0 bytes head ver]⟩) (fun j=>0≤j.x) (fun K2 ah=>?_) fun j hj=>?_
 ·lk;refine dG hT rfl rfl (gH (e6 hi (by decide)) fun v i1 d4 cc b7=>?_)
  lk;exact ah {t:=decide (v=1),x:=i1} b7
 generalize j.x=i1 at hj;generalize j.t=t;clear hi i e8;refine eK (ι:=Unit) (fun _=>⟨some (.p (.lst (ag.map .int)))::some (.ref 0)::some (.ref 1)::some (.p (.bool t))::some (.ref 2)::List.replicate 23 none,[bxO xs i1,bo cz ab0 bytes head ver, .bx (.dict [])]⟩) (fun _=>True) (fun K2 ah=>?_) fun _ _=>?_
 ·exact ah () trivial
 refine eK (ι:=Unit) (fun _=>⟨some (.p (.lst (ag.map .int)))::some (.ref 0)::some (.ref 1)::some (.p (.bool t))::some (.ref 2)::some (.ref 3)::List.replicate 22 none,[bxO xs i1,bo cz ab0 bytes head ver, .bx (.dict []), .bx (.dict [])]⟩) (fun _=>True) (fun K2 ah=>?_) fun _ _=>?_
 ·exact ah () trivial
 refine eK (ι:=Lv) (fun j=>Lz.st ⟨ab0,bytes,head,ver,j.x,0,t,j.y,[],none,none,none,none,none⟩ ag xs) (fun j=>0≤j.x∧1≤j.y∧j.y≤7) (fun K2 ah=>?_) fun j hj=>?_
 ·lk;refine dG hT rfl rfl (gH (e6 hj (by decide)) fun v i1 d4 cc b7=>?_)
  lk;exact ah {x:=i1,y:=1+v} ⟨b7,by exact(lin [_] [] ao (.a ao aa) 1 [.i 1 an aa] rfl d4),by exact lin [_] [] (.a ao aa) (.n 7) 1 [.i 1 bi (.n 7)] rfl cc⟩
 refine e0c hj fun hi e4 dx=>?_;generalize j.x=i at hi;generalize j.y=m at e4 dx;refine eK (ι:=Lz) (fun j=>j.st ag xs) (fun j=>LzI j∧(1≤j.es.length∧j.es.length≤7)∧∃z7 z8 z9 z10 z11,j.p7=some z7∧j.p8=some z8∧j.p9=some z9∧j.p10=some z10∧j.p11=some z11) (fun K2 ah=>?_) fun j hj=>?_
 ·lk;refine⟨⟨by decide,by decide,by exact(lin [_] [] ay aa 1 [.i 1 ao aa] rfl e4),by exact(lin [_] [] aa aG 1 [.i 1 aa (.n 7)] rfl dx), .inl rfl⟩,?_⟩
  rw[kH];refine qt (n0:=4) (ι:=Lz) (fun j=>j.st ag xs) (fun l j=>LzI j∧(∃a k,l=rz a k∧(k:Int)+j.k=m)∧(1≤j.k→∃z7 z8 z9 z10,j.p7=some z7∧j.p8=some z8∧j.p9=some z9∧j.p10=some z10))
   (fun x l j K3 hj hn=>⟨trivial,?_⟩) (fun j hj=>⟨trivial,?_⟩) _ ⟨ab0,bytes,head,ver,i,0,t,m,[],none,none,none,none,none⟩ ⟨⟨Fn t,dv,hi,Gw 0,fun h=>h,fun h=>absurd (show 1≤0 from h) (by decide)⟩,⟨0,_,rfl,by show(((m-0).toNat:Nat):Int)+0=m;exact gL [_] [_] (.a af an) aa [.e 1 af (.s aa an)] rfl (Gl (lin [_] [] an (.s aa an) 1 [.i 1 ao aa] rfl e4))⟩,fun h=>absurd (show 1≤0 from h) (by decide)⟩
  ·refine e0c hj fun J hr ho=>?_;refine e2b hr fun a k hl hk=>?_;refine e1c (ry hl) fun k' ek ex df=>?_;subst ek ex df;clear hC dv hi hl hr;obtain⟨ja,jb,jh,jv,jx,jk,jt,jm,jes,j7,j8,j9,j10,j11⟩:=j;have JL:z0 jt ja jes:=J.L;have Jr:Rb ja.T ja.room jb jh:=J.r;have Jn:jes.length≤jk:=J.n;have hk:((k'+1:Nat):Int)+jk=m:=hk;have bh:jes.length≤7:=by exact cG [_] [_,_,_] ab aN 1 [.i 1 aa (.n 7),.e 1 (.a cv av) aa,.j 1 ab aj] rfl dx (by assumption) Jn
   lk;refine dG e7 rfl rfl (wf J.x dh fun told k i1 e0 b7=>?_);lk;refine dG hT rfl rfl (gH (e6 b7 (by decide)) fun v i2 d4 cc eb=>?_)
   lk;refine⟨by decide,?_⟩
   lk;refine⟨jn _,?_⟩;lk;refine c9 (fun q=>?_) (fun q=>?_)
   ·have ep:k∉jes.map (·.k):=kQ.mp (by
     have e:=lx (fun e=>P.int e.w) e0.len JL.kb
     cases z:jes.find? (fun e=>decide (e.k=k))with
     |none=>rfl
     |some e2=>rw[z]at e;rw[show iM (fw jt jes) (kP jt k)=_ from e]at q;exact ft q)
    lk;refine⟨⟨jn _,show(fw jt jes).length≤16777216 by unfold fw;rw[GA];exact cG [] [_] ab aq 1 [.j 1 ab aN] rfl bh⟩,?_⟩
    have hw : -1000000≤v*40000-120000∧v*40000-120000≤1000000:=⟨by exact(lin [_] [] (.n (-1000000)) (.s (.r aa 40000) (.n 120000)) 1 [.i 40000 an aa] rfl d4),by exact lin [_] [] (.s (.r aa 40000) (.n 120000)) (.n 1000000) 1 [.i 40000 bi (.n 7)] rfl cc⟩
    generalize v*40000-120000=w at hw;have hT:=JL.g.len;refine eK (ι:=Lv) (fun n=>⟨[some (.p (.lst (ag.map .int))),some (.ref 0),some (.ref 1),some (.p (.bool jt)),some (.ref 2),some (.ref 3),some (.p (.int jm)),some (.p (.int a)),some (.p told),some (.p (kP jt k)),some (.p (.int w)),some (.p (.int n.x)),
     none,none,none,none,none,none,none,none,none,none,none,none,none,none,none,none],[bxO xs i2,bo cz n.a n.b n.h n.v, .bx (.dict (pH (fw jt jes) (kP jt k) (.int w))), .bx (.dict (dP jt jes))]⟩) (fun n=>Rb n.a.T n.a.room n.b n.h∧NmE jt k told ja n.a n.x) (fun K4 fh=>?_) fun n hn4=>?_
    ·cases jt with
     |true=>
      obtain⟨x,d,rfl,rfl,htx⟩:=e0;have he:=htx.enc;subst he;have hl:=htx.len;have so:=At (a:=ja) (d:=iA x) JL.g.nested (by exact cG [] [_] ab (.n 65536) 1 [.j 1 ab (.m 4 a6)] rfl hl)
      lk;refine dG hCS rfl rfl (yT Jr ⟨JL.g.nested,htx.sur,by exact(cG [] [_] ab (.n 65536) 1 [.j 1 ab (.m 4 a6)] rfl hl),by lia⟩ fun a4 ac ar aw=>?_)
      lk;exact fh {a:=nI ja (iA x),b:=a4,h:=ac,v:=ar,x:=(nI ja (iA x)).T.length} ⟨aw,so.1,by show(nI ja (iA x)).T.length≤_;exact(cG [] [_,_,_] ab b9 1 [.j 1 aj (.m 4 a6),.j 1 ab (.a bz (.n 8))] rfl hl (Gu (Gu so))),fun _=>⟨x,iA x,rfl,rfl,so.2.1,by have:=so.2.1.n.lo;show(0:Int)<(nI ja (iA x)).T.length;have h4:((4:Nat):Int)≤_:=this;exact(lin [] [_] bt af 1 [.i 1 (.c aC) af] rfl h4),GP _⟩⟩
     |false=>
      lk;exact fh {a:=ja,b:=jb,h:=jh,v:=jv,x:=0} ⟨Jr, .refl _,Nat.le_add_right _ _,fun h=>ft h⟩
    refine e0b hn4 fun dv N=>?_;generalize n.a=a0 at dv N;generalize n.b=b0 at dv;generalize n.h=h0 at dv;generalize n.v=v0;generalize n.x=nm at N;have e1:=N.l;lk;refine cX em 1 {x:=2} rfl dv ⟨N.S.nested.trans JL.g.nested,by decide,by decide⟩ fun b3 b5 cf c1=>?_
    refine eK (ι:=Lv) (fun n=>⟨[some (.p (.lst (ag.map .int))),some (.ref 0),some (.ref 1),some (.p (.bool jt)),some (.ref 2),some (.ref 3),some (.p (.int jm)),some (.p (.int a)),some (.p told),some (.p (kP jt k)),some (.p (.int w)),some (.p (.int nm)),
     none,none,none,none,none,none,none,none,none,none,none,none,none,none,none,none],[bxO xs i2,bo cz n.a n.b n.h n.v, .bx (.dict (pH (fw jt jes) (kP jt k) (.int w))), .bx (.dict (dP jt jes))]⟩)
     (fun n=>Rb n.a.T n.a.room n.b n.h∧∃q0,oI a0 n.a [q0,0]∧n.a.T.length≤a0.T.length+20∧∀T' p,(∃X,T'=X++n.a.T)→(n.a.T.length:Int)<p→z4 T' jt p q0 k) (fun K5 fb=>?_) fun n hn5=>?_
    ·cases jt with
     |true=>
      refine e2e (N.tx rfl) fun x d g0 g1 g2 g3 g4=>?_;subst g0 g1;refine e0b (yH (N.S.mal JL.g.mal) g3 g4 (by lia) g2) fun u z=>e1c z fun q0 z1 z2 z3=>?_
      lk;refine cX eh 1 {x:=0,y:=nm,z:=0} rfl c1 ⟨_,u⟩ fun c0 c4 d3 ce=>?_;lk;exact fb {a:=dA (cR a0 2) 0 nm 0,b:=c0,h:=c4,v:=d3} ⟨ce,q0,z1,z2,z3⟩
     |false=>
      refine e1d e0 fun n g0 g1 g2 g3=>?_;subst g0 g1;refine e0b (BA (N.S.mal JL.g.mal) (N.S.force.trans JL.g.force) (G9 (by decide) g2) (G9 g3 (by decide)) (by lia)) fun u z=>e1c z fun q0 z1 z2 z3=>?_
      lk;refine cX h16 1 {x:=0,y:=n,z:=0} rfl c1 ⟨_,u⟩ fun c0 c4 d3 ce=>?_;lk;exact fb {a:=eA (cR a0 2) .h 0 n 0,b:=c0,h:=c4,v:=d3} ⟨ce,q0,z1,z2,z3⟩
    refine e0b hn5 fun ce z=>e1c z fun q0 O2 l2 kk=>?_;generalize n.a=a2 at ce O2 l2 kk;generalize n.b=b2 at ce;generalize n.h=h2 at ce;generalize n.v=v2;refine e0b (Dy JL (by exact cG [] [_] bc (.n 15) 1 [.j 1 ab aN] rfl bh) N.S e1 O2 l2 kk e0.kb hw ep) fun g1 z=>e1b z fun q1 g2 g3=>?_
    lk;refine cX h32 1 {x:=1,y:=w,z:=0} rfl ce ⟨_,g1⟩ fun c3 ct dd d2=>?_;lk;refine ju (b:=wvA {eA a2 .i 1 w 0 with nested:=false} [q0,q1] a0.T.length) (z:=.int (fX (eA a2 .i 1 w 0))) eo 1 {x:=a0.T.length} rfl rfl d2 ⟨_,g2⟩ (by show wvA _ ((eA a2 .i 1 w 0).vt.getD []) _=_;rw[g2.wv.vt];rfl) rfl fun bb c2 d1 d5=>?_
    lk;refine⟨⟨jn _,show(dP jt jes).length≤16777216 by unfold dP;rw[GA];exact cG [] [_] ab aq 1 [.j 1 ab aN] rfl bh⟩,?_⟩
    refine(hn _ ⟨_,bb,c2,d1,i2,jk+1,jt,jm,jes++[⟨k,w,fX (eA a2 .i 1 w 0)⟩],some (.int a),some told,some (kP jt k),some (.int w),some (.int nm)⟩ ?_
     ⟨⟨g3,d5,eb,by show(jes++[_]).length≤jk+1;rw[Gr];exact Nat.succ_le_succ Jn,fun _=>by show 1≤(jes++[_]).length;rw[Gr];exact Nat.le_add_left 1 _,fun _=>⟨_,rfl⟩⟩,⟨a+1,k',rfl,by show(k':Int)+((jk+1:Nat):Int)=m;exact gL [_] [_,_] (.a af cv) aa [.e 1 (.a (.c bc) ak) aa] rfl (by assumption)⟩,fun _=>⟨_,_,_,_,rfl,rfl,rfl,rfl⟩⟩).1
    refine ER ⟨_,bb,c2,d1,i2,jk+1,jt,jm,jes++[⟨k,w,fX (eA a2 .i 1 w 0)⟩],some (.int a),some told,some (kP jt k),some (.int w),some (.int nm)⟩ ?_ ?_ rfl
    ·exact(wE (fun e=>.int e.w) (.int w) e0.len JL.kb ep).trans (wo jt jes ⟨k,w,_⟩).symm
    ·exact(wE (fun e=>.int e.p) _ e0.len JL.kb ep).trans (rG jt jes ⟨k,w,_⟩).symm
   ·have hex:1≤jes.length:=by
     have e:=lx (fun e=>P.int e.w) e0.len JL.kb
     cases jes with
     |nil=>exact tf q
     |cons e2 es=>exact Nat.le_add_left 1 _
    refine e1a (J.o hex) fun z11 g5=>?_;have g5:j11=some z11:=g5;subst g5;lk;exact(hn _ ⟨ja,jb,jh,jv,i2,jk+1,jt,jm,jes,some (.int a),some told,some (kP jt k),some (.int (v*40000-120000)),some z11⟩ rfl
     ⟨⟨JL,Jr,eb,Nat.le_succ_of_le Jn,fun _=>hex,fun _=>⟨z11,rfl⟩⟩,⟨a+1,k',rfl,by show(k':Int)+((jk+1:Nat):Int)=m;lia⟩,fun _=>⟨_,_,_,_,rfl,rfl,rfl,rfl⟩⟩).1
  ·refine e0c hj fun J hr ho=>?_;refine e2b hr fun a k hl hk=>?_;have ea:=zw hl;have h1:1≤j.k:=by exact cG [_] [_,_] ai ab 1 [.i 1 ao aa,.e (-1) (.a ak af) aa,.f 1 ae ax] rfl e4 hk ea
   have h2:=J.n1 h1;refine e4d (ho h1) fun z7 z8 z9 z10 g1 g2 g3 g4=>?_;refine e1a (J.o h2) fun z11 g5=>?_;exact ah j ⟨J,⟨h2,by have:=J.n;exact cG [_] [_,_,_] ab aN 1 [.i 1 aa (.n 7),.e 1 (.a ak av) aa,.f (-1) ae ax,.j 1 ab aj] rfl dx hk ea this⟩,z7,z8,z9,z10,z11,g1,g2,g3,g4,g5⟩
 refine e0c hj fun J hl zp=>?_;refine e5e zp fun z7 z8 z9 z10 z11 g7 g8 g9 g10 g11=>?_;exact Fq hT et ey f5 em eh eo hF f3 e5 hG e3 dh j J hl.1 hl.2 g7 g8 g9 g10 g11 fun y I=>Dc e7 hA dt hO hL dr dh b4 y I
end
section
noncomputable abbrev pkL(L:List (Addr×Ctr)):Pg:=⟨fun a=>L.lookup a,wx,sS⟩
section
variable {K:Frag}{H0:Heap}{prog:Program}{wd:World}
def iO(H0:Heap)(prog:Program)(wd:World)(n:Nat)(L:List (Addr×Ctr)):Prop:=∀fa c,L.lookup fa=some c→oK H0 prog wd n fa c
theorem ii{n:Nat}:iO H0 prog wd n []:=fun fa c h=>nomatch h
theorem cL{n:Nat}{L:List (Addr×Ctr)}{fa:Addr}{c:Ctr}(h:oK H0 prog wd n fa c)(A:iO H0 prog wd n L):iO H0 prog wd n ((fa,c)::L):=fun fb d q=>by
 rw[List.lookup_cons]at q
 cases e:fb==fa with
 |true=>rw[e]at q;cases q;rw[eq_of_beq e];exact h
 |false=>rw[e]at q;exact A fb d q
theorem tN{n m:Nat}{L:List (Addr×Ctr)}(h:n≤m)(A:iO H0 prog wd n L):iO H0 prog wd m L:=fun fa c q=>(A fa c q).weaken h fun _ _ _ _ z=>z
theorem fo(g:Gd j6 K H0 prog wd){n:Nat}{L:List (Addr×Ctr)}(A:iO H0 prog wd n L){ctr:Ctr}(i:Nat){e:Fe}(q:j6.fe[i]?=some e)(hb:e.bk.fit e.pn.length=true)
  (hw:∀args kws objs Q,ctr args kws objs Q→ez e.bk.fn e.ln.length e.s (pkL L) args kws objs Q):oK H0 prog wd (n+1) e.fa ctr:=
 fn_of g.lim g.sm g.X g.T g.see A i q hb hw
theorem co(g:Gd j6 K H0 prog wd){n:Nat}{c fi:Addr}{ctr:Ctr}{k:Nat}(e:j6.cl.lookup c=some fi)(h:oK H0 prog wd n fi ctr):oK H0 prog wd (n+1) c (fu ctr c k):=
 oK.make g.X h (BM g.see e).1 (BM g.see e).2.1 (BM g.see e).2.2
noncomputable def lv0:List (Addr×Ctr):=(cJ,sq)::(mY,y3)::(jq,jw)::(dq,uh)::(c8,jQ)::(ec,gX)::(kW,y1)::(dN,y2)::(mZ,EE)::(gm,iD)::(kU,kZ)::(eN,nQ)::[]
theorem okl0(g:Gd j6 K H0 prog wd):iO H0 prog wd 1 lv0:=cL (fa:=cJ) (c:=sq) (fo g ii 0 rfl rfl (w1)) (cL (fa:=mY) (c:=y3) (fo g ii 1 rfl rfl (FN)) (cL (fa:=jq) (c:=jw) (fo g ii 2 rfl rfl (BV)) (cL (fa:=dq) (c:=uh) (fo g ii 3 rfl rfl (D9)) (cL (fa:=c8) (c:=jQ) (fo g ii 4 rfl rfl (w6)) (cL (fa:=ec) (c:=gX) (fo g ii 5 rfl rfl (ze)) (cL (fa:=kW) (c:=y1) (fo g ii 6 rfl rfl (Ea)) (cL (fa:=dN) (c:=y2) (fo g ii 7 rfl rfl (Eb)) (cL (fa:=mZ) (c:=EE) (fo g ii 8 rfl rfl (FM)) (cL (fa:=gm) (c:=iD) (fo g ii 26 rfl rfl (zd)) (cL (fa:=kU) (c:=kZ) (fo g ii 29 rfl rfl (B1)) (cL (fa:=eN) (c:=nQ) (fo g ii 42 rfl rfl (DW)) (tN (Nat.le_succ 0) ii))))))))))))
noncomputable def lv1:List (Addr×Ctr):=(fK,pB)::(gD,oA)::(d9,pC)::(dB,nk)::(jO,wQ)::(d7,nj)::(kS,jy)::(kq,ug)::(fT,yZ)::(dz,gO)::(ip,yY)::(gC,si)::(cz,fu kZ cz 11)::lv0
theorem okl1(g:Gd j6 K H0 prog wd)(A:iO H0 prog wd 1 lv0):iO H0 prog wd 2 lv1:=cL (fa:=fK) (c:=pB) (fo g A 9 rfl rfl (D7 rfl rfl)) (cL (fa:=gD) (c:=oA) (fo g A 10 rfl rfl (BZ rfl rfl)) (cL (fa:=d9) (c:=pC) (fo g A 11 rfl rfl (zc rfl rfl)) (cL (fa:=dB) (c:=nk) (fo g A 12 rfl rfl (zb rfl rfl)) (cL (fa:=jO) (c:=wQ) (fo g A 18 rfl rfl (D4 rfl rfl)) (cL (fa:=d7) (c:=nj) (fo g A 19 rfl rfl (za rfl rfl)) (cL (fa:=kS) (c:=jy) (fo g A 30 rfl rfl (BY rfl)) (cL (fa:=kq) (c:=ug) (fo g A 31 rfl rfl (D3 rfl rfl)) (cL (fa:=fT) (c:=yZ) (fo g A 33 rfl rfl (D0 rfl rfl)) (cL (fa:=dz) (c:=gO) (fo g A 34 rfl rfl (w3 rfl rfl)) (cL (fa:=ip) (c:=yY) (fo g A 41 rfl rfl (DZ rfl rfl)) (cL (fa:=gC) (c:=si) (fo g A 43 rfl rfl (DV rfl)) (cL (fa:=cz) (c:=fu kZ cz 11) (co g rfl (A kU _ rfl)) (tN (Nat.le_succ 1) A)))))))))))))
noncomputable def lv2:List (Addr×Ctr):=(eY,jP)::(cS,y0)::(cK,sk)::(d6,ni)::(ew,ui)::(d0,fL)::(io,yX)::(gk,zU)::(ej,fu jy ej 2)::lv1
theorem okl2(g:Gd j6 K H0 prog wd)(A:iO H0 prog wd 2 lv1):iO H0 prog wd 3 lv2:=cL (fa:=eY) (c:=jP) (fo g A 13 rfl rfl (w5 rfl rfl)) (cL (fa:=cS) (c:=y0) (fo g A 14 rfl rfl (D6 rfl rfl rfl)) (cL (fa:=cK) (c:=sk) (fo g A 15 rfl rfl (D5 rfl rfl rfl)) (cL (fa:=d6) (c:=ni) (fo g A 16 rfl rfl (y9 rfl rfl rfl)) (cL (fa:=ew) (c:=ui) (fo g A 17 rfl rfl (Ee rfl rfl rfl)) (cL (fa:=d0) (c:=fL) (fo g A 32 rfl rfl (w4 rfl)) (cL (fa:=io) (c:=yX) (fo g A 35 rfl rfl (DY rfl rfl)) (cL (fa:=gk) (c:=zU) (fo g A 44 rfl rfl (FL rfl rfl)) (cL (fa:=ej) (c:=fu jy ej 2) (co g rfl (A kS _ rfl)) (tN (Nat.le_succ 2) A)))))))))
noncomputable def lv3:List (Addr×Ctr):=(d8,qU)::(cM,qT)::(eC,lP .i)::(dF,lP .v)::(dR,kY)::(eD,sr)::lv2
theorem okl3(g:Gd j6 K H0 prog wd)(A:iO H0 prog wd 3 lv2):iO H0 prog wd 4 lv3:=cL (fa:=d8) (c:=qU) (fo g A 20 rfl rfl (B0 rfl rfl rfl)) (cL (fa:=cM) (c:=qT) (fo g A 23 rfl rfl (BW rfl rfl)) (cL (fa:=eC) (c:=lP .i) (fo g A 24 rfl rfl (D8 rfl)) (cL (fa:=dF) (c:=lP .v) (fo g A 25 rfl rfl (b_PV rfl)) (cL (fa:=dR) (c:=kY) (fo g A 36 rfl rfl (BX rfl rfl rfl)) (cL (fa:=eD) (c:=sr) (fo g A 37 rfl rfl (Eg rfl rfl rfl rfl)) (tN (Nat.le_succ 3) A))))))
noncomputable def lv4:List (Addr×Ctr):=(dy,lQ .h)::(dw,lQ .i)::(eO,cWV)::(fH,wT)::(dQ,l7)::lv3
theorem okl4(g:Gd j6 K H0 prog wd)(A:iO H0 prog wd 4 lv3):iO H0 prog wd 5 lv4:=cL (fa:=dy) (c:=lQ .h) (fo g A 21 rfl rfl (w8 rfl)) (cL (fa:=dw) (c:=lQ .i) (fo g A 22 rfl rfl (w7 rfl)) (cL (fa:=eO) (c:=cWV) (fo g A 27 rfl rfl (b_WV rfl rfl rfl rfl rfl)) (cL (fa:=fH) (c:=wT) (fo g A 38 rfl rfl (Ed rfl rfl rfl rfl rfl)) (cL (fa:=dQ) (c:=l7) (fo g A 45 rfl rfl (DX rfl rfl rfl rfl rfl rfl)) (tN (Nat.le_succ 4) A)))))
noncomputable def lv5:List (Addr×Ctr):=(eQ,wU)::(gn,DP)::(c7,wR)::(eg,j5)::lv4
theorem okl5(g:Gd j6 K H0 prog wd)(A:iO H0 prog wd 5 lv4):iO H0 prog wd 6 lv5:=cL (fa:=eQ) (c:=wU) (fo g A 28 rfl rfl (Ef rfl rfl)) (cL (fa:=gn) (c:=DP) (fo g A 39 rfl rfl (FO rfl)) (cL (fa:=c7) (c:=wR) (fo g A 40 rfl rfl (Ec rfl)) (cL (fa:=eg) (c:=j5) (fo g A 46 rfl rfl (BU rfl rfl rfl)) (tN (Nat.le_succ 5) A))))
theorem C3(g:Gd j6 K H0 prog wd):iO H0 prog wd 6 lv5:=okl5 g (okl4 g (okl3 g (okl2 g (okl1 g (okl0 g)))))
theorem C9(g:Gd j6 K H0 prog wd):oK H0 prog wd 40 yF BO:=
 (fo g (C3 g) 47 rfl rfl (FK rfl rfl rfl rfl rfl rfl rfl rfl rfl rfl rfl rfl rfl rfl rfl rfl rfl rfl rfl rfl rfl rfl)).weaken (m:=40) (by decide) fun _ _ _ _ z=>z
end
end
section
end
end Fb
theorem PySem.Challenge.cw_ar0012_01_holds : PySem.Challenge.rw_ar0012_01.Holds :=
  Fb.v9 Fb.as0 Fb.j6 20000 Fb.yF Fb.Fk (by kernel_rfl) rfl rfl rfl rfl (by kernel_rfl) ⟨rfl, rfl, rfl, rfl, rfl, by decide +kernel⟩ (by w_witness) rfl rfl fun g => Fb.C9 g
