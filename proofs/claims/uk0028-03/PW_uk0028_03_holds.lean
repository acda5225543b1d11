import PyProof.Rows.All
import Wide.All
import OpenK.AllK
import Wide.FinOn
import Open.Boot
import PyProof.FactsInt
import PyProof.ListMulAny
import PyProof.LetGo
import PyProof.Rows.SeqCalls
import PyProof.Rows.SumAny
import PyProof.Rows.SeqGen
import PyProof.Rows.FactsT3
import PyProof.Rows.FactsT2
import PyProof.Rows.FactsT1
import PyProof.Rows.EnumRows
import PyProof.Rows.SeqRange
import PyProof.Rows.StrOrd
import PyProof.Rows.Tup
import PyProof.TupleOfSeq
import PyProof.Rules2
import PyProof.RulesDelMore
import PyProof.CallType
import PyProof.StrCalls
import PyProof.StrCalls2
import PyProof.Rows.StrNews2
import PyProof.Rows.StrJoin2
import PyProof.StrCaseBound
import PyProof.ListRange
import PyProof.Rows.Range3
import PyProof.RangeFor
import PyProof.WalksPairs
import PyProof.WalksMore
import PyProof.WalksEnum
import PyProof.EnumMake
import PyProof.Draws
import PyProof.ZipIter
import PyProof.StrWalks
import PyProof.CompFree
import PyProof.Rows.ListAppend
import PyProof.Rows.SortShell
import PyProof.ForAppend
import PyProof.RulesAssignMore
import PyProof.Rows.TupAssign
import PyProof.Dict
import PyProof.Raises
import PyProof.ForAny
import PyProof.Cells
import OpenK.KCls
import PyProof.ObjNew
import PyProof.InstLoad
import PyProof.Rows.PlainObj
import PyProof.AssignAttr
import PyProof.SetRoads
import PyProof.DictCalls
import PyProof.DictStraight
import PyProof.StrLawsTight
import Lean
import PySem.Challenge.RW_uk0028_03
set_option Elab.async false
set_option compiler.extract_closed false
set_option maxRecDepth 100000
set_option linter.unusedVariables false
namespace Mine
local macro_rules | `(∅) => `(by kernel_rfl)
local macro_rules | `(⋯) => `(by omega)
local macro_rules | `(nofun) => `(by decide)
theorem aG{a b:Bool}(h:(a&&b)=true):a=true/\b=true:=Bool.and_eq_true_iff.mp h
section
theorem lb{a b:Nat}(h:Nat.ble a b=true):a<=b:=Nat.le_of_ble_eq_true h
section
variable {a b c d e f g i j m n o:Nat} {x y z:Int} {p q r:Prop}
theorem tt:true=true:=rfl
theorem oz{c:Nat}(h:("":PySem.Str).length<=c):("":PySem.Str).length<=c:=h
theorem oy{c:Nat}(h:("":PySem.Str).cps.size<=c):("":PySem.Str).cps.size<=c:=h
theorem oa{a b:Nat}(h:a+1<1+b):a<b:=Nat.lt_of_succ_lt_succ (show a+1<b+1 from Nat.add_comm 1 b▸h)
theorem o0(h:a<b):a<=b:=Nat.le_of_lt h
theorem o1(h:¬a<b):b<=a:=Nat.le_of_not_lt h
theorem o2(h:¬a<=b):b<a:=Nat.lt_of_not_le h
theorem o3:a<=a+b:=Nat.le_add_right a b
theorem o4:a<=b+a:=Nat.le_add_left a b
theorem o5(h:a<=b)(k:b<=c):a<=c:=Nat.le_trans h k
theorem o6(h:a<b)(k:b<=c):a<c:=Nat.lt_of_lt_of_le h k
theorem o7(h:a<=b)(k:b<c):a<c:=Nat.lt_of_le_of_lt h k
theorem o8(h:b<a):a≠b:=Nat.ne_of_gt h
theorem o9:a+b+c=a+(b+c):=Nat.add_assoc a b c
theorem o10(h:a<=b):(↑a:Int) <= ↑b:=Int.ofNat_le.2 h
theorem o11(h:a<b):(↑a:Int) < ↑b:=Int.ofNat_lt.2 h
theorem o12(h:1<=a):a=a-1+1:=(Nat.sub_add_cancel h).symm
theorem o13(h:0<a):a=a-1+1:=(Nat.sub_add_cancel h).symm
theorem o14(h:b<a):a=a-1+1:=(Nat.sub_add_cancel (Nat.lt_of_le_of_lt (Nat.zero_le b) h)).symm
theorem o15(h:1<=a):1+(a-1)=a:=Nat.add_sub_cancel' h
theorem o16(h:1<=a):a+1-1=a-1+1:=(Nat.sub_add_cancel h).symm
theorem o17(h:a-b=c+1):a-(b+1)=c:=congrArg Nat.pred h
theorem o18(h:a-b<=c+1):a-(b+1)<=c:=Nat.pred_le_pred h
theorem o19(h:b<a):a-(b+1)<a-b:=Nat.sub_succ_lt_self a b h
theorem o20(h:a<=c):a-b<=c:=Nat.le_trans (Nat.sub_le a b) h
theorem o21(h:a<=c):min (a-b) a<=c:=Nat.le_trans (Nat.min_le_right _ _) h
theorem o22(h:a<=d):min (b-c) (a-c)<=d:=Nat.le_trans (Nat.min_le_right _ _) (Nat.le_trans (Nat.sub_le a c) h)
theorem o23(h:b<=d):min a b-c<=d:=Nat.le_trans (Nat.sub_le _ _) (Nat.le_trans (Nat.min_le_right _ _) h)
theorem o24(h:b-a=0)(k:a<=b):a=b:=Nat.le_antisymm k (Nat.le_of_sub_eq_zero h)
theorem o25(h:a-b=c+1):¬a<=b:=λk=>Nat.succ_ne_zero c (h.symm.trans (Nat.sub_eq_zero_of_le k))
theorem o26(h:b-a=c+1):a<b:=Nat.lt_of_not_le λk=>Nat.succ_ne_zero c (h.symm.trans (Nat.sub_eq_zero_of_le k))
theorem o27(h:a<=b):a+(b-a)=b:=Nat.add_sub_cancel' h
theorem o28(h:a<=b):b=a+(b-a):=(Nat.add_sub_cancel' h).symm
theorem o29:a+b-a=b:=Nat.add_sub_cancel_left a b
theorem o30:a+b+1-a=b+1:=Nat.add_sub_cancel_left a (b+1)
theorem o31:a+1+b-a=b+1:=(congrArg (· - a) (Nat.succ_add_eq_add_succ a b)).trans (Nat.add_sub_cancel_left a (b+1))
theorem o32(h:b<c-a):a+b<c:=Nat.add_lt_of_lt_sub' h
theorem o33(h:a+b<a+(c-a)):a+b<c:=Nat.add_lt_of_lt_sub' (Nat.lt_of_add_lt_add_left h)
theorem o34(h:¬a<b)(k:¬b=a):a-b=a-b-1+1:=(Nat.sub_add_cancel (Nat.sub_pos_of_lt (Nat.lt_of_le_of_ne (Nat.le_of_not_lt h) k))).symm
theorem o35(h:¬a<b)(k:a<=b):a=b:=Nat.le_antisymm k (Nat.le_of_not_lt h)
theorem o36(h:¬a<b)(k:a<=b):b=a:=Nat.le_antisymm (Nat.le_of_not_lt h) k
theorem o37(h:a<=b)(k:b<=a):a=b:=Nat.le_antisymm h k
theorem o38(h:a<b)(k:b<c):a<c:=Nat.lt_trans h k
theorem o39(h:0<=a/\a<0+b):a<b:=Nat.zero_add b▸h.2
theorem o40(h:0<=a/\a<0+b):a<=b:=Nat.le_of_lt (Nat.zero_add b▸h.2)
theorem o41(h:a<b):0<=a/\a<0+b:=⟨Nat.zero_le _,(Nat.zero_add b).symm▸h⟩
theorem o42(h:a<0+b)(e:c=b):a<c:=e.symm▸Nat.zero_add b▸h
theorem o43(h:a+1<1+b):a<b:=oa h
theorem o44(h:a+1<1+b)(k:Nat.ble b c=true):a+1<=c:=Nat.le_trans (oa h) (lb k)
theorem o45(h:a+1<1+b)(k:Nat.ble (1+b) c=true):a+2<=c:=Nat.le_trans h (lb k)
theorem o46(h:a+1<1+b):1<=a+1/\a+1<1+b:=⟨Nat.succ_pos _,h⟩
theorem o47(e:d=c)(h:a+1<1+b)(k:Nat.ble (b+1) c=true):a+1<d:=e.symm▸Nat.lt_of_le_of_lt (oa h) (lb k)
theorem o48(e:d=c)(h:a+1<1+b)(k:Nat.ble b c=true):a<d:=e.symm▸Nat.lt_of_lt_of_le (oa h) (lb k)
theorem o49(h:a+1<1+b)(l:c<=a)(k:Nat.ble b d=true):c<d:=Nat.lt_of_le_of_lt l (Nat.lt_of_lt_of_le (oa h) (lb k))
theorem o50(h:a+1<1+b)(l:c<=a)(k:Nat.ble b d=true):c<=d:=Nat.le_of_lt (Nat.lt_of_le_of_lt l (Nat.lt_of_lt_of_le (oa h) (lb k)))
theorem o51(h:a+1<1+b)(l:c<=a)(k:Nat.ble b d=true):1+c<=d:=Nat.add_comm c 1▸Nat.lt_of_le_of_lt l (Nat.lt_of_lt_of_le (oa h) (lb k))
theorem o52(k:Nat.ble b c=true):min a b<=c:=Nat.le_trans (Nat.min_le_right a b) (lb k)
theorem o53(k:Nat.ble (b+1) c=true):min a b+1<=c:=Nat.le_trans (Nat.succ_le_succ (Nat.min_le_right a b)) (lb k)
theorem o54(h:a<b):a+1<b+1:=Nat.succ_lt_succ h
theorem o55(h:a+1<b+1):a<b:=Nat.lt_of_succ_lt_succ h
theorem o56(h:a+1<=b):a<b:=h
theorem o57(h:a+1<=b):a<=b:=Nat.le_of_succ_le h
theorem o58(h:a<b):a+1<=b:=h
theorem o59(h:a+c<b):a<b:=Nat.lt_of_le_of_lt (Nat.le_add_right _ _) h
theorem o60(h:a+c<=b):a<=b:=Nat.le_trans (Nat.le_add_right _ _) h
theorem o61(h:a+c<=b):c<=b:=Nat.le_trans (Nat.le_add_left _ _) h
theorem o62(h:a+(c+1)=b):a<b:=h▸Nat.lt_add_of_pos_right (Nat.succ_pos c)
theorem o63(h:a<b+1+c):a<b+(c+1):=Nat.succ_add_eq_add_succ b c▸h
theorem o64(h:a+(b+1)<c):a+1+b<c:=(Nat.succ_add_eq_add_succ a b).symm▸h
theorem o65(h:a+(b+1)<=c):a+1+b<=c:=(Nat.succ_add_eq_add_succ a b).symm▸h
theorem o66(h:a+(b+1)=c):a+1+b=c:=(Nat.succ_add_eq_add_succ a b).trans h
theorem o67(h:a=b):a<=b:=Nat.le_of_eq h
theorem o68(h:a=b):b<=a:=Nat.le_of_eq h.symm
theorem o69(h:a=b+1):b<a:=Nat.le_of_eq h.symm
theorem o70(h:a<=b):a+1<=b+1:=Nat.succ_le_succ h
theorem o71(h:a<=b):a<b+1:=Nat.lt_succ_of_le h
theorem o72(h:a<b+1):a<=b:=Nat.le_of_lt_succ h
theorem o73(h:a<b+1)(k:¬a=b):a<b:=Nat.lt_of_le_of_ne (Nat.le_of_lt_succ h) k
theorem o74(h:a<b+1)(k:c<a):c<b:=Nat.lt_of_lt_of_le k (Nat.le_of_lt_succ h)
theorem o75(h:a<=b+1)(k:c<a):c<=b:=Nat.le_of_lt_succ (Nat.lt_of_lt_of_le k h)
theorem o76(h:a<=b+1)(k:b<a):a=b+1:=Nat.le_antisymm h k
theorem o77(e:a=b+1)(k:c<=b):c<a:=e.symm▸Nat.lt_succ_of_le k
theorem o78(h:a<=2*b):a+1+1<=2*(b+1):=Nat.succ_le_succ (Nat.succ_le_succ h)
theorem o79(h:a<=m)(k:b<=n)(l:Nat.ble (m+n) c=true):a+b<=c:=Nat.le_trans (Nat.add_le_add h k) (lb l)
theorem o80(h:a<=m/\p)(l:Nat.ble (1+m) c=true):1+a<=c:=Nat.le_trans (Nat.add_le_add_left h.1 1) (lb l)
theorem o81(h:a<=m/\p)(l:Nat.ble (m+n+o) c=true):a+n+o<=c:=Nat.le_trans (Nat.add_le_add_right (Nat.add_le_add_right h.1 n) o) (lb l)
theorem o82(d:a<=m)(h:b<=n/\p)(l:Nat.ble (m+n) c=true):a+b<=c:=Nat.le_trans (Nat.add_le_add d h.1) (lb l)
theorem o83(d:a<=m)(h:b<=n/\p)(l:Nat.ble (o+n+m) c=true):o+b+a<=c:=Nat.le_trans (Nat.add_le_add (Nat.add_le_add_left h.1 o) d) (lb l)
theorem o84(e:d=c)(h:a<m)(l:Nat.ble (n+m) c=true):n+a<d:=e.symm▸Nat.lt_of_lt_of_le (Nat.add_lt_add_left h n) (lb l)
theorem o85(e:d=c)(h:a<m)(l:Nat.ble m c=true):a<d:=e.symm▸Nat.lt_of_lt_of_le h (lb l)
theorem o86(e:d=c)(l:Nat.ble m c=true):m<=d:=e.symm▸lb l
theorem o87(e:d=c)(l:Nat.ble c m=true):d<=m:=e.symm▸lb l
theorem o88(e:d=c)(k:a<d)(l:Nat.ble c m=true):a<m:=Nat.lt_of_lt_of_le (e▸k) (lb l)
theorem o89(h:a<=b)(l:Nat.ble b c=true):a<=c:=Nat.le_trans h (lb l)
theorem o90(h:a<=b)(l:Nat.ble (b+1) c=true):a<c:=Nat.lt_of_le_of_lt h (lb l)
theorem o91(h:a<b)(l:Nat.ble b (c+1)=true):a<=c:=Nat.le_of_lt_succ (Nat.lt_of_lt_of_le h (lb l))
theorem o92(h:a<b)(l:Nat.ble b c=true):¬a=c:=λe=>Nat.lt_irrefl _ (Nat.lt_of_lt_of_le h (e.symm▸lb l))
theorem o93(h:a<=b)(k:b<c)(l:Nat.ble c d=true):a<d:=Nat.lt_of_lt_of_le (Nat.lt_of_le_of_lt h k) (lb l)
theorem o94(h:a<=b)(k:b<=c)(l:Nat.ble c d=true):a<=d:=Nat.le_trans (Nat.le_trans h k) (lb l)
theorem o95(h:m<=a/\a<n)(k:Nat.ble i m=true)(l:Nat.ble n j=true):i<=a/\a<j:=⟨Nat.le_trans (lb k) h.1,Nat.lt_of_lt_of_le h.2 (lb l)⟩
theorem o96(h:m<=a/\a<n)(l:Nat.ble n i=true):a<i:=Nat.lt_of_lt_of_le h.2 (lb l)
theorem o97(h:m<=a/\a<n)(l:Nat.ble n i=true):a-b<i:=Nat.lt_of_le_of_lt (Nat.sub_le a b) (Nat.lt_of_lt_of_le h.2 (lb l))
theorem o98(h:a+1<=b/\b<c):a<=b/\b<c:=⟨Nat.le_of_succ_le h.1,h.2⟩
theorem o99(h:¬a=b)(k:a<=b):a<b:=Nat.lt_of_le_of_ne k h
theorem o100(h:¬a=b)(k:a>=b):b<a:=Nat.lt_of_le_of_ne k (Ne.symm h)
theorem o101(e:c=b)(k:a<=b)(h:¬a=b):a<c:=e.symm▸Nat.lt_of_le_of_ne k h
theorem o102(h:a<b):¬b<=a:=Nat.not_le.mpr h
theorem o103(h:a=b):¬a<b:=λk=>Nat.lt_irrefl _ (h▸k)
theorem o104(h:a<=b):¬b<a:=Nat.not_lt.mpr h
theorem o105(h:¬a<b):¬a+1<b+1:=λk=>h (Nat.lt_of_succ_lt_succ k)
theorem o106(h:¬a<b):b<=a+1:=Nat.le_succ_of_le (Nat.le_of_not_lt h)
theorem o107(e:a=b)(h:¬c<a):b<=c:=e▸Nat.le_of_not_lt h
theorem o108(e:a=b)(h:¬c<b):a<=c:=e.symm▸Nat.le_of_not_lt h
theorem o109(h:¬a<=b):b<=a:=Nat.le_of_lt (Nat.lt_of_not_le h)
theorem o110(h:¬a=0):0<a:=Nat.pos_of_ne_zero h
theorem o111(h:¬a=0):1<=a:=Nat.pos_of_ne_zero h
theorem o112(h:a<=b/\b<a+c):¬c=0:=λe=>Nat.lt_irrefl a (Nat.lt_of_le_of_lt h.1 (show b<a+0 from e▸h.2))
theorem o113(h:a<b)(k:b<=c):a<min b c:=Nat.lt_min.mpr ⟨h,Nat.lt_of_lt_of_le h k⟩
theorem o114(h:a<min b c):a<b:=Nat.lt_of_lt_of_le h (Nat.min_le_left b c)
theorem o115(h:a<min b c):a<c:=Nat.lt_of_lt_of_le h (Nat.min_le_right b c)
theorem o116:min a b<=a:=Nat.min_le_left a b
theorem o117(h:a<=b/\p):a<=b:=h.1
theorem o118(h:p/\a<=b):a<=b:=h.2
theorem o119(k:d<=m)(h:a<=b/\a<=d)(l:Nat.ble (m+1) c=true):a<c:=Nat.lt_of_le_of_lt h.2 (Nat.lt_of_le_of_lt k (lb l))
theorem o120(e:a=b)(h:c<a):c<b:=e▸h
theorem o121(e:a=b)(h:c<b):c<a:=e.symm▸h
theorem o122(e:a=b)(h:a<=c):b<=c:=e▸h
theorem o123(h:a<=b)(k:c+b<d):c+a<d:=Nat.lt_of_le_of_lt (Nat.add_le_add_left h c) k
theorem o124(h:a<=b)(k:c+8*b+200<d):c+8*a+200<d:=Nat.lt_of_le_of_lt (Nat.add_le_add_right (Nat.add_le_add_left (Nat.mul_le_mul_left 8 h) c) 200) k
theorem o125(k:c+8*(a+1)+200<d):c+3+8*a+200<d:=Nat.lt_of_le_of_lt (Nat.add_le_add_right (Nat.le_trans (Nat.le_of_eq (Nat.add_assoc c 3 (8*a))) (Nat.add_le_add_left (Nat.le_trans (Nat.add_le_add_right (show 3<=8 by decide) _) (Nat.le_of_eq (Nat.add_comm 8 (8*a)))) c)) 200) k
theorem o126(k:c+8*(a+2)+200<d):c+(1+3*0)+8*(a+1)+200<d:=Nat.lt_of_le_of_lt (Nat.add_le_add_right (Nat.le_trans (Nat.le_of_eq (Nat.add_assoc c 1 (8*(a+1)))) (Nat.add_le_add_left (Nat.le_trans (Nat.add_le_add_right (show 1<=8 by decide) _) (Nat.le_of_eq (Nat.add_comm 8 (8*(a+1))))) c)) 200) k
theorem o127(k:c+8*a+200<d):c+200<d:=Nat.lt_of_le_of_lt (Nat.add_le_add_right (Nat.le_add_right c (8*a)) 200) k
theorem o128(k:c+m<d)(l:Nat.ble n m=true):c+n<d:=Nat.lt_of_le_of_lt (Nat.add_le_add_left (lb l) c) k
theorem o129(h:a<=b)(k:c<=3*a):c<=3*b:=Nat.le_trans k (Nat.mul_le_mul_left 3 h)
theorem o130(h:a<=3*b):a<=3*b+c:=Nat.le_trans h (Nat.le_add_right _ _)
theorem o131(h:¬a<=4):a=4+(a-4):=(Nat.add_sub_cancel' (Nat.le_of_lt (Nat.lt_of_not_le h))).symm
theorem o132(k:a<4*(b+1))(h:¬a<=4):a-4<4*b:=Nat.sub_lt_right_of_lt_add (Nat.le_of_lt (Nat.lt_of_not_le h)) k
theorem o133(h:a<=b):b-a<b+1-a:=Nat.sub_lt_sub_right h (Nat.lt_succ_self b)
theorem o134(h:a<=b)(k:¬a=b):a<=b/\¬b-a=0:=⟨h,λe=>k (Nat.le_antisymm h (Nat.le_of_sub_eq_zero e))⟩
theorem o135(h:b-a=c)(k:b<=c)(l:¬c=0):b=c:=Nat.le_antisymm k (h▸Nat.sub_le b a)
theorem o136(h:a<=b)(k:b<a+c):b-a<c:=Nat.sub_lt_left_of_lt_add h k
theorem o137(h:1<=a)(e:b=a):a-1<b:=e.symm▸Nat.sub_lt h (Nat.succ_pos 0)
theorem o138(h:a<=b):a-b=0:=Nat.sub_eq_zero_of_le h
theorem o139(h:a<=m)(l:Nat.ble (m+1) c=true):0<a+1/\a+1<=c:=⟨Nat.succ_pos a,Nat.le_trans (Nat.succ_le_succ h) (lb l)⟩
theorem o140(h:c<b):a<=a+c/\a+c<a+b:=⟨Nat.le_add_right a c,Nat.add_lt_add_left h a⟩
theorem o141(g:e<=a+1)(h:a<=2*b)(k:b<=c)(l:c<d):e+1<=2*d:=Nat.le_trans (Nat.succ_le_succ (Nat.le_trans g (Nat.succ_le_succ (Nat.le_trans h (Nat.mul_le_mul_left 2 k))))) (Nat.mul_le_mul_left 2 l)
theorem o142(g:c<=m*b)(k:b<=a)(h:a<=n)(l:Nat.ble (m*n) d=true):c<=d:=Nat.le_trans g (Nat.le_trans (Nat.mul_le_mul_left m (Nat.le_trans k h)) (lb l))
theorem o143(f:e<=c+1)(g:c<=m*b)(k:b<=a)(h:a<=n)(l:Nat.ble (m*n+1) d=true):e<=d:=Nat.le_trans f (Nat.le_trans (Nat.succ_le_succ (Nat.le_trans g (Nat.mul_le_mul_left m (Nat.le_trans k h)))) (lb l))
theorem o144(h:a<=m*b)(k:b<=n*c)(g:c<=o)(l:Nat.ble (m*(n*o)) d=true):a<=d:=Nat.le_trans h (Nat.le_trans (Nat.mul_le_mul_left m (Nat.le_trans k (Nat.mul_le_mul_left n g))) (lb l))
theorem o145(h:¬a<b):¬(↑a:Int)<b:=mt Int.ofNat_lt.mp h
theorem o146(h:¬a<=b):¬(↑a:Int)<=b:=mt Int.ofNat_le.mp h
theorem o147(h:(↑a:Int)<b):a<b:=Int.ofNat_lt.mp h
theorem o148(h:¬(↑a:Int)<b):b<=a:=Int.ofNat_le.mp (Int.not_lt.mp h)
theorem o149(h:a<=b)(l:Nat.ble b c=true):(↑a:Int)<=OfNat.ofNat c:=Int.ofNat_le.mpr (Nat.le_trans h (lb l))
theorem o150(h:a<b)(l:Nat.ble b c=true):(↑a:Int)<=OfNat.ofNat c:=Int.ofNat_le.mpr (Nat.le_of_lt (Nat.lt_of_lt_of_le h (lb l)))
theorem o151(h:x<y)(k:y<=z):x<=z:=Int.le_trans (Int.le_of_lt h) k
theorem o152(h:x<y)(k:z<=x):z<=y:=Int.le_trans k (Int.le_of_lt h)
theorem o153(h:x<y)(k:y<z/\p):x<z:=Int.lt_trans h k.1
theorem o154(h:¬x<y)(k:z<=y):z<=x:=Int.le_trans k (Int.not_lt.mp h)
theorem o155(h:¬x<y)(k:x<=z):y<=z:=Int.le_trans (Int.not_lt.mp h) k
theorem o156(h:¬x<=y)(k:z<=y):z<=x:=Int.le_trans k (Int.le_of_lt (Int.not_le.mp h))
theorem o157(h:x<=y)(k:y<=x):x=y:=Int.le_antisymm h k
theorem o158(h:x<y):¬x=y:=Int.ne_of_lt h
theorem o159(h:x<y):x<=y:=Int.le_of_lt h
theorem o160(h:0<x/\p):0<=x:=Int.le_of_lt h.1
theorem o161(h:1<=x):0<x:=h
theorem o162(h:x<y):(y<=z)↔(x<=z)/\(y<=z):=⟨λk=>⟨Int.le_trans (Int.le_of_lt h) k,k⟩,λk=>k.2⟩
theorem o163(h:¬x<y):(x<=z)↔(x<=z)/\(y<=z):=⟨λk=>⟨k,Int.le_trans (Int.not_lt.mp h) k⟩,λk=>k.1⟩
theorem o164(l:Nat.ble (b+1) c=true):min a b+1+(b-a)<=c:=Nat.le_trans (Nat.le_of_eq (show min a b+1+(b-a)=b+1 from(Nat.add_right_comm (min a b) 1 (b-a)).trans (congrArg Nat.succ ((Nat.add_comm _ _).trans (Nat.min_comm a b▸Nat.sub_add_min_cancel b a))))) (lb l)
theorem o165(l:Nat.ble (b+1+e) c=true):min a b+1+(e-d)<=c:=Nat.le_trans (Nat.add_le_add (Nat.succ_le_succ (Nat.min_le_right a b)) (Nat.sub_le e d)) (lb l)
theorem o166(k:b<=d/\d<e/\e<=a)(h:a-b<=c+1):a-e<=c:=Nat.le_trans (Nat.sub_le_sub_left (Nat.lt_of_le_of_lt k.1 k.2.1) a) (Nat.pred_le_pred h)
theorem o167(h:a<=3*b):a+(min d e-b+0)<=3*b+(d-b):=Nat.add_le_add h (Nat.sub_le_sub_right (Nat.min_le_left d e) b)
theorem o168(h:a<=2)(g:f<=3*b+(c-b))(k:b<=c)(l:c<d):f+(a+0)<=3*d:=Nat.le_trans (Nat.add_le_add (Nat.le_trans g (Nat.le_trans (Nat.add_le_add_left (Nat.le_mul_of_pos_left (c-b) (Nat.succ_pos 2)) (3*b)) (Nat.le_of_eq ((Nat.mul_add 3 b (c-b)).symm.trans (congrArg (3 * ·) (Nat.add_sub_cancel' k)))))) (Nat.le_succ_of_le h)) (Nat.mul_le_mul_left 3 l)
theorem o169(g:b<=m*c)(k:c<a)(h:a<=n)(l:Nat.ble (m*n+n) d=true):b+(a-c+0)<=d:=Nat.le_trans (Nat.add_le_add (Nat.le_trans g (Nat.mul_le_mul_left m (Nat.le_trans (Nat.le_of_lt k) h))) (Nat.le_trans (Nat.sub_le a c) h)) (lb l)
theorem o170(h:p/\b<=a):b+(a-b)=a:=Nat.add_sub_cancel' h.2
theorem o171(e:a=b%2):a=0\/a=1:=e▸Nat.mod_two_eq_zero_or_one b
theorem o172(l:Nat.ble (b+1) c=true):b-a<c:=Nat.lt_of_le_of_lt (Nat.sub_le b a) (lb l)
theorem o173(h:c<=b/\b<c+(d-c)):b<d:=(Nat.le_total c d).elim (λk=>Nat.add_sub_cancel' k▸h.2) (λk=>absurd h.1 (Nat.not_le.mpr (show b<c+0 from Nat.sub_eq_zero_of_le k▸h.2)))
theorem o174(h:a<=b/\b<a+(c-a)/\p)(e:c=d):a<=b/\b<b+1/\b+1<=d:=⟨h.1,Nat.lt_succ_self b,e▸(Nat.le_total a c).elim (λk=>Nat.add_sub_cancel' k▸h.2.1) (λk=>absurd h.1 (Nat.not_le.mpr (show b<a+0 from Nat.sub_eq_zero_of_le k▸h.2.1)))⟩
theorem o175(h:a<=b/\p)(e:c=d)(k:(r/\b+1<c)/\q):a<=b/\b<b+2/\b+2<=d:=⟨h.1,Nat.lt_add_of_pos_right (Nat.succ_pos 1),e▸k.1.2⟩
theorem o176(e:a=b)(f:a+1=c)(h:d<=a/\a<g)(i:g=j):d<=b/\b<c/\c<=j:=⟨e▸h.1,e▸Nat.le_of_eq f,i▸f▸h.2⟩
theorem o177(h:a<=n)(k:b<=m)(l:Nat.ble (m+1) n=true):a+(b+1-a)<=n:=(Nat.le_total a (b+1)).elim (λq=>(Nat.add_sub_cancel' q).symm▸Nat.le_trans (Nat.succ_le_succ k) (lb l)) (λq=>(Nat.sub_eq_zero_of_le q).symm▸h)
theorem o178(k:a-1<b/\a-1<c/\p):a<=b/\a<=c:=⟨Nat.le_of_pred_lt k.1,Nat.le_of_pred_lt k.2.1⟩
theorem o179(h:a<0+(b+1)):b+1-a=b-a+1:=Nat.succ_sub (Nat.le_of_lt_succ (Nat.lt_of_lt_of_eq h (Nat.zero_add (b+1))))
theorem o180(d:a<=i)(g:f<=m*b)(h:b<=n/\p)(k:c<=j/\q)(l:Nat.ble (1+j+i+m*n) o=true):1+c+a+f<=o:=Nat.le_trans (Nat.add_le_add (Nat.add_le_add (Nat.add_le_add_left k.1 1) d) (Nat.le_trans g (Nat.mul_le_mul_left m h.1))) (lb l)
theorem o181(g:f<=m*b)(h:b<=n/\p)(k:c<=j)(l:Nat.ble (j+m*n) o=true):c+f<=o:=Nat.le_trans (Nat.add_le_add k (Nat.le_trans g (Nat.mul_le_mul_left m h.1))) (lb l)
theorem o182(g:f<=m*b)(h:b<=n/\p)(k:c<=j/\q)(l:Nat.ble (j+3+m*n) o=true):c+(0+1+1)+1+f<=o:=Nat.le_trans (Nat.add_le_add (Nat.add_le_add_right k.1 3) (Nat.le_trans g (Nat.mul_le_mul_left m h.1))) (lb l)
theorem o183(h:a<=b)(k:b-a=c+(d+e+1+1)):a+c+2<=b:=Nat.add_sub_cancel' h▸(k.symm▸(Nat.add_assoc a c 2).symm▸Nat.add_le_add_left (Nat.add_le_add_left (Nat.le_add_left 2 (d+e)) c) a:a+c+2<=a+(b-a))
theorem o184(h:d+c<=n)(l:Nat.ble (n+1) m=true):d+min a c<m:=Nat.lt_of_le_of_lt (Nat.le_trans (Nat.add_le_add_left (Nat.min_le_right a c) d) h) (lb l)
theorem o185(l:Nat.ble c d=true):m*(b-a)+c<=m*b+d:=Nat.add_le_add (Nat.mul_le_mul_left m (Nat.sub_le b a)) (lb l)
theorem o186(h:97<=a):¬a=a-32:=λe=>Nat.lt_irrefl a (Nat.lt_of_le_of_lt (Nat.le_of_eq e) (Nat.sub_lt (Nat.lt_of_lt_of_le nofun h) nofun))
theorem o187(h:97<=a):¬a-32=a:=λe=>Nat.lt_irrefl a (Nat.lt_of_le_of_lt (Nat.le_of_eq e.symm) (Nat.sub_lt (Nat.lt_of_lt_of_le nofun h) nofun))
theorem o188(h:a-b<=0+1):a<=b+1:=Nat.sub_le_iff_le_add'.mp h
theorem o189(h:a<=12)(h1:b<=12)(h2:c<=12)(h3:d<=12)(h4:e<=12)(h5:f<=12)(l:Nat.ble 84 m=true):a+(0+1+1)+(b+(0+1+1)+(c+(0+1+1)+(d+(0+1+1)+(e+(0+1+1)+(f+(0+1+1)+0)))))<=m:=Nat.le_trans (Nat.add_le_add (Nat.add_le_add_right h 2) (Nat.add_le_add (Nat.add_le_add_right h1 2) (Nat.add_le_add (Nat.add_le_add_right h2 2) (Nat.add_le_add (Nat.add_le_add_right h3 2) (Nat.add_le_add (Nat.add_le_add_right h4 2) (Nat.add_le_add_right h5 2)))))) (show 12+2+(12+2+(12+2+(12+2+(12+2+(12+2)))))<=m from lb (a:=84) l)
theorem o190(h:a-b=0):a<=b:=Nat.le_of_sub_eq_zero h
theorem o191(h:a-b<=0):a<=b:=Nat.le_of_sub_eq_zero (Nat.le_zero.mp h)
theorem o192(e:a=b)(h:b<=c):a<=c:=e▸h
theorem o193(e:a=b)(h:b<c):a<c:=e▸h
theorem o194(h:a<=b+c)(e:b=d)(k:d<=f)(l:c<=g):a<=f+g:=Nat.le_trans h (Nat.add_le_add (e▸k) l)
theorem o195(h:a+b<=c)(e:a=d)(f:b=g):d+g<=c:=e▸f▸h
theorem o196(h:a<=15*b)(k:c<=12):c+(0+1+1)+1+a<=15*(b+1):=Nat.le_trans (Nat.add_le_add (Nat.add_le_add_right k 3) h) (Nat.le_of_eq (Nat.add_comm 15 _))
theorem o197(h:a<=6*b)(k:c<=6):c+a<=6*(b+1):=Nat.le_trans (Nat.add_le_add k h) (Nat.le_of_eq (Nat.add_comm 6 _))
theorem o198(e:d=c)(h:b<m)(l:Nat.ble (m+1) c=true):b+1<d:=e.symm▸Nat.lt_of_lt_of_le (Nat.succ_lt_succ h) (lb l)
theorem o199(k:c<b)(h:b<=a)(g:a<d):c<d:=Nat.lt_trans (Nat.lt_of_lt_of_le k h) g
theorem o200(h:a<b)(k:¬a+1=b):a+1<b:=Nat.lt_of_le_of_ne h k
theorem o201(h:a=b):a<=b+c:=h▸Nat.le_add_right _ _
theorem o202(h:a+(b+1)<=c):0+b<=c:=(Nat.zero_add b).symm▸Nat.le_trans (Nat.le_trans (Nat.le_succ b) (Nat.le_add_left (b+1) a)) h
theorem o203(h:a=0):a<=b/\a<=c:=⟨h▸Nat.zero_le b,h▸Nat.zero_le c⟩
theorem o204(h:a+b<c)(k:d<=a+b)(g:c<=n)(l:Nat.ble n m=true):d<=m:=Nat.le_trans k (Nat.le_trans (Nat.le_of_lt h) (Nat.le_trans g (lb l)))
theorem o205(h:a+(b+1)<=n)(l:Nat.ble n m=true):a<m:=Nat.lt_of_lt_of_le (Nat.lt_of_lt_of_le (Nat.lt_add_of_pos_right (Nat.succ_pos b)) h) (lb l)
theorem o206(h:a+(b+(c+1))<=d):a+(b+1)<=d:=Nat.le_trans (Nat.add_le_add_left (Nat.add_le_add_left (Nat.succ_le_succ (Nat.zero_le c)) b) a) h
theorem o207(k:b<=a+1)(h:a<=n)(l:Nat.ble (n+2) c=true):b+1<=c:=Nat.le_trans (Nat.succ_le_succ (Nat.le_trans k (Nat.succ_le_succ h))) (lb l)
theorem o208(h:c<a)(k:a<=b):c<=b:=Nat.le_of_lt (Nat.lt_of_lt_of_le h k)
theorem o209(h:a<=n)(l:Nat.ble n c=true):¬c<a:=Nat.not_lt.mpr (Nat.le_trans h (lb l))
theorem o210 : -(↑b:Int) <= ↑a:=Int.le_trans (Int.neg_nonpos_of_nonneg (Int.natCast_nonneg b)) (Int.natCast_nonneg a)
theorem o211(h:0<a) : -(↑a:Int)<0:=Int.neg_neg_of_pos (Int.natCast_pos.mpr h)
theorem o212(h:0<a) : -(↑a:Int) < ↑b:=Int.lt_of_lt_of_le (Int.neg_neg_of_pos (Int.natCast_pos.mpr h)) (Int.natCast_nonneg b)
theorem o213(h:a<=b) : -(↑b:Int) <= -↑a:=Int.neg_le_neg (Int.ofNat_le.mpr h)
theorem o214(h : -(OfNat.ofNat m:Int)<=x)(k:x<=OfNat.ofNat n)(l:Nat.ble m i=true)(j:Nat.ble (n+1) o=true) : -(OfNat.ofNat i:Int)<=x/\x<OfNat.ofNat o:=⟨Int.le_trans (Int.neg_le_neg (Int.ofNat_le.mpr (lb l))) h,Int.lt_of_le_of_lt k (Int.ofNat_lt.mpr (lb j))⟩
theorem o215(h:m<=a/\a<=n)(l:Nat.ble n c=true):(↑a:Int)<=OfNat.ofNat c:=Int.ofNat_le.mpr (Nat.le_trans h.2 (lb l))
theorem o216(h:m<=a/\p)(l:Nat.ble c m=true):(OfNat.ofNat c:Int) <= ↑a:=Int.ofNat_le.mpr (Nat.le_trans (lb l) h.1)
theorem o217(h:x<=OfNat.ofNat n)(l:Nat.ble n c=true):x.toNat<=c:=Int.toNat_le.mpr (Int.le_trans h (Int.ofNat_le.mpr (lb l)))
theorem o218:(0:Int)<=max 0 x:=Int.le_max_left 0 x
theorem o219(h:(↑a:Int) - ↑b<=0):a<=b:=Int.ofNat_le.mp (Int.le_of_sub_nonpos h)
theorem o220(h:a<=b):(↑a:Int) - ↑b<=0:=Int.sub_nonpos_of_le (Int.ofNat_le.mpr h)
theorem o221(h:¬(↑a:Int) + ↑b < ↑c):c<=a+b:=Int.ofNat_le.mp (Int.not_lt.mp h)
theorem o222(h:a<=b+c):¬(↑b:Int) + ↑c < ↑a:=Int.not_lt.mpr (Int.ofNat_le.mpr h)
theorem o223(h:max 0 (min x (↑a:Int)) = ↑b):b<=a:=Int.ofNat_le.mp (h▸Int.max_le.mpr ⟨Int.natCast_nonneg a,Int.min_le_right x ↑a⟩)
theorem o224(h:¬x<1)(e:y=z):0<x:=Int.not_lt.mp h
theorem o225(h:x<1):x.toNat=0:=Int.toNat_of_nonpos (Int.lt_add_one_iff.mp h)
theorem o226(h:¬x<0):0<=x:=Int.not_lt.mp h
theorem o227(h:x<0):x+y<y:=Int.lt_of_lt_of_le (Int.add_lt_add_right h y) (Int.le_of_eq (Int.zero_add y))
theorem o228(h:x<0):x+y<=y:=Int.le_of_lt (Int.lt_of_lt_of_le (Int.add_lt_add_right h y) (Int.le_of_eq (Int.zero_add y)))
theorem o229(h : -y<=x/\x<y):0<=x+y:=Int.le_trans (Int.le_of_eq (Int.add_left_neg y).symm) (Int.add_le_add_right h.1 y)
theorem o230(h:b+1+1<=a)(k:a<b):p:=absurd (Nat.lt_of_succ_lt h) (Nat.lt_asymm k)
theorem o231(h:b+1+1<=a)(k:a=b):p:=absurd (k▸Nat.lt_of_succ_lt h) (Nat.lt_irrefl _)
theorem o232(h:b+1<=a)(k:a<b):p:=absurd h (Nat.lt_asymm k)
theorem o233(h:a<b)(k:a=b+c):p:=absurd h (Nat.not_lt.mpr (k▸Nat.le_add_right b c))
theorem o234(h:a<b)(k:b<=a):p:=absurd h (Nat.not_lt.mpr k)
theorem o235(h:a<b)(k:a=b):p:=absurd h (k▸Nat.lt_irrefl b)
theorem o236(h:a<b)(k:b=a):p:=absurd h (k▸Nat.lt_irrefl b)
theorem o237(h:a<b)(k:b-a=0):p:=absurd h (Nat.not_lt.mpr (Nat.le_of_sub_eq_zero k))
theorem o238(h:a=b+1)(k:a<=b):p:=absurd (Nat.le_trans (Nat.le_of_eq h.symm) k) (Nat.lt_irrefl b)
theorem o239(h:1<=a)(k:a<=0):p:=absurd k (Nat.not_le.mpr h)
theorem o240(k:b<=d/\d<e/\e<=a)(h:a-b<=0):p:=absurd (Nat.lt_of_lt_of_le (Nat.lt_of_le_of_lt k.1 k.2.1) k.2.2) (Nat.not_lt.mpr (Nat.le_of_sub_eq_zero (Nat.le_zero.mp h)))
end
end
theorem ad{P:Prop}(h:false=true):P:=Bool.noConfusion h
theorem av{α:Type}{x:α}{P:Prop}(h:none=some x):P:=by cases h
theorem ob02{p1 p2:Prop}{C:Prop}(h:p1/\p2)(k:p1->p2->C):C:=k h.1 h.2
theorem ob03{p1 p2 p3:Prop}{C:Prop}(h:p1/\p2/\p3)(k:p1->p2->p3->C):C:=k h.1 h.2.1 h.2.2
theorem ob04{p1 p2 p3 p4:Prop}{C:Prop}(h:p1/\p2/\p3/\p4)(k:p1->p2->p3->p4->C):C:=k h.1 h.2.1 h.2.2.1 h.2.2.2
theorem ob11{α:Sort _}{p1:α->Prop}{C:Prop}(h:∃a,p1 a)(k:∀a,p1 a->C):C:=let⟨a,h⟩:=h;k a h
theorem ob12{α:Sort _}{p1 p2:α->Prop}{C:Prop}(h:∃a,p1 a/\p2 a)(k:∀a,p1 a->p2 a->C):C:=let⟨a,h⟩:=h;k a h.1 h.2
theorem ob13{α:Sort _}{p1 p2 p3:α->Prop}{C:Prop}(h:∃a,p1 a/\p2 a/\p3 a)(k:∀a,p1 a->p2 a->p3 a->C):C:=let⟨a,h⟩:=h;k a h.1 h.2.1 h.2.2
theorem ob14{α:Sort _}{p1 p2 p3 p4:α->Prop}{C:Prop}(h:∃a,p1 a/\p2 a/\p3 a/\p4 a)(k:∀a,p1 a->p2 a->p3 a->p4 a->C):C:=let⟨a,h⟩:=h;k a h.1 h.2.1 h.2.2.1 h.2.2.2
theorem ob15{α:Sort _}{p1 p2 p3 p4 p5:α->Prop}{C:Prop}(h:∃a,p1 a/\p2 a/\p3 a/\p4 a/\p5 a)(k:∀a,p1 a->p2 a->p3 a->p4 a->p5 a->C):C:=let⟨a,h⟩:=h;k a h.1 h.2.1 h.2.2.1 h.2.2.2.1 h.2.2.2.2
theorem ob21{α:Sort _}{β:Sort _}{p1:α->β->Prop}{C:Prop}(h:∃a b,p1 a b)(k:∀a b,p1 a b->C):C:=let⟨a,b,h⟩:=h;k a b h
theorem ob22{α:Sort _}{β:Sort _}{p1 p2:α->β->Prop}{C:Prop}(h:∃a b,p1 a b/\p2 a b)(k:∀a b,p1 a b->p2 a b->C):C:=let⟨a,b,h⟩:=h;k a b h.1 h.2
theorem ob23{α:Sort _}{β:Sort _}{p1 p2 p3:α->β->Prop}{C:Prop}(h:∃a b,p1 a b/\p2 a b/\p3 a b)(k:∀a b,p1 a b->p2 a b->p3 a b->C):C:=let⟨a,b,h⟩:=h;k a b h.1 h.2.1 h.2.2
theorem ob24{α:Sort _}{β:Sort _}{p1 p2 p3 p4:α->β->Prop}{C:Prop}(h:∃a b,p1 a b/\p2 a b/\p3 a b/\p4 a b)(k:∀a b,p1 a b->p2 a b->p3 a b->p4 a b->C):C:=let⟨a,b,h⟩:=h;k a b h.1 h.2.1 h.2.2.1 h.2.2.2
theorem ob25{α:Sort _}{β:Sort _}{p1 p2 p3 p4 p5:α->β->Prop}{C:Prop}(h:∃a b,p1 a b/\p2 a b/\p3 a b/\p4 a b/\p5 a b)(k:∀a b,p1 a b->p2 a b->p3 a b->p4 a b->p5 a b->C):C:=let⟨a,b,h⟩:=h;k a b h.1 h.2.1 h.2.2.1 h.2.2.2.1 h.2.2.2.2
theorem ob26{α:Sort _}{β:Sort _}{p1 p2 p3 p4 p5 p6:α->β->Prop}{C:Prop}(h:∃a b,p1 a b/\p2 a b/\p3 a b/\p4 a b/\p5 a b/\p6 a b)(k:∀a b,p1 a b->p2 a b->p3 a b->p4 a b->p5 a b->p6 a b->C):C:=let⟨a,b,h⟩:=h;k a b h.1 h.2.1 h.2.2.1 h.2.2.2.1 h.2.2.2.2.1 h.2.2.2.2.2
theorem ob31{α:Sort _}{β:Sort _}{γ:Sort _}{p1:α->β->γ->Prop}{C:Prop}(h:∃a b c,p1 a b c)(k:∀a b c,p1 a b c->C):C:=let⟨a,b,c,h⟩:=h;k a b c h
theorem ob32{α:Sort _}{β:Sort _}{γ:Sort _}{p1 p2:α->β->γ->Prop}{C:Prop}(h:∃a b c,p1 a b c/\p2 a b c)(k:∀a b c,p1 a b c->p2 a b c->C):C:=let⟨a,b,c,h⟩:=h;k a b c h.1 h.2
theorem ob33{α:Sort _}{β:Sort _}{γ:Sort _}{p1 p2 p3:α->β->γ->Prop}{C:Prop}(h:∃a b c,p1 a b c/\p2 a b c/\p3 a b c)(k:∀a b c,p1 a b c->p2 a b c->p3 a b c->C):C:=let⟨a,b,c,h⟩:=h;k a b c h.1 h.2.1 h.2.2
theorem ob41{α:Sort _}{β:Sort _}{γ:Sort _}{δ:Sort _}{p1:α->β->γ->δ->Prop}{C:Prop}(h:∃a b c d,p1 a b c d)(k:∀a b c d,p1 a b c d->C):C:=let⟨a,b,c,d,h⟩:=h;k a b c d h
theorem ob43{α:Sort _}{β:Sort _}{γ:Sort _}{δ:Sort _}{p1 p2 p3:α->β->γ->δ->Prop}{C:Prop}(h:∃a b c d,p1 a b c d/\p2 a b c d/\p3 a b c d)(k:∀a b c d,p1 a b c d->p2 a b c d->p3 a b c d->C):C:=let⟨a,b,c,d,h⟩:=h;k a b c d h.1 h.2.1 h.2.2
set_option maxHeartbeats 8000000
set_option hygiene false in
local macro_rules | `(tactic|injections $e:ident) => `(tactic|first|exact ad $e|exact av $e|(obtain rfl:=Option.some.inj $e;clear $e)|(obtain⟨rfl,rfl⟩:=Prod.mk.inj (Option.some.inj $e);clear $e)|cases $e:ident)
set_option hygiene false in
local macro_rules | `(tactic|omega)=>do
 let mut t <- `(tactic|fail)
 for i in [0:241]do
  t <- `(tactic|first|(apply $(Lean.mkIdent (.str `Mine s!"o{240-i}"));solve_by_elim* -symm -exfalso (transparency := .instances) only[*,tt])| $t:tactic)
 `(tactic|first|with_reducible first|assumption|rfl|decide|((fail_if_success (with_reducible refine oz ?_));(fail_if_success (with_reducible refine oy ?_));with_reducible_and_instances $t:tactic)|lia|omega (config:={}))
section
open PySem PySem.W PySem.Calls PyProof.Rows
section
variable {p:Program} {w:World} {n₀:Nat} {ann:Option Value} {q:Pos}
theorem gZ{tb:String->Option Builtin}:∀{n N:Nat} {s s':Shared} {t t':Thread} {r:Shared×Thread},topGo tb p w n₀ ann n s t=some (s',t') ->
 topGo tb p w n₀ ann N s' t'=some r->topGo tb p w n₀ ann (n+N) s t=some r
 |0,N,s,s',t,t',r,h,k=>by
  obtain⟨rfl,rfl⟩:s=s'/\t=t':=by simpa[topGo]using h
  rw[Nat.zero_add];exact k
 |n+1,N,s,s',t,t',r,h,k=>by
  rw[show n+1+N=n+N+1 by omega];unfold topGo at h |-;cases he:through t with
  |true=>rw[he]at h;injections h
  |false=>
   rw[he]at h;cases hk:stepOk n₀ ann t with
   |false=>rw[hk]at h;injections h
   |true=>
    rw[hk]at h;cases hs:step (denote tb) p w s t with
    |halt o s₂=>rw[hs]at h;injections h
    |go s₂ t₂=>rw[hs]at h;exact gZ h k
noncomputable def ae(p:Program)(w:World)(n₀:Nat)(ann:Option Value)(q:Pos){α:Type}(n:Nat)(m:Sem α)(s:Shared)(a:α)(s':Shared):Prop:=
 ∀(K:α->Sem Fin) (H:Value->Sem Fin) (gd:Bool->Bool) (lv:List Value->List Value) (c:Code) (ps:Pos),
  ∃ps',topGo treeTable p w n₀ ann n s ⟨m.wrap K H gd lv,c,ps,[topFrame q]⟩=some (s',⟨K a,c,ps',[topFrame q]⟩)
variable {α β:Type} {s s₁ s₂ s':Shared} {n n₁ n₂:Nat}
theorem ae.pure(a:α)(s:Shared):ae p w n₀ ann q 0 (pure a:Sem α) s a s:=λ_ _ _ _ _ ps=>⟨ps,rfl⟩
theorem ae.bind{m:Sem α}{f:α->Sem β}{a:α}{b:β}(h:ae p w n₀ ann q n₁ m s a s₁)(k:ae p w n₀ ann q n₂ (f a) s₁ b s₂):ae p w n₀ ann q (n₁+n₂) (m>>=f) s b s₂:=by
 intro K H gd lv c ps;obtain⟨ps₁,e₁⟩:=h (λa=>(f a).wrap K H gd lv) H gd lv c ps;obtain⟨ps₂,e₂⟩:=k K H gd lv c ps₁;refine⟨ps₂, ?_⟩;rw[show(m>>=f)=m.bind f from rfl,Sem.bind_eq_wrap,Sem.wrap_wrap];exact gZ e₁ e₂
theorem ae.keep{m:Sem α}{a:α}(vs:List Value)(h:ae p w n₀ ann q n m s a s'):ae p w n₀ ann q n (m.keep vs) s a s':=by
 intro K H gd lv c ps;rw[Sem.keep_eq_wrap,Sem.wrap_wrap];exact h K H (λg=>gd (id g)) (λl=>lv (vs++l)) c ps
theorem ae.holding{m:Sem α}{a:α}(vs:List Value)(h:ae p w n₀ ann q n m s a s'):ae p w n₀ ann q n (PySem.holding vs m) s a s':=by
 unfold PySem.holding
 split
 ·exact h
 ·exact h.keep _
theorem ae.tryCatch{m:Sem α}{a:α}(f:Value->Sem α)(h:ae p w n₀ ann q n m s a s'):ae p w n₀ ann q n (MonadExcept.tryCatch m f) s a s':=by
 intro K H gd lv c ps;rw[show(MonadExcept.tryCatch m f:Sem α)=Sem.tryCatch m f from rfl,Sem.tryCatch_eq_wrap,Sem.wrap_wrap];exact h K (λe=>(f e).wrap K H gd lv) (λ_=>gd true) (λl=>lv (id l)) c ps
theorem ae.onRaise{m:Sem α}{a:α}(f:Value->Sem Unit)(h:ae p w n₀ ann q n m s a s'):ae p w n₀ ann q n (m.onRaise f) s a s':=by
 intro K H gd lv c ps;rw[Sem.onRaise_eq_wrap,Sem.wrap_wrap];exact h K (λe=>((f e).bind λ_=>(.raise e:Sem α)).wrap K H gd lv) (λg=>gd (id g)) (λl=>lv (id l)) c ps
theorem cI{t t':Thread}(h1:through t=false)(h2:stepOk n₀ ann t=true)(h3:step (denote treeTable) p w s t = .go s' t'):topGo treeTable p w n₀ ann 1 s t=some (s',t'):=by
 unfold topGo;rw[h1];dsimp only;rw[h2];dsimp only;rw[h3]
 rfl
theorem ae.rule(tag:String)(s:Shared):ae p w n₀ ann q 1 (PySem.rule tag) s () s:=λK H gd lv c ps=>⟨ps,cI rfl rfl rfl⟩
theorem ae.standAt(ps:Pos)(s:Shared):ae p w n₀ ann q 1 (PySem.standAt ps) s () s:=λK H gd lv c _=>⟨ps,cI rfl rfl rfl⟩
theorem ae.fresh(s:Shared):ae p w n₀ ann q 1 PySem.fresh s s.toks { s with toks:=s.toks+1 }:=λK H gd lv c ps=>⟨ps,cI rfl rfl rfl⟩
theorem ae.ask(s:Shared):ae p w n₀ ann q 1 PySem.ask s ⟨p,w.params⟩ s:=λK H gd lv c ps=>⟨ps,cI rfl rfl rfl⟩
theorem ae.alloc(o:Obj)(s:Shared):ae p w n₀ ann q 1 (PySem.alloc o) s s.heap.objs.size { s with heap:=s.heap.push o }:=λK H gd lv c ps=>⟨ps,cI rfl rfl rfl⟩
theorem ae.loadPart{a:Addr}{part:Option Value}{o:Obj}(h:s.heap.get? a=some o):ae p w n₀ ann q 1 (PySem.loadPart a part) s o s:=λK H gd lv c ps=>⟨ps,cI rfl rfl (by
 show(match s.heap.get? a with|some o=>Step.go _ _|none=>_)=_;rw[h];rfl)⟩
theorem ae.updatePart{a:Addr}{part:Option Value}{o:Obj}(f:Obj->Obj)(h:s.heap.get? a=some o)(hn:n₀<=a):ae p w n₀ ann q 1 (PySem.updatePart a part f) s () { s with heap:=s.heap.update a f }:=λK H gd lv c ps=>⟨ps,cI rfl (by
 show(true&&(Nat.ble n₀ a||a==mainNs||a==cStatics||ann==some (.ref a)))=true;rw[Nat.ble_eq_true_of_le hn];rfl) (by
 show(if(s.heap.get? a).isSome then Step.go _ _ else _)=_;rw[h];rfl)⟩
theorem ae.mkInt(i:Int)(s:Shared):ae p w n₀ ann q 1 (PySem.mkInt i) s (.int i s.toks) { s with toks:=s.toks+1 }:=
 ae.bind (f:=λt=>(Pure.pure (Value.int i t):Sem Value)) (ae.fresh s) (ae.pure _ _)
theorem ae.mkText(x:Str)(s:Shared):ae p w n₀ ann q 1 (PySem.mkText x) s (.str x s.toks) { s with toks:=s.toks+1 }:=
 ae.bind (f:=λt=>(Pure.pure (Value.str x t):Sem Value)) (ae.fresh s) (ae.pure _ _)
theorem ae.callInt {id:String} {args:List Value} {b:Builtin} {i:Int} (hl:id.startsWith "lifetime."=false) (hchk:checkBuiltinCall id ⟨args,[]⟩=(Pure.pure ():Sem Unit)) (hb:entryFor treeTable id=some b)
 (hrun:b ⟨args,[]⟩ = .fresh λt => .pure (.done (.ret (.int i t)))) (s:Shared):ae p w n₀ ann q 4 (call (.builtin id) args) s (.int i s.toks) { s with toks:=s.toks+1 }:=by
 intro K H gd lv c ps;refine⟨ps, ?_⟩;have d1:denote treeTable (.call (.builtin id) ⟨args,[]⟩) = .pure (.again (.builtin id ⟨args,[]⟩)):=by
  show(checkBuiltinCall id ⟨args,[]⟩>>=λ_=>again (.builtin id ⟨args,[]⟩):Sem PySem.Fin)=_;rw[hchk];rfl
 have d2:denote treeTable (.builtin id ⟨args,[]⟩) = .fresh λt => .pure (.done (.ret (.int i t))):=by
  show(match entryFor treeTable id with|some b=>b ⟨args,[]⟩|none=>_)=_;rw[hb];exact hrun
 refine gZ (n:=1) (N:=3) (cI (t':=⟨denote treeTable (.call (.builtin id) ⟨args,[]⟩), .call (.builtin id) ⟨args,[]⟩,ps,_::[topFrame q]⟩) rfl rfl rfl) ?_;rw[d1];refine gZ (n:=1) (N:=2) (cI (t':=⟨denote treeTable (.builtin id ⟨args,[]⟩), .builtin id ⟨args,[]⟩,ps,_::[topFrame q]⟩) rfl ?_ rfl) ?_
 ·show((!(id.startsWith "lifetime.")||_)&&true&&true&&true)=true
  rw[hl];rfl
 rw[d2];refine gZ (n:=1) (N:=1) (cI rfl rfl rfl) ?_;exact cI rfl rfl rfl
end
end
section
open PySem PySem.W PySem.Calls PyProof.Rows
section
variable {p:Program} {w:World} {n₀:Nat} {ann:Option Value} {q:Pos} {s s':Shared}
theorem i0(k:Int)(t:Tok):specialOf (.int k t) "__hash__"=(Pure.pure (some (.builtin "int.__hash__")):Sem (Option Value)):=by
 show typeLookup (.type "int") "__hash__"=_;exact slot_int_hash.lookup
theorem jG(k:Int)(t:Tok):checkBuiltinCall "int.__hash__" ⟨[.int k t],[]⟩=(Pure.pure ():Sem Unit):=by
 kernel_rfl
theorem qI:entryFor treeTable "int.__hash__"=some Builtin.«int.__hash__»:=by rw[<-table_eq_tree];exact entry_int_hash
#print axioms jG
theorem ae.hashInt(k:Int)(t:Tok)(s:Shared):ae p w n₀ ann q 5 (pyHash (.int k t)) s (PySem.hashInt k) { s with toks:=s.toks+1 }:=by
 have hr:=rawHash_range k;have hcall:ae p w n₀ ann q 5 (callSpecialIfBoundUnlessNone? (.int k t) "__hash__" (do PySem.rule "hash.unhashable";raiseError "TypeError" s!"unhashable type: '{← typeNameOf (.int k t)}'")) s (some (.int (rawHash k) s.toks)) { s with toks:=s.toks+1 }:=by
  refine ae.holding _ (ae.bind (n₁:=1) (n₂:=4) (a:=some (.builtin "int.__hash__",[.int k t])) (s₁:=s) ?_ ?_)
  ·unfold bindSpecialIfBound?
   rw[i0];have hb:ae p w n₀ ann q 0 (do return some (<-bindSpecial (.builtin "int.__hash__") (.int k t)):Sem (Option (Value×List Value))) s (some (.builtin "int.__hash__",[.int k t])) s:=by
    rw[slot_int_hash.bind];exact ae.pure _ _
   refine ae.bind (n₁:=0) (n₂:=1) (ae.pure _ _) ?_;refine ae.bind (n₁:=1) (n₂:=0) (ae.ask s) ?_;dsimp only
   split
   ·exact hb
   ·exact ae.tryCatch _ hb
  ·refine ae.bind (n₁:=4) (n₂:=0) (ae.callInt (i:=rawHash k) (by decide +kernel) (jG k t) qI ?_ s) (ae.pure _ _)
   rfl
 show ae p w n₀ ann q 5 (pyHashByItsType (.int k t)) s (PySem.hashInt k) { s with toks:=s.toks+1 };unfold pyHashByItsType;refine ae.bind (n₁:=0) (n₂:=5) (ae.pure _ _:ae p w n₀ ann q 0 (cRoomFor "hash" [.int k t]) s () s) ?_;rw[i0];refine ae.bind (n₁:=0) (n₂:=5) (ae.pure _ _) ?_;rw[beq_builtin_none];refine ae.bind (n₁:=0) (n₂:=5) (ae.pure _ _) ?_;refine ae.bind (n₁:=5) (n₂:=0) hcall ?_;show ae p w n₀ ann q 0 (if(decide (-(2:Int)^63<=rawHash k)&&decide (rawHash k<2^63))=true then _ else _) _ _ _;rw[if_pos (by rw[decide_eq_true hr.1,decide_eq_true hr.2];rfl)];exact ae.pure _ _
noncomputable def dO(es:Array DictEntry)(ep:Nat):Obj:={ cls := .type "dict",data := .dict es ep }
theorem sr{es:Array DictEntry}{h:Int}(hf:∀e∈es,e.hash≠h):placesWithHash es.size (λi=>es[i]?.map (·.hash)) h=[]:=by
 unfold placesWithHash;rw[List.filter_eq_nil_iff];intro i hi;have hi':i<es.size:=List.mem_range.mp hi;dsimp only;rw[Array.getElem?_eq_getElem hi']
 simpa using hf _ (Array.getElem_mem hi')
theorem ae.dictEntries{a:Addr}{part:Option Value}{es:Array DictEntry}{ep:Nat}(h:s.heap.get? a=some (dO es ep)):ae p w n₀ ann q 1 (PySem.dictEntries a part) s es s:=by
 unfold PySem.dictEntries;exact ae.bind (n₁:=1) (n₂:=0) (ae.loadPart h) (ae.pure _ _)
theorem ae.dictEpoch{a:Addr}{part:Option Value}{es:Array DictEntry}{ep:Nat}(h:s.heap.get? a=some (dO es ep)):ae p w n₀ ann q 1 (PySem.dictEpoch a part) s ep s:=by
 unfold PySem.dictEpoch;exact ae.bind (n₁:=1) (n₂:=0) (ae.loadPart h) (ae.pure _ _)
theorem ae.dictFindNone{a:Addr}{es:Array DictEntry}{ep:Nat}{k:Int}{t:Tok}{hh:Int}(h:s.heap.get? a=some (dO es ep))(hf:∀e∈es,e.hash≠hh):
 ae p w n₀ ann q 1 (PySem.dictFind a (.int k t) hh) s none s:=by
 unfold PySem.dictFind;refine ae.holding _ (ae.bind (n₁:=1) (n₂:=0) (ae.dictEntries h) ?_);dsimp only;rw[sr hf];exact ae.pure _ _
theorem Az{h:Heap}{a:Addr}{o:Obj}(f:Obj->Obj)(e:h.get? a=some o)(hn:(f o).isFreed=false):(h.update a f).get? a=some (f o):=Heap.get?_update_self _ e hn
theorem ae.updKeys{a:Addr}{part:Option Value}{es:Array DictEntry}{ep:Nat}(f:Array DictEntry->Array DictEntry)(h:s.heap.get? a=some (dO es ep))(hn:n₀<=a)(hz:(f es).size<=sizeLine):
 ae p w n₀ ann q 3 (PySem.updateDictKeys a f part) s () { s with heap:=s.heap.update a (Obj.mapDictKeys f) }:=by
 unfold PySem.updateDictKeys;refine ae.bind (n₁:=1) (n₂:=2) (ae.loadPart h) ?_;show ae p w n₀ ann q 2 (PySem.updatePart a part (Obj.mapDictKeys f)>>=λ_=>lookBehind a part) s () _;refine ae.bind (n₁:=1) (n₂:=1) (ae.updatePart _ h hn) ?_;unfold lookBehind;refine ae.bind (n₁:=1) (n₂:=0) (ae.loadPart (o:=dO (f es) (ep+1)) (Az _ h rfl)) ?_;have:(dO (f es) (ep+1)).data.pastItsLine=none:=by
  show(if(f es).size>sizeLine+1 then some "dict:memory" else none)=none;rw[if_neg ⋯]
 rw[this];exact ae.pure _ _
theorem ae.setHashed{a:Addr}{es:Array DictEntry}{ep:Nat}{k:Int}{t:Tok}{hh:Int}(v:Value)(h:s.heap.get? a=some (dO es ep))(hf:∀e∈es,e.hash≠hh)(hn:n₀<=a)(hz:es.size<sizeLine):
 ae p w n₀ ann q 5 (PySem.dictSetHashed a (.int k t) hh v) s () { s with heap:=s.heap.update a (Obj.mapDictKeys (·.push ⟨hh, .int k t,v⟩)) }:=by
 unfold PySem.dictSetHashed;refine ae.holding _ (ae.bind (n₁:=1) (n₂:=4) (ae.dictFindNone h hf) ?_);show ae p w n₀ ann q 4 (PySem.rule _>>=λ_=>updateDictKeys a _ _) s () _;exact ae.bind (n₁:=1) (n₂:=3) (ae.rule _ _) (ae.updKeys _ h hn (by rw[Array.size_push];exact hz))
theorem ae.dictSet{a:Addr}{es:Array DictEntry}{ep:Nat}{k:Int}{t:Tok}(v:Value)(h:s.heap.get? a=some (dO es ep))(hf:∀e∈es,e.hash≠PySem.hashInt k)(hn:n₀<=a)(hz:es.size<sizeLine):
 ae p w n₀ ann q 10 (PySem.dictSet a (.int k t) v) s () { s with heap:=s.heap.update a (Obj.mapDictKeys (·.push ⟨PySem.hashInt k, .int k t,v⟩)),toks:=s.toks+1 }:=by
 unfold PySem.dictSet;refine ae.holding _ (ae.bind (n₁:=5) (n₂:=5) (ae.hashInt k t s) ?_);exact ae.setHashed (s:={ s with toks:=s.toks+1 }) v h hf hn hz
theorem ae.dictPut{a:Addr}{es:Array DictEntry}{ep:Nat}{k:Int}{t:Tok}{hh:Int}(v:Value)(h:s.heap.get? a=some (dO es ep))(hf:∀e∈es,e.hash≠hh)(hn:n₀<=a)(hz:es.size<sizeLine):
 ae p w n₀ ann q 4 (PySem.dictPut a hh (.int k t) v) s () { s with heap:=s.heap.update a (Obj.mapDictKeys (·.push ⟨hh, .int k t,v⟩)) }:=by
 unfold PySem.dictPut;exact ae.bind (n₁:=1) (n₂:=3) (ae.dictFindNone h hf) (ae.updKeys _ h hn (by rw[Array.size_push];exact hz))
end
end
section
open PySem PySem.W PySem.Calls PyProof.Rows
section
noncomputable def hp(H:Heap)(m:Obj)(subs:List Obj):Heap:=⟨H.objs++(m::subs).toArray,H.life⟩
theorem l9(H:Heap)(m:Obj):H.push m=hp H m []:=by
 unfold hp Heap.push
 congr 1
theorem qJ(H:Heap)(m o:Obj)(subs:List Obj):(hp H m subs).push o=hp H m (subs++[o]):=by
 unfold hp Heap.push
 congr 1
 simp
theorem vW(H:Heap)(m:Obj)(subs:List Obj):(hp H m subs).objs.size=H.objs.size+1+subs.length:=by
 simp[hp];omega
theorem kx{h:Heap}{a:Addr}{o:Obj}(e:h.objs[a]? = some o)(hf:o.isFreed=false):h.get? a=some o:=by
 unfold Heap.get?;rw[e];obtain⟨c,d,dt,sl⟩:=o;cases dt<;>first|rfl|(injections hf)
theorem g6(H:Heap)(m:Obj)(subs:List Obj)(hf:m.isFreed=false):(hp H m subs).get? H.objs.size=some m:=by
 refine kx ?_ hf;simp[hp]
theorem g7(H:Heap)(m o:Obj)(subs:List Obj)(hf:o.isFreed=false):(hp H m (subs++[o])).get? (H.objs.size+1+subs.length)=some o:=by
 refine kx ?_ hf;simp only[hp];rw[Array.getElem?_append_right ⋯];have:H.objs.size+1+subs.length-H.objs.size=subs.length+1:=⋯;rw[this];simp
theorem lh(H:Heap)(m:Obj)(subs:List Obj)(f:Obj->Obj):(hp H m subs).update H.objs.size f=hp H (f m) subs:=by
 refine(congrArg (Heap.mk · H.life) ?_ : Heap.mk _ _=Heap.mk _ _);apply Array.ext_getElem?;intro i;rw[Array.getElem?_modify]
 by_cases h:i<H.objs.size
 ·rw[Array.getElem?_append_left h,Array.getElem?_append_left h,if_neg ⋯]
 ·rw[Array.getElem?_append_right ⋯,Array.getElem?_append_right ⋯]
  by_cases e:H.objs.size=i
  ·subst e;simp
  ·rw[if_neg e]
   obtain⟨j,hj⟩:∃j,i-H.objs.size=j+1:=⟨i-H.objs.size-1,⋯⟩;rw[hj];simp
theorem i4(H:Heap)(o:Obj)(f:Obj->Obj):(H.push o).update H.objs.size f=H.push (f o):=by
 rw[l9,l9,lh]
theorem i5(H:Heap)(o:Obj)(hf:o.isFreed=false):(H.push o).get? H.objs.size=some o:=by
 rw[l9,g6 _ _ _ hf]
noncomputable def yc(e:DictEntry)(kv:Int×Str):Prop:=e.hash=PySem.hashInt kv.1/\(∃t,e.key = .int kv.1 t)/\∃t,e.val = .str kv.2 t
noncomputable def bk:List DictEntry->List (Int×Str)->Prop
 |[],[]=>True
 |e::es,x::xs=>yc e x/\bk es xs
 |_,_=>False
theorem bk.append:∀{es:List DictEntry} {L:List (Int×Str)} {fs:List DictEntry} {M:List (Int×Str)},bk es L->bk fs M->bk (es++fs) (L++M)
 |[],[],_,_,_,h=>h
 |_::_,_::_,_,_,h,k=>⟨h.1,bk.append h.2 k⟩
 |[],_::_,_,_,h,_=>h.elim
 |_::_,[],_,_,h,_=>h.elim
theorem bk.length:∀{es:List DictEntry} {L:List (Int×Str)},bk es L->es.length=L.length
 |[],[],_=>rfl
 |_::_,_::_,h=>by rw[List.length_cons,List.length_cons,bk.length h.2]
 |[],_::_,h=>h.elim
 |_::_,[],h=>h.elim
theorem bk.fresh{k:Int}:∀{es:List DictEntry} {L:List (Int×Str)},bk es L->(∀kv∈L,PySem.hashInt kv.1≠PySem.hashInt k)->∀e∈es,e.hash≠PySem.hashInt k
 |[],_,_,_,e,he=>nomatch he
 |f::es,x::L,h,hk,e,he=>by
  rcases List.mem_cons.mp he with rfl|he
  ·rw[h.1.1];exact hk _ (.head _)
  ·exact bk.fresh h.2 (λkv q=>hk kv (.tail _ q)) e he
 |_::_,[],h,_,_,_=>h.elim
theorem bk.get:∀{es:List DictEntry} {L:List (Int×Str)} {i:Nat} {x:Int×Str},bk es L->L[i]? = some x->∃e,es[i]? = some e/\yc e x
 |e::_,y::_,0,x,h,g=>⟨e,rfl,by simp at g;exact g▸h.1⟩
 |_::_,_::_,i+1,x,h,g=>by
  simp only[List.getElem?_cons_succ]at g |-;exact bk.get h.2 g
 |[],_::_,_,_,h,_=>h.elim
 |_::_,[],_,_,h,_=>h.elim
 |[],[],_,_,_,g=>by simp at g
noncomputable def bB(es:Array DictEntry)(L:List (Int×Str)):Prop:=bk es.toList L
theorem bB.nil:bB #[] []:=trivial
theorem bB.push{es:Array DictEntry}{L:List (Int×Str)}(h:bB es L)(k:Int)(v:Str)(t u:Tok):bB (es.push ⟨PySem.hashInt k, .int k t, .str v u⟩) (L++[(k,v)]):=by
 unfold bB at h |-;rw[Array.toList_push];exact h.append ⟨⟨rfl,⟨_,rfl⟩,⟨_,rfl⟩⟩,trivial⟩
theorem bB.pushE{es:Array DictEntry}{L:List (Int×Str)}(h:bB es L){e:DictEntry}{x:Int×Str}(r:yc e x):bB (es.push e) (L++[x]):=by
 unfold bB at h |-;rw[Array.toList_push];exact h.append ⟨r,trivial⟩
theorem bB.size{es:Array DictEntry}{L:List (Int×Str)}(h:bB es L):es.size=L.length:=by
 have:=bk.length h
 simpa using this
theorem bB.fresh{es:Array DictEntry}{L:List (Int×Str)}(h:bB es L){k:Int}(hk:∀kv∈L,PySem.hashInt kv.1≠PySem.hashInt k):∀e∈es,e.hash≠PySem.hashInt k:=
 λe he=>bk.fresh h hk e (Array.mem_toList_iff.mpr he)
noncomputable def eO(L:List (Int×Str)):Prop:=L.Pairwise λa b=>PySem.hashInt a.1≠PySem.hashInt b.1
theorem eO.mid{L M:List (Int×Str)}{x:Int×Str}(h:eO (L++x::M)):∀kv∈L,PySem.hashInt kv.1≠PySem.hashInt x.1:=λkv hk=>
 (List.pairwise_append.mp h).2.2 kv hk x (.head _)
end
section
variable {p:Program} {w:World} {n₀:Nat} {ann:Option Value} {q:Pos} {s s':Shared}
theorem ae.forIn_nil{α β:Type}(f:α->β->Sem (ForInStep β))(b:β):ae p w n₀ ann q 0 (forIn ([]:List α) b f) s b s:=by
 rw[List.forIn_nil];exact ae.pure _ _
theorem ae.forIn_cons{α β:Type}{f:α->β->Sem (ForInStep β)}{x:α}{l:List α}{b b₁ b₂:β}{n m:Nat}{s₁ s₂:Shared}(h:ae p w n₀ ann q n (f x b) s (.yield b₁) s₁)(k:ae p w n₀ ann q m (forIn l b₁ f) s₁ b₂ s₂):
 ae p w n₀ ann q (n+m) (forIn (x::l) b f) s b₂ s₂:=by
 rw[List.forIn_cons];exact ae.bind h k
noncomputable def pr(ps:Pos)(kv:Int×Str):Sem Value×Sem Value:=(PySem.mkInt kv.1,do let x <-PySem.mkText kv.2;PySem.standAt ps;Pure.pure x)
theorem ae.val(ps:Pos)(x:Str)(s:Shared):ae p w n₀ ann q 2 (do let x <-PySem.mkText x;PySem.standAt ps;Pure.pure x:Sem Value) s (.str x s.toks) { s with toks:=s.toks+1 }:=
 ae.bind (n₁:=1) (n₂:=1) (ae.mkText x s) (ae.bind (n₁:=1) (n₂:=0) (ae.standAt ps _) (ae.pure _ _))
theorem su{ps:Pos}{H:Heap}(hn:n₀<=H.objs.size):∀(M:List (Int×Str)) {L:List (Int×Str)} {es:Array DictEntry} {ep T:Nat},bB es L->eO (L++M)->(L++M).length<=1000 ->
 ∃es' ep' T',bB es' (L++M)/\ae p w n₀ ann q (13*M.length) (forIn (M.map (pr ps)) PUnit.unit λx (_:PUnit)=>(do
   let kv <-x.1;let vv <-PySem.holding [kv] x.2
   PySem.holding [kv,vv] (PySem.dictSet H.objs.size kv vv)
   Pure.pure (ForInStep.yield PUnit.unit):Sem (ForInStep PUnit))) { s with heap:=H.push (dO es ep),toks:=T } PUnit.unit { s with heap:=H.push (dO es' ep'),toks:=T' }
 |[],L,es,ep,T,h,_,_=>⟨es,ep,T,by simpa using h,ae.forIn_nil _ _⟩
 |x::M,L,es,ep,T,h,ha,hl=>by
  obtain⟨es',ep',T',h',g'⟩:=su hn M (L:=L++[x]) (es:=es.push ⟨PySem.hashInt x.1, .int x.1 T, .str x.2 (T+1)⟩) (ep:=ep+1) (T:=T+3) (h.push x.1 x.2 T (T+1)) (by simpa using ha) (by simpa using hl);refine⟨es',ep',T',by simpa using h', ?_⟩;rw[show 13*(x::M).length=13+13*M.length by rw[List.length_cons];omega,List.map_cons];refine ae.forIn_cons (n:=13) ?_ g';refine ae.bind (n₁:=1) (n₂:=12) (ae.mkInt x.1 _) ?_;refine ae.bind (n₁:=2) (n₂:=10) (ae.holding _ (ae.val ps x.2 _)) ?_;refine ae.bind (n₁:=10) (n₂:=0) (a:=()) (s₁:={ s with heap:=H.push (dO (es.push ⟨PySem.hashInt x.1, .int x.1 T, .str x.2 (T+1)⟩) (ep+1)),toks:=T+3 }) (ae.holding _ ?_) (ae.pure _ _)
  have g:=ae.dictSet (p:=p) (w:=w) (n₀:=n₀) (ann:=ann) (q:=q) (s:={ s with heap:=H.push (dO es ep),toks:=T+1+1 }) (a:=H.objs.size) (es:=es) (ep:=ep) (k:=x.1) (t:=T) (.str x.2 (T+1)) (i5 _ _ rfl) (h.fresh ha.mid) hn (by rw[h.size,sizeLine_eq];simp at hl;omega);rw[i4]at g;exact g
theorem AA{ps:Pos}{M:List (Int×Str)}(hn:n₀<=s.heap.objs.size)(hl:15<M.length)(hm:M.length<=1000)(ha:eO M):
 ∃es ep T,bB es M/\ae p w n₀ ann q (13*M.length+2) (subDict (M.map (pr ps))) s s.heap.objs.size { s with heap:=s.heap.push (dO es ep),toks:=T }:=by
 obtain⟨es,ep,T,h,g⟩:=su (s:=s) (p:=p) (w:=w) (ann:=ann) (q:=q) (ps:=ps) hn M (L:=[]) (ep:=0) (T:=s.toks) bB.nil (by simpa using ha) (by simpa using hm);refine⟨es,ep,T,by simpa using h, ?_⟩;unfold subDict;rw[show 13*M.length+2=1+(1+13*M.length)by omega];refine ae.bind (n₁:=1) (ae.alloc _ _) ?_;refine ae.bind (n₁:=1+13*M.length) (n₂:=0) (a:=()) (s₁:={ s with heap:=s.heap.push (dO es ep),toks:=T }) (ae.holding _ ?_) (ae.pure _ _);rw[if_neg (by rw[List.length_map];omega)];exact ae.bind (n₁:=1) (n₂:=13*M.length) (ae.rule _ _) (ae.bind (n₁:=13*M.length) (n₂:=0) g (ae.pure _ _))
noncomputable def FX(kv:Int×Str)(t u:Tok):Value×Value:=(.int kv.1 t, .str kv.2 u)
noncomputable def yd:List (Value×Value)->List (Int×Str)->Prop
 |[],[]=>True
 |v::vs,x::xs=>(∃t u,v=FX x t u)/\yd vs xs
 |_,_=>False
theorem sv{ps:Pos}:∀(M:List (Int×Str)) (s:Shared),∃vs T,yd vs M/\ae p w n₀ ann q (3*M.length) (evalPairs (M.map (pr ps))) s vs { s with toks:=T }
 |[],s=>⟨[],s.toks,trivial,ae.pure _ _⟩
 |x::M,s=>by
  obtain⟨vs,T,h,g⟩:=sv M { s with toks:=s.toks+2 };refine⟨FX x s.toks (s.toks+1)::vs,T,⟨⟨_,_,rfl⟩,h⟩, ?_⟩;rw[show 3*(x::M).length=1+(2+(3*M.length+0))by rw[List.length_cons];omega,List.map_cons];unfold evalPairs;refine ae.bind (n₁:=1) (ae.mkInt x.1 _) ?_;refine ae.bind (n₁:=2) (ae.holding _ (ae.val ps x.2 _)) ?_;exact ae.bind (n₁:=3*M.length) (n₂:=0) (a:=vs) (ae.holding _ g) (ae.pure _ _)
theorem pq{H:Heap}(hn:n₀<=H.objs.size):∀(vs:List (Value×Value)) (M:List (Int×Str)) {L:List (Int×Str)} {es:Array DictEntry} {ep T:Nat},yd vs M->bB es L->eO (L++M)->(L++M).length<=1000 ->
 ∃es' ep' T',bB es' (L++M)/\ae p w n₀ ann q (10*M.length) (forIn vs PUnit.unit λx (_:PUnit)=>(do
   PySem.dictSet H.objs.size x.1 x.2
   Pure.pure (ForInStep.yield PUnit.unit):Sem (ForInStep PUnit))) { s with heap:=H.push (dO es ep),toks:=T } PUnit.unit { s with heap:=H.push (dO es' ep'),toks:=T' }
 |[],[],L,es,ep,T,_,h,_,_=>⟨es,ep,T,by simpa using h,ae.forIn_nil _ _⟩
 |[],_::_,_,_,_,_,hv,_,_,_=>hv.elim
 |_::_,[],_,_,_,_,hv,_,_,_=>hv.elim
 |v::vs,x::M,L,es,ep,T,hv,h,ha,hl=>by
  obtain⟨⟨t,u,rfl⟩,hv⟩:=hv;obtain⟨es',ep',T',h',g'⟩:=pq hn vs M (L:=L++[x]) (es:=es.push ⟨PySem.hashInt x.1, .int x.1 t, .str x.2 u⟩) (ep:=ep+1) (T:=T+1) hv (h.push x.1 x.2 t u) (by simpa using ha) (by simpa using hl);refine⟨es',ep',T',by simpa using h', ?_⟩;rw[show 10*(x::M).length=10+10*M.length by rw[List.length_cons];omega];refine ae.forIn_cons (n:=10) ?_ g';refine ae.bind (n₁:=10) (n₂:=0) (a:=()) (s₁:={ s with heap:=H.push (dO (es.push ⟨PySem.hashInt x.1, .int x.1 t, .str x.2 u⟩) (ep+1)),toks:=T+1 }) ?_ (ae.pure _ _);have g:=ae.dictSet (p:=p) (w:=w) (n₀:=n₀) (ann:=ann) (q:=q) (s:={ s with heap:=H.push (dO es ep),toks:=T }) (a:=H.objs.size) (es:=es) (ep:=ep) (k:=x.1) (t:=t) (.str x.2 u) (i5 _ _ rfl) (h.fresh ha.mid) hn (by rw[h.size,sizeLine_eq];simp at hl;omega)
  rw[i4]at g;exact g
theorem ye{ps:Pos}{M:List (Int×Str)}(hn:n₀<=s.heap.objs.size)(hl:M.length<=15)(ha:eO M):
 ∃es ep T,bB es M/\ae p w n₀ ann q (13*M.length+1) (subDict (M.map (pr ps))) s s.heap.objs.size { s with heap:=s.heap.push (dO es ep),toks:=T }:=by
 obtain⟨vs,T₁,hv,g₁⟩:=sv (p:=p) (w:=w) (n₀:=n₀) (ann:=ann) (q:=q) (ps:=ps) M { s with heap:=s.heap.push (dO #[] 0) };obtain⟨es,ep,T,h,g⟩:=pq (s:=s) (p:=p) (w:=w) (ann:=ann) (q:=q) hn vs M (L:=[]) (ep:=0) (T:=T₁) hv bB.nil (by simpa using ha) (by simp;omega);refine⟨es,ep,T,by simpa using h, ?_⟩;unfold subDict;rw[show 13*M.length+1=1+(3*M.length+10*M.length)by omega];refine ae.bind (n₁:=1) (ae.alloc _ _) ?_;refine ae.bind (n₁:=3*M.length+10*M.length) (n₂:=0) (a:=()) (s₁:={ s with heap:=s.heap.push (dO es ep),toks:=T }) (ae.holding _ ?_) (ae.pure _ _);rw[if_pos (by rw[List.length_map];omega)];refine ae.bind (n₁:=3*M.length) (n₂:=10*M.length) g₁ (ae.holding _ ?_)
 exact ae.bind (n₁:=10*M.length) (n₂:=0) g (ae.pure _ _)
theorem qK:typeLookup (.type "dict") "__iter__"=(Pure.pure (some (.builtin "dict.__iter__")):Sem (Option Value)):=∅
theorem oW:isSubtype (.type "dict") (.type "dict")=(Pure.pure true:Sem Bool):=∅
theorem ae.isDict{a:Addr}{es:Array DictEntry}{ep:Nat}(h:s.heap.get? a=some (dO es ep)):ae p w n₀ ann q 1 (isInstance (.ref a) (.type "dict")) s true s:=by
 unfold isInstance;refine ae.bind (n₁:=1) (n₂:=0) (a := .type "dict") (s₁:=s) (ae.bind (n₁:=1) (n₂:=0) (ae.loadPart h) (ae.pure _ _)) ?_;rw[oW];exact ae.pure _ _
theorem ae.dictIter{a:Addr}{es:Array DictEntry}{ep:Nat}(h:s.heap.get? a=some (dO es ep)):ae p w n₀ ann q 1 (specialOf (.ref a) "__iter__") s (some (.builtin "dict.__iter__")) s:=by
 unfold specialOf;refine ae.bind (n₁:=1) (n₂:=0) (a := .type "dict") (s₁:=s) (ae.bind (n₁:=1) (n₂:=0) (ae.loadPart h) (ae.pure _ _)) ?_;rw[qK];exact ae.pure _ _
end
end
section
open PySem PySem.W PySem.Calls PyProof.Rows
section
variable {p:Program} {w:World} {n₀:Nat} {ann:Option Value} {q:Pos} {s s':Shared}
theorem pu {H:Heap} (hn:n₀<=H.objs.size) {fs:Array DictEntry} {fp:Nat} {subs:List Obj} {M:List (Int×Str)} (hM:bB fs M) {f:Nat->PUnit->Sem (ForInStep PUnit)}
 (hf:∀(i:Nat) (e:DictEntry) (u:PUnit),fs[i]? = some e->f i u=(do
   let es <-dictEntries (H.objs.size+1+subs.length)
   match es[i]? with
   |some e=>do
    holding [e.key,e.val] (dictPut H.objs.size e.hash e.key e.val)
    let ep <-dictEpoch (H.objs.size+1+subs.length)
    if(ep !=fp)=true then do
     unsupported "dict.changed-during-merge"
     Pure.pure (ForInStep.yield PUnit.unit)
    else Pure.pure (ForInStep.yield PUnit.unit)
   |_=>do
    unsupported "dict.changed-during-merge"
    Pure.pure (ForInStep.yield PUnit.unit))):
 ∀(m i:Nat) {L:List (Int×Str)} {es:Array DictEntry} {ep:Nat},i+m=M.length->bB es (L++M.take i)->eO (L++M)->(L++M).length<=1000 ->
 ∃es' ep',bB es' (L++M)/\ae p w n₀ ann q (6*m) (forIn (List.range' i m) PUnit.unit f) { s with heap:=hp H (dO es ep) (subs++[dO fs fp]) } PUnit.unit { s with heap:=hp H (dO es' ep') (subs++[dO fs fp]) }
 |0,i,L,es,ep,hi,h,_,_=>⟨es,ep,by rw[List.take_of_length_le ⋯]at h;exact h,ae.forIn_nil _ _⟩
 |m+1,i,L,es,ep,hi,h,ha,hl=>by
  have hlt:i<M.length:=⋯;have hx:M[i]? = some M[i]:=List.getElem?_eq_getElem hlt;obtain⟨e,he,hr⟩:=bk.get hM hx;have he':fs[i]? = some e:=by rw[<-Array.getElem?_toList];exact he
  have hr':=hr;obtain⟨h1,⟨t,h2⟩,⟨u,h3⟩⟩:=hr';have hs:M=M.take i++M[i]::M.drop (i+1):=by
   rw[List.getElem_cons_drop,List.take_append_drop]
  have ht:M.take (i+1)=M.take i++[M[i]]:=by rw[List.take_add_one,hx];rfl
  obtain⟨es',ep',h',g'⟩:=pu hn hM hf m (i+1) (L:=L) (es:=es.push e) (ep:=ep+1) ⋯ (by rw[ht,<-List.append_assoc];exact h.pushE hr) ha hl;refine⟨es',ep',h', ?_⟩;rw[show 6*(m+1)=6+6*m by omega,List.range'_succ];refine ae.forIn_cons (n:=6) ?_ g';rw[hf i e _ he'];refine ae.bind (n₁:=1) (n₂:=5) (ae.dictEntries (g7 H _ _ subs rfl)) ?_;rw[he'];have hfr:∀d∈es,d.hash≠e.hash:=by
   rw[h1];refine h.fresh ?_;have:L++M=(L++M.take i)++M[i]::M.drop (i+1):=by rw[List.append_assoc,<-hs]
   rw[this]at ha;exact ha.mid
  have hsz:es.size<sizeLine:=by
   rw[h.size,sizeLine_eq];rw[List.length_append,List.length_take]at *
   omega
  have g:=ae.dictPut (p:=p) (w:=w) (n₀:=n₀) (ann:=ann) (q:=q) (s:={ s with heap:=hp H (dO es ep) (subs++[dO fs fp]) }) (a:=H.objs.size) (es:=es) (ep:=ep) (k:=M[i].1) (t:=t) (hh:=e.hash) e.val (g6 _ _ _ rfl) hfr hn hsz;rw[lh]at g;rw[<-h2]at g;refine ae.bind (n₁:=4) (n₂:=1) (ae.holding _ g) ?_;refine ae.bind (n₁:=1) (n₂:=0) (ae.dictEpoch (g7 H _ _ subs rfl)) ?_;rw[if_neg (by simp)];exact ae.pure _ _
theorem Cq{H:Heap}(hn:n₀<=H.objs.size)(hm:sysModules<H.objs.size){fs:Array DictEntry}{fp:Nat}{subs:List Obj}{L M:List (Int×Str)}{es:Array DictEntry}{ep:Nat}(hM:bB fs M)(hL:bB es L)(hne:L≠[])(ha:eO (L++M))(hl:(L++M).length<=1000):
 ∃es' ep',bB es' (L++M)/\ae p w n₀ ann q (6*M.length+5) (mergeMapping H.objs.size (.ref (H.objs.size+1+subs.length)) false) { s with heap:=hp H (dO es ep) (subs++[dO fs fp]) } () { s with heap:=hp H (dO es' ep') (subs++[dO fs fp]) }:=by
 have key:=λf hf=>pu (s:=s) (p:=p) (w:=w) (ann:=ann) (q:=q) (f:=f) hn (fp:=fp) (subs:=subs) hM hf M.length 0 (L:=L) (es:=es) (ep:=ep) ⋯ (by simpa using hL) ha hl
 obtain⟨es',ep',h',g⟩:=key (λi _=>do
  let es <-dictEntries (H.objs.size+1+subs.length)
  match es[i]? with
  |some e=>do
   holding [e.key,e.val] (dictPut H.objs.size e.hash e.key e.val)
   let ep <-dictEpoch (H.objs.size+1+subs.length)
   if(ep !=fp)=true then do
    unsupported "dict.changed-during-merge"
    Pure.pure (ForInStep.yield PUnit.unit)
   else Pure.pure (ForInStep.yield PUnit.unit)
  |_=>do
   unsupported "dict.changed-during-merge"
   Pure.pure (ForInStep.yield PUnit.unit)) (λ_ _ _ _=>rfl)
 refine⟨es',ep',h', ?_⟩;have hgl:=g7 H (dO es ep) (dO fs fp) subs rfl;have hgm:=g6 H (dO es ep) (subs++[dO fs fp]) rfl;unfold mergeMapping;rw[show 6*M.length+5=1+(1+(1+(1+(1+6*M.length))))by omega];refine ae.bind (n₁:=1) (ae.isDict hgl) ?_;rw[if_pos rfl];refine ae.bind (n₁:=1) (ae.dictIter hgl) ?_;have hp1:(some (Value.builtin "dict.__iter__")==some (.builtin "dict.__iter__"))=true:=by decide +kernel
 rw[hp1];have hs:(H.objs.size+1+subs.length==sysModules)=false:=by
  rw[beq_eq_false_iff_ne];exact Nat.ne_of_gt (Nat.lt_of_lt_of_le hm (Nat.le_trans (Nat.le_add_right _ 1) (Nat.le_add_right _ _)))
 dsimp only;rw[pure_bind];dsimp only;rw[hs];simp only[Bool.false_eq_true,if_false];refine ae.bind (n₁:=1) (ae.dictEntries hgm) ?_;have hem:es.isEmpty=false:=by
  rw[Array.isEmpty_eq_false_iff];intro q;have:=hL.size;rw[q]at this;exact hne (List.length_eq_zero_iff.mp this.symm)
 rw[hem];simp only[Bool.false_eq_true,if_false];refine ae.bind (n₁:=1) (ae.dictEntries hgl) ?_;refine ae.bind (n₁:=1) (ae.dictEpoch hgl) ?_;rw[hM.size,List.range_eq_range'];exact ae.bind (n₁:=6*M.length) (n₂:=0) g (ae.pure _ _)
end
end
section
open PySem PySem.W PySem.Calls PyProof.Rows
noncomputable def pv(run:List (Sem Value×Sem Value))(main:Option Addr):Sem (Option Addr):=
 if run.isEmpty=true then pure main else match main with
  |none=>do
   let d <-subDict run
   pure (some d)
  |some d=>do
   let sub <-holding [.ref d] (subDict run)
   (holding [.ref d, .ref sub] (mergeMapping d (.ref sub) false)).onRaise λx=>do
     let _ <-holding [.ref d,x] (runValue (.builtin "proto.let_go" {}))
     pure ()
   pure (some d)
section
variable {p:Program} {w:World} {n₀:Nat} {ann:Option Value} {q:Pos} {s s':Shared}
noncomputable def fC(r:Nat):Nat:=if r<=15 then 13*r+1 else 13*r+2
theorem yf{ps:Pos}{M:List (Int×Str)}(hn:n₀<=s.heap.objs.size)(hm:M.length<=1000)(ha:eO M):
 ∃es ep T,bB es M/\ae p w n₀ ann q (fC M.length) (subDict (M.map (pr ps))) s s.heap.objs.size { s with heap:=s.heap.push (dO es ep),toks:=T }:=by
 unfold fC
 by_cases h:M.length<=15
 ·rw[if_pos h];exact ye hn h ha
 ·rw[if_neg h];exact AA hn ⋯ hm ha
theorem Cr{ps:Pos}{M:List (Int×Str)}(hn:n₀<=s.heap.objs.size)(h0:M≠[])(hm:M.length<=1000)(ha:eO M):
 ∃es ep T,bB es M/\ae p w n₀ ann q (fC M.length) (pv (M.map (pr ps)) none) s (some s.heap.objs.size) { s with heap:=hp s.heap (dO es ep) [],toks:=T }:=by
 obtain⟨es,ep,T,h,g⟩:=yf (p:=p) (w:=w) (ann:=ann) (q:=q) (ps:=ps) hn hm ha;refine⟨es,ep,T,h, ?_⟩;unfold pv;rw[if_neg (by simpa using h0),<-l9];exact ae.bind (n₁:=fC M.length) (n₂:=0) g (ae.pure _ _)
theorem yg{ps:Pos}{H:Heap}{T:Nat}{subs:List Obj}{L M:List (Int×Str)}{es:Array DictEntry}{ep:Nat}(hn:n₀<=H.objs.size)(hsy:sysModules<H.objs.size)(h0:M≠[])(hL:bB es L)(hne:L≠[])(ha:eO (L++M))(hl:(L++M).length<=1000):
 ∃es' ep' o T',bB es' (L++M)/\ae p w n₀ ann q (fC M.length+(6*M.length+5)) (pv (M.map (pr ps)) (some H.objs.size)) { s with heap:=hp H (dO es ep) subs,toks:=T } (some H.objs.size) { s with heap:=hp H (dO es' ep') (subs++[o]),toks:=T' }:=by
 obtain⟨fs,fp,T',hM,g⟩:=yf (p:=p) (w:=w) (n₀:=n₀) (ann:=ann) (q:=q) (ps:=ps) (s:={ s with heap:=hp H (dO es ep) subs,toks:=T }) (M:=M)
  (by show n₀<=(hp H (dO es ep) subs).objs.size;rw[vW];exact Nat.le_trans hn (Nat.le_trans (Nat.le_add_right _ 1) (Nat.le_add_right _ _))) (by rw[List.length_append]at hl;omega) (List.pairwise_append.mp ha).2.1
 obtain⟨es',ep',h',g'⟩:=Cq (s:={ s with toks:=T' }) (p:=p) (w:=w) (ann:=ann) (q:=q) (subs:=subs) (ep:=ep) (fp:=fp) hn hsy hM hL hne ha hl;refine⟨es',ep',dO fs fp,T',h', ?_⟩;dsimp only at g;rw[vW,qJ]at g;unfold pv;rw[if_neg (by simpa using h0)];refine ae.bind (n₁:=fC M.length) (n₂:=6*M.length+5) (ae.holding _ g) ?_;exact ae.bind (n₁:=6*M.length+5) (n₂:=0) (a:=()) (ae.onRaise _ (ae.holding _ g')) (ae.pure _ _)
noncomputable def cB:Nat->Nat->Nat
 |_,0=>0
 |r,m+1=>if r+1=17 then fC 17+(6*17+5)+cB 0 m else cB (r+1) m
noncomputable def oB:Nat->Nat->Nat
 |_,0=>0
 |r,m+1=>if r+1=17 then 1+oB 0 m else oB (r+1) m
noncomputable def rB:Nat->Nat->Nat
 |r,0=>r
 |r,m+1=>if r+1=17 then rB 0 m else rB (r+1) m
theorem DW{r m:Nat}:cB r (m+1)=if r+1=17 then fC 17+(6*17+5)+cB 0 m else cB (r+1) m:=rfl
theorem DX{r m:Nat}:oB r (m+1)=if r+1=17 then 1+oB 0 m else oB (r+1) m:=rfl
theorem DY{r m:Nat}:rB r (m+1)=if r+1=17 then rB 0 m else rB (r+1) m:=rfl
noncomputable abbrev yh:=(Option (Sem Value)×Sem Value)->(Option Addr×List (Sem Value×Sem Value))->Sem (ForInStep (Option Addr×List (Sem Value×Sem Value)))
structure uB(f:yh):Prop where
 more:∀(x:Sem Value×Sem Value) main run,(run++[x]).length≠17->f (some x.1,x.2) (main,run)=pure (.yield (main,run++[x]))
 full:∀(x:Sem Value×Sem Value) main run,(run++[x]).length=17->f (some x.1,x.2) (main,run)=(do let m <-pv (run++[x]) main;pure (.yield (m,[])))
theorem yi{f:yh}(F:uB f){ps:Pos}{H:Heap}(hn:n₀<=H.objs.size)(hsy:sysModules<H.objs.size):∀(M R:List (Int×Str)) {T:Nat} {subs:List Obj} {L:List (Int×Str)} {es:Array DictEntry} {ep:Nat},
 R.length<17->bB es L->L≠[]->eO (L++R++M)->(L++R++M).length<=1000 ->
 ∃es' ep' L' R' more T',bB es' L'/\L'≠[]/\L'++R'=L++R++M/\R'.length=rB R.length M.length/\more.length=oB R.length M.length /\
  ae p w n₀ ann q (cB R.length M.length) (forIn ((M.map (pr ps)).map λx=>(some x.1,x.2)) (some H.objs.size,R.map (pr ps)) f) { s with heap:=hp H (dO es ep) subs,toks:=T } (some H.objs.size,R'.map (pr ps))
   { s with heap:=hp H (dO es' ep') (subs++more),toks:=T' }
 |[],R,T,subs,L,es,ep,hr,h,hne,ha,hl=>⟨es,ep,L,R,[],T,h,hne,by simp,rfl,rfl,by rw[List.append_nil];exact ae.forIn_nil _ _⟩
 |x::M,R,T,subs,L,es,ep,hr,h,hne,ha,hl=>by
  by_cases e:R.length+1=17
  ·obtain⟨es₁,ep₁,o,T₁,h₁,g₁⟩:=yg (s:=s) (p:=p) (w:=w) (ann:=ann) (q:=q) (ps:=ps) (T:=T) (subs:=subs) (M:=R++[x]) (ep:=ep) hn hsy (by simp) h hne
    (List.Pairwise.sublist (by rw[show L++R++x::M=(L++(R++[x]))++M by simp];exact List.sublist_append_left _ _) ha) (by simp at hl |-;omega)
   obtain⟨es',ep',L',R',more,T',h',hne',eq,r',o',g'⟩:=yi F (ps:=ps) hn hsy M [] (T:=T₁) (subs:=subs++[o]) (L:=L++(R++[x])) (es:=es₁) (ep:=ep₁) (by simp) h₁ (by simp) (by simpa using ha) (by simpa using hl);refine⟨es',ep',L',R',o::more,T',h',hne',by simpa using eq, ?_, ?_, ?_⟩
   ·rw[List.length_cons];rw[DY,if_pos e];exact r'
   ·rw[List.length_cons,List.length_cons];rw[DX,if_pos e,o'];simp[Nat.add_comm]
   ·rw[List.length_cons];rw[DW,if_pos e,List.map_cons,List.map_cons]
    have hlen:(R.map (pr ps)++[pr ps x]).length=17:=by simpa using e
    have hcast:R.map (pr ps)++[pr ps x]=(R++[x]).map (pr ps):=by simp
    rw[show subs++o::more=(subs++[o])++more by simp];refine ae.forIn_cons (n:=fC 17+(6*17+5)) ?_ g';rw[F.full (pr ps x) _ _ hlen,hcast];have e17:(R++[x]).length=17:=by simpa using e
    rw[e17]at g₁;exact ae.bind (n₁:=fC 17+(6*17+5)) (n₂:=0) g₁ (ae.pure _ _)
  ·obtain⟨es',ep',L',R',more,T',h',hne',eq,r',o',g'⟩:=yi F (ps:=ps) hn hsy M (R++[x]) (T:=T) (subs:=subs) (L:=L) (es:=es) (ep:=ep) (by simp;omega) h hne (by simpa using ha) (by simpa using hl)
   refine⟨es',ep',L',R',more,T',h',hne',by simpa using eq, ?_, ?_, ?_⟩
   ·rw[List.length_cons];rw[DY,if_neg e];simpa using r'
   ·rw[List.length_cons];rw[DX,if_neg e];simpa using o'
   ·rw[List.length_cons];rw[DW,if_neg e,List.map_cons,List.map_cons]
    have hlen:(R.map (pr ps)++[pr ps x]).length≠17:=by simpa using e
    have hcast:R.map (pr ps)++[pr ps x]=(R++[x]).map (pr ps):=by simp
    rw[<-Nat.zero_add (cB (R.length+1) M.length)];rw[show(R++[x]).length=R.length+1 by simp]at g';refine ae.forIn_cons (n:=0) ?_ g';rw[F.more (pr ps x) _ _ hlen,hcast];exact ae.pure _ _
theorem B6{f:yh}(F:uB f){ps:Pos}(hn:n₀<=s.heap.objs.size):∀(M R:List (Int×Str)),R.length+M.length=17->M≠[]->eO (R++M) ->
 ∃es ep T,bB es (R++M)/\∀rest:List (Option (Sem Value)×Sem Value),∀{n b s'},ae p w n₀ ann q n (forIn rest (some s.heap.objs.size,[]) f) { s with heap:=hp s.heap (dO es ep) [],toks:=T } b s' ->
  ae p w n₀ ann q (fC 17+n) (forIn (((M.map (pr ps)).map λx=>(some x.1,x.2))++rest) (none,R.map (pr ps)) f) s b s'
 |[],_,_,h,_=>absurd rfl h
 |x::M,R,hl,_,ha=>by
  have hcast:R.map (pr ps)++[pr ps x]=(R++[x]).map (pr ps):=by simp
  induction M using List.casesOn with
  |nil=>
   have e17:(R++[x]).length=17:=by simpa using hl
   obtain⟨es,ep,T,h,g⟩:=Cr (p:=p) (w:=w) (ann:=ann) (q:=q) (ps:=ps) (M:=R++[x]) hn (by simp) ⋯ ha;refine⟨es,ep,T,h,λrest n b s' k => ?_⟩;rw[List.map_cons,List.map_cons,List.map_nil,List.map_nil,List.cons_append,List.nil_append];refine ae.forIn_cons (n:=fC 17) ?_ k;rw[F.full (pr ps x) _ _ (by simpa using e17),hcast];rw[e17]at g;exact ae.bind (n₁:=fC 17) (n₂:=0) g (ae.pure _ _)
  |cons y M=>
   obtain⟨es,ep,T,h,k⟩:=B6 F (ps:=ps) hn (y::M) (R++[x]) (by simp at hl |-;omega) (by simp) (by simpa using ha);refine⟨es,ep,T,by simpa using h,λrest n b s' j => ?_⟩;have:=k rest j;rw[List.map_cons,List.map_cons,List.cons_append,<-Nat.zero_add (fC 17+n)];refine ae.forIn_cons (n:=0) ?_ this;rw[F.more (pr ps x) _ _ (by simp at hl |-;omega),hcast];exact ae.pure _ _
noncomputable def cD(m:Nat):Nat:=fC 17+(cB 0 m+(fC (rB 0 m)+(6*rB 0 m+5)))
theorem mE(items:List (Option (Sem Value)×Sem Value)):∃f,uB f/\dictDisplay items=(do
 let st <-forIn items (none,[]) f;let m <-pv st.2 st.1
 match m with
 |some d=>pure (.ref d)
 |none=>newDict):=by
 refine⟨?f,⟨?_, ?_⟩, ?e⟩
 case e=>unfold dictDisplay;rfl
 ·intro x main run h
  dsimp only;rw[if_neg (by simpa using h)]
 ·intro x main run h
  dsimp only;rw[if_pos (by simpa using h)]
  rfl
theorem AB{ps:Pos}{A B:List (Int×Str)}(hn:n₀<=s.heap.objs.size)(hsy:sysModules<s.heap.objs.size)(hA:A.length=17)(hr:rB 0 B.length≠0)(ha:eO (A++B))(hl:(A++B).length<=1000):
 ∃es ep subs T,bB es (A++B)/\subs.length=oB 0 B.length+1 /\
  ae p w n₀ ann q (cD B.length) (dictDisplay (((A++B).map (pr ps)).map λx=>(some x.1,x.2))) s (.ref s.heap.objs.size) { s with heap:=hp s.heap (dO es ep) subs,toks:=T }:=by
 obtain⟨f,F,e⟩:=mE (((A++B).map (pr ps)).map λx=>(some x.1,x.2));obtain⟨es₁,ep₁,T₁,h₁,k₁⟩:=B6 (s:=s) (p:=p) (w:=w) (ann:=ann) (q:=q) F (ps:=ps) hn A [] (by simpa using hA) (by intro q;rw[q]at hA;cases hA) (by rw[List.nil_append];exact(List.pairwise_append.mp ha).1);obtain⟨es₂,ep₂,L₂,R₂,more,T₂,h₂,hne,eq,r₂,o₂,g₂⟩:=yi (s:=s) (p:=p) (w:=w) (ann:=ann) (q:=q) F (ps:=ps) hn hsy B [] (T:=T₁) (subs:=[]) (L:=A) (es:=es₁) (ep:=ep₁) (by simp) (by simpa using h₁)
  (by intro q;rw[q]at hA;cases hA) (by simpa using ha) (by simpa using hl)
 rw[List.append_nil]at eq;have hR:R₂≠[]:=by
  intro q;rw[q]at r₂;exact hr r₂.symm
 obtain⟨es₃,ep₃,o,T₃,h₃,g₃⟩:=yg (s:=s) (p:=p) (w:=w) (ann:=ann) (q:=q) (ps:=ps) (T:=T₂) (subs:=[]++more) (M:=R₂) (ep:=ep₂) hn hsy hR h₂ hne (by rw[eq];exact ha) (by rw[eq];exact hl);refine⟨es₃,ep₃,[]++more++[o],T₃,by rw[<-eq];exact h₃,by simp[o₂], ?_⟩;rw[e];have g:=k₁ _ g₂;unfold cD;rw[show fC 17+(cB 0 B.length+(fC (rB 0 B.length)+(6*rB 0 B.length+5)))=(fC 17+cB 0 B.length)+(fC (rB 0 B.length)+(6*rB 0 B.length+5))by omega];refine ae.bind (n₁:=fC 17+cB 0 B.length) (a:=(some s.heap.objs.size,R₂.map (pr ps))) (s₁:={ s with heap:=hp s.heap (dO es₂ ep₂) ([]++more),toks:=T₂ }) ?_ ?_
 ·have:=g
  rw[List.map_append,List.map_append]
  simpa using this
 ·rw[show([]:List (Int×Str)).length=0 from rfl]at r₂
  rw[r₂]at g₃;exact ae.bind (n₁:=fC (rB 0 B.length)+(6*rB 0 B.length+5)) (n₂:=0) g₃ (ae.pure _ _)
end
end
section
open PySem PySem.W PySem.Calls PyProof.Rows
noncomputable def lR(p:Program):Env:={ scope:=p.main.scope,locals:=mainNs,globals:=mainNs,cells:=[],code := .ref 30,frame:=some 31 }
noncomputable abbrev lS(p:Program):Code := .body (behindTheImports p) (lR p)
noncomputable def q0:Pos:=⟨0,0,0,0⟩
noncomputable def g8:Option Value:=some (.ref 6)
structure Fn where
 tb:String->Option Builtin
 den:(String->Option Builtin)->Code->Sem PySem.Fin
 imp:(String->Option Builtin)->Program->World->Nat->Shared->Thread->Option Shared
 st:Program->Shared×Thread
 fence:Program->Shared->Option Shared
 tgo:(String->Option Builtin)->Program->World->Nat->Option Value->Nat->Shared->Thread->Option (Shared×Thread)
 seg:(String->Option Builtin)->Program->World->Nat->Option Value->Nat->Nat->Shared->Thread->Option (Flow×Shared×Code×Pos)
 trun:(String->Option Builtin)->Program->World->Nat->Option Value->Nat->Shared->Thread->Option Shared
noncomputable def g9:Fn:=⟨treeTable,denote,importEnds,start,fenceModules?,topGo,segRun,topRun⟩
noncomputable def fast:Fn:=⟨PySem.W.Fast.tw14364793385576792824,PySem.W.Fast.tw11892475500146522536,PySem.W.Fast.tw10274390034422433532,PySem.W.Fast.tw1435165496053646825,PySem.W.Fast.tw14289696077712309145,PySem.W.Fast.tw15667345088766844465,PySem.W.Fast.tw14374325043358763698,PySem.W.Fast.tw14082659384304107361⟩
theorem pw:g9=fast:=by
 unfold g9 fast;rw[PySem.W.Fast.te14364793385576792824,PySem.W.Fast.te11892475500146522536,PySem.W.Fast.te10274390034422433532,PySem.W.Fast.te1435165496053646825,PySem.W.Fast.te14289696077712309145,PySem.W.Fast.te15667345088766844465,PySem.W.Fast.te14374325043358763698,PySem.W.Fast.te14082659384304107361]
noncomputable def Cs(F:Fn)(p:Program)(w:World):Option Shared:=(F.imp F.tb (opening p) w 2000 (F.st (opening p)).1 (F.st (opening p)).2).bind (F.fence p)
noncomputable def FY:Shared:={}
noncomputable def s0(F:Fn)(p:Program)(w:World):Shared:=match Cs F p w with|some s=>s|none=>FY
noncomputable def Ct(F:Fn)(p:Program)(w:World):Option (Shared×Thread):=F.tgo F.tb p w 28 g8 12 (s0 F p w) (topStub p)
noncomputable def sA(F:Fn)(p:Program)(w:World):Shared:=match Ct F p w with|some r=>r.1|none=>FY
noncomputable def DZ(F:Fn)(p:Program)(i N:Nat)(w:World):Option (Flow×Shared×Code×Pos):=F.seg F.tb p w 28 g8 1 N (sA F p w) (piecesOf ((behindTheImports p).take i) (lR p) (lS p) q0 [topFrame q0])
noncomputable def k1(F:Fn)(p:Program)(i N:Nat)(w:World):Bool×Bool×Nat×Option Value×Option Thread×Option (Flow×Shared×Code×Pos)×Option (Flow×Shared×Code×Pos):=
 ((Cs F p w).isSome,(s0 F p w).heap.isNs mainGlobals&&(s0 F p w).gens.size==0,(s0 F p w).heap.objs.size,(s0 F p w).heap.nsMap mainGlobals "__annotations__",(Ct F p w).map (·.2),
  F.seg F.tb p w 28 g8 1 1 (sA F p w) (blockOf (behindTheImports p) (lR p) (lS p) q0 [topFrame q0]),DZ F p i N w)
noncomputable def dN(os:List Obj)(T:Nat):Shared:={ heap:=⟨⟨os⟩,{}⟩,toks:=T }
noncomputable def uC(F:Fn)(p:Program)(ps:Pos)(sb:Shared)(w:World):Bool×Bool×Nat×Option Value×Option Thread×Option (Flow×Shared×Code×Pos)×Option (Flow×Shared×Code×Pos):=
 (true,true,28,g8,some ⟨F.den F.tb (lS p),lS p,q0,[topFrame q0]⟩,some (.next,sA F p w,lS p,q0),some (.next,sb,lS p,ps))
noncomputable def hG(F:Fn)(p:Program)(i k N:Nat)(ps:Pos)(w:World)(s:Shared):Option (Flow×Shared×Code×Pos):=
 F.seg F.tb p w 28 g8 1 N s (piecesOf (((behindTheImports p).drop i).take k) (lR p) (lS p) ps [topFrame q0])
structure DictStmt where
 name:Str
 npos:Pos
 keys:List (Option Expr)
 vals:List Expr
 dpos:Pos
 pos:Pos
noncomputable def yj:List Expr->Option (Str×Pos)
 |[t]=>match t with
  | .Name x np=>some (x,np)
  |_=>none
 |_=>none
noncomputable def yk:Expr->Option (List (Option Expr)×List Expr×Pos)
 | .Dict ks vs dp=>some (ks,vs,dp)
 |_=>none
noncomputable def D0:Stmt->Option (List Expr×Expr×Pos)
 | .Assign ts v ps=>some (ts,v,ps)
 |_=>none
noncomputable def iJ(st:Stmt):Option DictStmt:=(D0 st).bind λa=>(yj a.1).bind λx=>(yk a.2.1).map λd=>⟨x.1,x.2,d.1,d.2.1,d.2.2,a.2.2⟩
theorem yl{ts:List Expr}{x:Str×Pos}(h:yj ts=some x):ts=[.Name x.1 x.2]:=by
 induction ts using List.casesOn with
 |nil=>exact av h
 |cons t r=>induction r using List.casesOn with
  |nil=>induction t using Expr.casesOn with
   |Name y p=>injections h;rfl
   |_=>exact av h
  |cons _ _=>exact av h
theorem ym{e:Expr}{x}(h:yk e=some x):e = .Dict x.1 x.2.1 x.2.2:=by
 cases e with
 |Dict ks vs dp=>injections h;rfl
 |_=>exact av h
theorem Cu{s:Stmt}{x}(h:D0 s=some x):s = .Assign x.1 x.2.1 x.2.2:=by
 induction s using Stmt.casesOn with
 |Assign ts v ps=>injections h;rfl
 |_=>exact av h
noncomputable def DictStmt.stmt(d:DictStmt):Stmt := .Assign [.Name d.name d.npos] (.Dict d.keys d.vals d.dpos) d.pos
theorem sw{st:Stmt}{d:DictStmt}(h:iJ st=some d):st=d.stmt:=by
 obtain⟨a,h1,h2⟩:=Option.bind_eq_some_iff.mp h;obtain⟨x,h3,h4⟩:=Option.bind_eq_some_iff.mp h2;obtain⟨y,h5,h6⟩:=Option.map_eq_some_iff.mp h4;subst h6;rw[Cu h1,yl h3,ym h5];rfl
noncomputable def B7:Option Expr->Option Int
 |some (.Constant (.int k) _ _)=>some k
 |_=>none
noncomputable def B8:Expr->Option Str
 | .Constant (.str v) _ _=>some v
 |_=>none
noncomputable def uD(k:Option Expr)(v:Expr):Option (Int×Str):=(B7 k).bind λi=>(B8 v).map λy=>(i,y)
noncomputable def d4:List (Option Expr)->List Expr->Option (List (Int×Str))
 |[],[]=>some []
 |k::ks,v::vs=>(uD k v).bind λx=>(d4 ks vs).map λL=>x::L
 |_,_=>none
theorem AC{k:Option Expr}{i:Int}(h:B7 k=some i):∃a b,k=some (.Constant (.int i) a b):=by
 induction k using Option.casesOn with
 |none=>exact av h
 |some e=>induction e using Expr.casesOn with
  |Constant c a b=>induction c using Const.casesOn with
   |int j=>injections h;exact⟨a,b,rfl⟩
   |_=>exact av h
  |_=>exact av h
theorem AD{v:Expr}{y:Str}(h:B8 v=some y):∃a b,v = .Constant (.str y) a b:=by
 induction v using Expr.casesOn with
 |Constant c a b=>induction c using Const.casesOn with
  |str j=>injections h;exact⟨a,b,rfl⟩
  |_=>exact av h
 |_=>exact av h
theorem yn{env:Env}{ps:Pos}{k:Option Expr}{v:Expr}{x:Int×Str}(h:uD k v=some x):evalOpt k env=some (pr ps x).1/\(do let y <-eval v env;standAt ps;pure y)=(pr ps x).2:=by
 obtain⟨i,h1,h2⟩:=Option.bind_eq_some_iff.mp h;obtain⟨y,h3,rfl⟩:=Option.map_eq_some_iff.mp h2;obtain⟨a,b,rfl⟩:=AC h1;obtain⟨c,d,rfl⟩:=AD h3;exact⟨rfl,rfl⟩
theorem py{env:Env}{ps:Pos}:∀{ks:List (Option Expr)} {vs:List Expr} {L:List (Int×Str)},d4 ks vs=some L ->
 (evalEachOpt ks env).zip ((evalEach vs env).map λv=>do let x <-v;standAt ps;pure x)=(L.map (pr ps)).map λx=>(some x.1,x.2)
 |[],[],L,h=>by injections h;rfl
 |k::ks,v::vs,L,h=>by
   obtain⟨x,e1,h2⟩:=Option.bind_eq_some_iff.mp (show((uD k v).bind λx=>(d4 ks vs).map λL=>x::L)=some L from h);obtain⟨M,e2,rfl⟩:=Option.map_eq_some_iff.mp h2;have:=py (env:=env) (ps:=ps) e2;obtain⟨r1,r2⟩:=yn (env:=env) (ps:=ps) e1;show(evalOpt k env,do let y <-eval v env;standAt ps;pure y)::((evalEachOpt ks env).zip ((evalEach vs env).map _))=_;rw[this,r1,r2]
   rfl
 |[],_::_,_,h=>by injections h
 |_::_,[],_,h=>by injections h
noncomputable def jd:Int->List (Int×Str)->Bool
 |_,[]=>true
 |a,x::L=>decide (a<x.1)&&decide (x.1<2147483648)&&jd x.1 L
theorem mF{k:Int}(h0:0<=k)(h1:k<2147483648):PySem.hashInt k=k:=by
 have hr:rawHash k=k:=by
  unfold rawHash;have h2:((k.natAbs:Int)%((2^61-1:Nat):Int))=k:=by
   rw[Int.natAbs_of_nonneg h0];exact Int.emod_eq_of_lt h0 ⋯
  have hk:¬k<0:=⋯;have hm:(k == -1)=false:=by rw[beq_eq_false_iff_ne];omega
  simp only[h2,if_neg hk,hm,Bool.false_eq_true,if_false]
 unfold PySem.hashInt;have hm:(k == -1)=false:=by rw[beq_eq_false_iff_ne];omega
 rw[hr,hm,if_neg Bool.false_ne_true]
theorem li:∀{a:Int} {L:List (Int×Str)},0<=a->jd a L=true->(∀x∈L,a<x.1/\x.1<2147483648)/\L.Pairwise λx y=>x.1<y.1
 |_,[],_,_=>⟨λ_ h=>(nomatch h), .nil⟩
 |a,x::L,h0,h=>by
  have h3:=(aG h).2;have h1:=of_decide_eq_true (aG (aG h).1).1;have h2:=of_decide_eq_true (aG (aG h).1).2;obtain⟨k1,k2⟩:=li ⋯ h3;refine⟨λy hy => ?_, .cons (λy hy=>(k1 y hy).1) k2⟩
  rcases List.mem_cons.mp hy with rfl|hy
  ·exact⟨h1,h2⟩
  ·have:=k1 y hy;exact⟨⋯,this.2⟩
theorem lT{L:List (Int×Str)}(h:jd 0 L=true):eO L:=by
 obtain⟨k1,k2⟩:=li (Int.le_refl 0) h;unfold eO;refine List.Pairwise.imp_of_mem ?_ k2;intro x y hx hy hlt;have a:=k1 x hx;have b:=k1 y hy;rw[mF ⋯ a.2,mF ⋯ b.2]
 omega
section
variable {p:Program} {w:World} {n₀:Nat} {ann:Option Value} {q:Pos} {s s':Shared}
theorem yo {env:Env} {ks:List (Option Expr)} {vs:List Expr} {ps:Pos} {L:List (Int×Str)} (hL:d4 ks vs=some L) (hr:jd 0 L=true) (h17:17<=L.length) (h1000:L.length<=1000) (hrem:rB 0 (L.length-17)≠0)
 (hn:n₀<=s.heap.objs.size) (hsy:sysModules<s.heap.objs.size):
 ∃es ep subs T,bB es L/\subs.length=oB 0 (L.length-17)+1 /\
  ae p w n₀ ann q (1+cD (L.length-17)) (eval (.Dict ks vs ps) env) s (.ref s.heap.objs.size) { s with heap:=hp s.heap (dO es ep) subs,toks:=T }:=by
 have hB:(L.drop 17).length=L.length-17:=List.length_drop;obtain⟨es,ep,subs,T,h1,h2,g⟩:=AB (s:=s) (p:=p) (w:=w) (ann:=ann) (q:=q) (ps:=ps) (A:=L.take 17) (B:=L.drop 17) hn hsy (by rw[List.length_take];omega) (by rw[hB];exact hrem) (by rw[List.take_append_drop];exact lT hr) (by rw[List.take_append_drop];exact h1000);rw[List.take_append_drop]at h1 g;rw[hB]at h2 g;refine⟨es,ep,subs,T,h1,h2, ?_⟩;rw[arm_eval_Dict,py hL];exact ae.bind (n₁:=1) (ae.standAt _ _) g
noncomputable def pz(env:Env)(d:DictStmt)(v:Value):Sem Flow:=do
 standAt d.npos
 bindName env d.name v
 pure .next
noncomputable def sy(env:Env)(rest:List Stmt)(f:Flow):Sem Flow:=match f with| .next=>execs rest env|f=>pure f
noncomputable def gr(env:Env)(d:DictStmt)(rest:List Stmt)(v:Value)(c:Code)(ps q:Pos):Thread:=
 ⟨(pz env d v).wrap (λf=>(sy env rest f).wrap doneF (leaveH env) id id) (leaveH env) id id,c,ps,[topFrame q]⟩
theorem yp {env:Env} {d:DictStmt} {rest:List Stmt} {c:Code} {ps:Pos} {L:List (Int×Str)} (hL:d4 d.keys d.vals=some L) (hr:jd 0 L=true) (h17:17<=L.length) (h1000:L.length<=1000) (hrem:rB 0 (L.length-17)≠0)
 (hn:n₀<=s.heap.objs.size) (hsy:sysModules<s.heap.objs.size):
 ∃es ep subs T,bB es L/\subs.length=oB 0 (L.length-17)+1/\∃ps',
  topGo treeTable p w n₀ ann (1+(1+cD (L.length-17))) s (restOf (d.stmt::rest) env c ps [topFrame q])=some ({ s with heap:=hp s.heap (dO es ep) subs,toks:=T },gr env d rest (.ref s.heap.objs.size) c ps' q):=by
 obtain⟨es,ep,subs,T,h1,h2,g⟩:=yo (s:=s) (p:=p) (w:=w) (n₀:=n₀) (ann:=ann) (q:=q) (env:=env) (ps:=d.dpos) hL hr h17 h1000 hrem hn hsy;refine⟨es,ep,subs,T,h1,h2, ?_⟩;have e:execs (d.stmt::rest) env=(do
  let v <-(do standAt d.pos;eval (.Dict d.keys d.vals d.dpos) env:Sem Value);let f <-pz env d v
  sy env rest f):=by
  rw[execs_cons];unfold DictStmt.stmt;rw[exec_Assign_Name env d.name d.npos _ d.pos rfl];simp only[bind_assoc,pz,pure_bind]
  rfl
 unfold restOf;rw[e];have G:ae p w n₀ ann q (1+(1+cD (L.length-17))) (do standAt d.pos;eval (.Dict d.keys d.vals d.dpos) env:Sem Value) s _ _:=ae.bind (n₁:=1) (ae.standAt _ _) g;obtain⟨ps',k⟩:=G (λv=>(do let f <-pz env d v;sy env rest f:Sem Flow).wrap doneF (leaveH env) id id) (leaveH env) id id c ps;refine⟨ps', ?_⟩;have:((do let v <-(do standAt d.pos;eval (.Dict d.keys d.vals d.dpos) env:Sem Value);let f <-pz env d v;sy env rest f:Sem Flow)).wrap doneF (leaveH env) id id =
  (do standAt d.pos;eval (.Dict d.keys d.vals d.dpos) env:Sem Value).wrap (λv=>(do let f <-pz env d v;sy env rest f:Sem Flow).wrap doneF (leaveH env) id id) (leaveH env) id id:=by
  rw[Sem.bind_eq_wrap',Sem.wrap_wrap]
  rfl
 rw[this,k];unfold gr;rw[Sem.bind_eq_wrap',Sem.wrap_wrap]
 rfl
end
noncomputable def pA(p:Program)(i:Nat):List Stmt:=(behindTheImports p).drop (i+1)
noncomputable def eP(p:Program)(i:Nat):DictStmt:=match((behindTheImports p).drop i).head?.bind iJ with|some d=>d|none=>⟨Str.empty,q0,[],[],q0,q0⟩
noncomputable def wR(F:Fn)(p:Program)(i M n:Nat)(w:World)(os more:List Obj)(T:Nat)(ps:Pos):Option Shared:=
 F.trun F.tb p w 28 g8 M (dN (os++more) T) (gr (lR p) (eP p i) (pA p i) (.ref n) (lS p) ps q0)
noncomputable def uE(F:Fn)(p:Program)(w:World)(s:Shared):Bool:=
 staticsOk (importedModules p.main.body) (s0 F p w).heap s.heap&&namesBound p s.heap&&gensDone s&&laidKept (s0 F p w).heap s.heap
structure DP where
 name:Str
 params:Arguments
 body:List Stmt
 scope:Scope
noncomputable def D1:DP:=⟨Str.empty,⟨[],[],none,[],[],none,[]⟩,[],{ kind := .function,names:=[],isGenerator:=false,isCoroutine:=false,more:=[] }⟩
noncomputable def D2:Option Stmt->DP
 |some (.FunctionDef n a b _ _ _ s _ _ _)=>⟨n,a,b,s⟩
 |_=>D1
noncomputable def aQ(p:Program)(i:Nat):DP:=D2 p.main.body[i]?
noncomputable def eX(p:Program)(i j:Nat):DP:=match p.main.body[i]? with
 |some (.ClassDef _ _ _ b _ _ _ _ _ _ _)=>D2 b[j]?
 |_=>D1
noncomputable def fD(d:DP)(q:Str)(globals:Addr)(pm cd:Value)(bi:Addr):FuncData:=
 { name:=d.name,qualname:=q,params:=d.params,body := .stmts d.body,scope:=d.scope,globals:=globals,closure:=[],defaults := .none,kwdefaults := .none,pyModule:=pm,code:=cd,builtins:=bi }
noncomputable def dE(P:Params)(x:Str)(t:Nat)(v:Value):DictEntry:=⟨PyData.keyHash P x, .str x t,v⟩
end
section
open PySem PySem.W PySem.Calls PyProof.Rows
theorem wS{α:Type}(a:Array α)(l:List α):a++l.toArray=⟨a.toList++l⟩:=by
 apply Array.toList_inj.mp;simp
theorem oX(os:List Obj):os=(List.range os.length).map λi=>os.getD i default:=by
 apply List.ext_getElem
 ·simp
 ·intro i h1 h2
  simp[List.getD,List.getElem?_eq_getElem h1]
theorem yq(p:Program)(w:World):Cs g9 p w=(importEnds treeTable (opening p) w 2000 (start (opening p)).1 (start (opening p)).2).bind (fenceModules? p):=by
 unfold Cs g9;dsimp only
theorem oY{p:Program}{w:World}{z:Shared}{NN:Nat}(h:2000<=NN)(hz:Cs g9 p w=some z):fencedOpening treeTable p w NN=some z:=by
 rw[yq]at hz;generalize hK:2000=K at h hz;obtain⟨y,hy,hy'⟩:=Option.bind_eq_some_iff.mp hz;have:=importEnds_mono (NN-K) _ _ _ _ hy;rw[show K+(NN-K)=NN by omega]at this;unfold fencedOpening;rw[this];exact hy'
structure Cv(p:Program)(i M n m:Nat)(w:World)(os:List Obj)(T₀ A:Nat){β:Type}(obs:Shared->β)(val:(Nat->Obj)->β):Prop where
 first:∃z ps,Cs g9 p w=some z/\(z.heap.isNs mainGlobals&&z.gens.size==0)=true/\z.heap.objs.size=28/\z.heap.nsMap mainGlobals "__annotations__"=g8 /\
  ∀N r,topRun treeTable p w 28 g8 N (dN os T₀) (restOf ((behindTheImports p).drop i) (lR p) (lS p) ps [topFrame q0])=some r->topRun treeTable p w 28 g8 (A+N) z (topStub p)=some r
 size:os.length=n
 then_:∀(f:Nat->Obj) (T:Nat) (ps:Pos),(wR g9 p i M n w os ((List.range m).map f) T ps).map obs=some (val f)
theorem yr{p:Program}{i N:Nat}{w:World}{ps:Pos}{sb:Shared}(k:k1 g9 p i N w=uC g9 p ps sb w):
 ∃z,Cs g9 p w=some z/\(z.heap.isNs mainGlobals&&z.gens.size==0)=true/\z.heap.objs.size=28/\z.heap.nsMap mainGlobals "__annotations__"=g8 /\
 ∀K r,topRun treeTable p w 28 g8 K sb (restOf ((behindTheImports p).drop i) (lR p) (lS p) ps [topFrame q0])=some r->topRun treeTable p w 28 g8 (12+(1+(N+K))) z (topStub p)=some r:=by
 unfold k1 uC at k;simp only[Prod.mk.injEq]at k;obtain⟨a1,a2,a3,a4,a5,a6,a7⟩:=k;obtain⟨z,hz⟩:=Option.isSome_iff_exists.mp a1;have hs0:s0 g9 p w=z:=by unfold s0;rw[hz]
 obtain⟨r5,h5,h5'⟩:=Option.map_eq_some_iff.mp a5;obtain⟨sa,ta⟩:=r5;dsimp only at h5';subst h5';have hsA:sA g9 p w=sa:=by unfold sA;rw[h5]
 unfold DZ at a7;rw[hsA]at a6 a7;rw[hs0]at a2 a3 a4;unfold Ct at h5;rw[hs0]at h5;refine⟨z,hz,a2,a3,a4,λK r h => ?_⟩;have c4:=piece_app (tb:=treeTable) (n:=N) a7 h;rw[List.take_append_drop]at c4;exact go_top h5 (piece_block (tb:=treeTable) (n:=1) a6 c4)
theorem yt {p:Program} {i k N:Nat} {w:World} {ps ps':Pos} {s s':Shared} (h:hG g9 p i k N ps w s=some (.next,s',lS p,ps')) {K:Nat} {r:Shared}
 (t:topRun treeTable p w 28 g8 K s' (restOf ((behindTheImports p).drop (i+k)) (lR p) (lS p) ps' [topFrame q0])=some r):
 topRun treeTable p w 28 g8 (N+K) s (restOf ((behindTheImports p).drop i) (lR p) (lS p) ps [topFrame q0])=some r:=by
 unfold hG at h;rw[<-List.drop_drop]at t;have:=piece_app (tb:=treeTable) (n:=N) h t;rw[List.take_append_drop]at this;exact this
theorem Cw {p:Program} {i M n m NN T₀ A:Nat} {w:World} {os:List Obj} {β:Type} {obs:Shared->β} {val:(Nat->Obj)->β} (H:Cv p i M n m w os T₀ A obs val) {L:List (Int×Str)} {g:Shared->Prop}
 (hd:((behindTheImports p).drop i).head?.bind iJ=some (eP p i)) (hL:d4 (eP p i).keys (eP p i).vals=some L) (hr:jd 0 L=true) (hlen:L.length=650) (hm:m=39) (hn:28<=n)
 {C:Nat} (hC:cD 633=C) (hN:2000<=NN/\A+((1+(1+C))+M)<=NN)
 (hg:∀(f:Nat->Obj) (s:Shared),obs s=val f->(∃es ep,bB es L/\f 0=dO es ep)->uE g9 p w s=true/\g s):
 ∃s,openEnds treeTable p w NN=some s/\g s:=by
 obtain⟨⟨z,p7,hz,a2,a3,a4,ch⟩,a8,e2⟩:=H;have hs0:s0 g9 p w=z:=by unfold s0;rw[hz]
 have hst:(behindTheImports p).drop i=(eP p i).stmt::pA p i:=by
  obtain⟨st,e,e'⟩:=Option.bind_eq_some_iff.mp hd;cases q:(behindTheImports p).drop i with
  |nil=>rw[q]at e;injections e
  |cons x l=>
   rw[q]at e;injections e;rw[sw e'];have:pA p i=l:=by
    unfold pA;rw[<-List.drop_drop,q];rfl
   rw[this]
 have hsz:(dN os T₀).heap.objs.size=n:=a8;obtain⟨es,ep,subs,T,hE,hsub,ps',hgo⟩:=yp (p:=p) (w:=w) (n₀:=28) (ann:=g8) (q:=q0) (s:=dN os T₀) (env:=lR p) (d:=eP p i) (rest:=pA p i) (c:=lS p) (ps:=p7) hL hr ⋯ ⋯
  (by rw[hlen];decide) (by rw[hsz];exact hn) (by rw[hsz];exact Nat.lt_of_lt_of_le nofun hn)
 have hsl:(dO es ep::subs).length=m:=by
  rw[List.length_cons,hsub,hlen,hm];decide
 have e:=e2 (λj=>(dO es ep::subs).getD j default) T ps';rw[<-hsl,<-oX]at e;obtain⟨sf,hf,hv⟩:=Option.map_eq_some_iff.mp e;obtain⟨g1,g2⟩:=hg _ sf hv ⟨es,ep,hE,rfl⟩;refine⟨sf, ?_,g2⟩;unfold wR at hf;have c1:topRun treeTable p w 28 g8 M { dN os T₀ with heap:=hp (dN os T₀).heap (dO es ep) subs,toks:=T } (gr (lR p) (eP p i) (pA p i) (.ref (dN os T₀).heap.objs.size) (lS p) ps' q0)=some sf:=by
  rw[hsz];have:hp (dN os T₀).heap (dO es ep) subs=⟨⟨os++(dO es ep::subs)⟩,{}⟩:=by
   unfold hp;rw[wS]
   rfl
  rw[this];exact hf
 rw[hlen,show 650-17=633 from rfl,hC]at hgo;have c2:=go_top hgo c1;have c3:topRun treeTable p w 28 g8 (1+(1+C)+M) (dN os T₀) (restOf ((behindTheImports p).drop i) (lR p) (lS p) p7 [topFrame q0])=some sf:=by rw[hst];exact c2
 have c6:=ch _ _ c3;have c7:=topRun_mono (NN-(A+((1+(1+C))+M))) _ _ _ _ c6;rw[show A+(1+(1+C)+M)+(NN-(A+(1+(1+C)+M)))=NN by omega]at c7;have hopen:fencedOpening treeTable p w NN=some z:=oY hN.1 hz;unfold openEnds;rw[hopen];show topFrom treeTable p w NN z=some sf;unfold topFrom;rw[a2,a3,a4];dsimp only;rw[c7];show(match staticsOk (importedModules p.main.body) z.heap sf.heap&&namesBound p sf.heap&&gensDone sf&&laidKept z.heap sf.heap with|true=>some sf|false=>none)=some sf;unfold uE at g1;rw[hs0]at g1;rw[g1]
noncomputable def bQ:Value->Value
 | .int i _ => .int i 0
 | .str s _ => .str s 0
 |v=>v
noncomputable def je(sl:Array (Option Value)):Array (Option Value):=bif Nat.beq sl.toList.length 6 then⟨[sl.toList.getD 4 none]⟩else⟨[]⟩
noncomputable def gv:Obj->Obj
 |⟨c,d, .seq xs _,_⟩=>⟨c,d, .seq ⟨xs.toList.map bQ⟩ 0, #[]⟩
 |⟨c,d, .fields xs,_⟩=>⟨c,d, .fields ⟨xs.toList.map bQ⟩, #[]⟩
 |⟨c,d, .set es _ t,sl⟩=>⟨c,d, .set ⟨es.toList.map λe=>(e.1,bQ e.2)⟩ 0 { t with led:=true },sl⟩
 |⟨c,d, .func f,_⟩=>⟨c,d, .func { f with pyModule := .none,doc := .none }, #[]⟩
 |⟨c,d, .cls k,sl⟩=>⟨c,d, .cls k,je sl⟩
 |⟨c,d,dt,_⟩=>⟨c,d,dt, #[]⟩
noncomputable abbrev jH:=List (Str×Option Value)
structure qM where
 globals:jH
 builtins:jH
 statics:jH
 nss:List (Addr×jH)
 objs:List (Addr×Obj)
 codes:List (Addr×Str)
noncomputable abbrev Told:Type:=Bool×List (Option Value)×List (Option Value)×List (Option Value)×List (Bool×List (Option Value))×List (Option Obj)×List (Option Value)
noncomputable def sz(o:Obj):Option Value:=match o.data with
 | .fields vs=>(vs[1]?).map bQ
 |_=>none
noncomputable def mG(h:Heap)(a:Addr)(l:jH):List (Option Value):=l.map λx=>(h.nsMap a x.1).map bQ
noncomputable def lookup(A:qM)(h:Heap):Told:=
 (h.isNs mainGlobals&&h.isNs builtinsNs&&h.isNs cStatics,mG h mainGlobals A.globals,mG h builtinsNs A.builtins,mG h cStatics A.statics,
  A.nss.map λa=>(h.isNs a.1,mG h a.1 a.2),A.objs.map λa=>(h.get? a.1).map gv,A.codes.map λa=>(h.get? a.1).bind sz)
noncomputable def hJ(A:qM):Told:=(true,A.globals.map (·.2),A.builtins.map (·.2),A.statics.map (·.2),A.nss.map λa=>(true,a.2.map (·.2)),A.objs.map λa=>some a.2,A.codes.map λa=>some (.str a.2 0))
noncomputable def mH{γ:Type}(F:Fn)(os:(q:Program)->(loose mods:List Str)->(Xt:Shared->Bool)->(g0:Bool)->Shared->γ)(p q:Program)(loose:List Str)(A:qM)(n:Nat)(w:World)(s:Shared):Bool×γ×Told×Option Obj:=
 (uE F p w s,os q loose (importedModules p.main.body) (λ_=>true) true s,lookup A s.heap,s.heap.objs[n]?)
noncomputable def yu(p:Program):Program:={ p with main:={ p.main with body:=p.main.body.drop (p.main.body.length-1) } }
noncomputable def wf(b1 b2:Bool)(w:World):World:=(w.withFollow "set-order" b1).withFollow "special-get-raises" b2
noncomputable def hU(h:Heap)(a:Addr)(l:jH):Prop:=∃m,h.Ns a m/\∀x∈l,(m x.1).map bQ=x.2
structure dw(A:qM)(n:Nat)(L:List (Int×Str))(h:Heap):Prop where
 globals:hU h mainGlobals A.globals
 builtins:hU h builtinsNs A.builtins
 statics:hU h cStatics A.statics
 nss:∀x∈A.nss,hU h x.1 x.2
 objs:∀x∈A.objs,∃o,h.get? x.1=some o/\gv o=x.2
 codes:∀x∈A.codes,h.CodeRec (.ref x.1) x.2
 dict:∃es ep,h.get? n=some (dO es ep)/\bB es L
theorem pB{v:Value}{x:Str}(e:bQ v = .str x 0):∃t,v = .str x t:=by
 induction v using Value.casesOn with
 |str s t=>exact⟨t,congrArg (Value.str · t) (Value.str.inj e).1⟩
 |_=>exact ad (congrArg (λv:Value=>Nat.beq v.ctorIdx 6) e)
theorem jf{v u:Value}(n:(Nat.beq u.ctorIdx 4||Nat.beq u.ctorIdx 6)=false)(e:bQ v=u):v=u:=by
 induction v using Value.casesOn with
 |int i t=>subst e;exact ad n.symm
 |str s t=>subst e;exact ad n.symm
 |_=>exact e
theorem lU{h:Heap}{a:Addr}{x:Str}(e:(h.get? a).bind sz=some (.str x 0)):h.CodeRec (.ref a) x:=by
 obtain⟨o,h1,h2⟩:=Option.bind_eq_some_iff.mp e;obtain⟨cl,dd,dt,sl⟩:=o
 induction dt using Data.casesOn with
 |fields vs=>
  obtain⟨v,h3,h4⟩:=Option.map_eq_some_iff.mp (show(vs[1]?).map bQ=_ from h2);obtain⟨t,rfl⟩:=pB h4;exact⟨a,_,vs,t,rfl,h1,rfl,h3⟩
 |_=>exact av h2
theorem d8{α β:Type}{f g:α->β}:∀{l:List α},l.map f=l.map g->∀x∈l,f x=g x
 |a::l,h,x,hx=>by
  simp only[List.map_cons,List.cons.injEq]at h
  rcases List.mem_cons.mp hx with rfl|hx
  ·exact h.1
  ·exact d8 h.2 x hx
theorem iK{h:Heap}{a:Addr}{l:jH}(x:h.isNs a=true)(e:mG h a l=l.map (·.2)):hU h a l:=⟨_, .of_isNs x,d8 e⟩
theorem wT{A:qM}{n:Nat}{L:List (Int×Str)}{h:Heap}(e:lookup A h=hJ A)(hd:∃es ep,h.get? n=some (dO es ep)/\bB es L):dw A n L h:=by
 unfold lookup hJ at e;simp only[Prod.mk.injEq,Bool.and_eq_true]at e;obtain⟨⟨⟨e1,e2⟩,e3⟩,e4,e5,e6,e7,e8,e9⟩:=e;refine⟨iK e1 e4,iK e2 e5,iK e3 e6,λx hx => ?_,λx hx => ?_,λx hx=>lU (d8 e9 x hx),hd⟩
 ·have:=d8 e7 x hx
  simp only[Prod.mk.injEq]at this;exact iK this.1 this.2
 ·obtain⟨o,h1,h2⟩:=Option.map_eq_some_iff.mp (d8 e8 x hx)
  exact⟨o,h1,h2⟩
theorem hU.keeps{h h':Heap}{a:Addr}{l:jH}(x:hU h a l)(k:∀b o,h.get? b=some o->h'.get? b=some o):hU h' a l:=by
 obtain⟨m,⟨o,es,ep,ho,r⟩,hl⟩:=x;exact⟨m,⟨o,es,ep,k _ _ ho,r⟩,hl⟩
theorem dw.keeps{A:qM}{n:Nat}{L:List (Int×Str)}{h h':Heap}(x:dw A n L h)(k:∀b o,h.get? b=some o->h'.get? b=some o):dw A n L h':=
 ⟨x.globals.keeps k,x.builtins.keeps k,x.statics.keeps k,λy hy=>(x.nss y hy).keeps k,λy hy=>let⟨o,a,b⟩:=x.objs y hy;⟨o,k _ _ a,b⟩,λy hy=>let⟨c,oc,vs,t,e,a,b⟩:=x.codes y hy;⟨c,oc,vs,t,e,k _ _ a,b⟩,let⟨es,ep,a,b⟩:=x.dict;⟨es,ep,k _ _ a,b⟩⟩
theorem AE{n:Nat}{h:Heap}{o:Obj}{L:List (Int×Str)}(e:h.objs[n]? = some o)(hd:∃es ep,bB es L/\o=dO es ep):∃es ep,h.get? n=some (dO es ep)/\bB es L:=by
 obtain⟨es,ep,a,rfl⟩:=hd;exact⟨es,ep,kx e rfl,a⟩
theorem yv {p q:Program} {i M n m NN T₀ A₀:Nat} {os:Params->List Obj} {loose:List Str} {A:qM} {L:List (Int×Str)}
 (H:∀w,Cv p i M n m w (os w.params) T₀ A₀ (mH g9 openSeen p q loose A n w) λf=>(true,openGood q loose,hJ A,some (f 0)))
 (hd:((behindTheImports p).drop i).head?.bind iJ=some (eP p i)) (hL:d4 (eP p i).keys (eP p i).vals=some L) (hr:jd 0 L=true) (hlen:L.length=650) (hm:m=39) (hn:28<=n)
 {C:Nat} (hC:cD 633=C) (hN:2000<=NN/\A₀+((1+(1+C))+M)<=NN):
 LeftO p q loose (λ_=>true) (λs=>dw A n L s.heap) (λ_=>True) NN:=λw=>by
 obtain⟨s,e,h⟩:=Cw (NN:=NN) (H w) (g:=λs=>openSeen q loose (importedModules p.main.body) (λ_=>true) true s=openGood q loose/\dw A n L s.heap) hd hL hr hlen hm hn hC hN (λf s hv hf=>by
  unfold mH at hv;simp only[Prod.mk.injEq]at hv;obtain⟨v1,v2,v3,v4⟩:=hv;exact⟨v1,v2,wT v3 (AE v4 (by obtain⟨es,ep,a,b⟩:=hf;exact⟨es,ep,a,b⟩))⟩)
 rw[e];show some (openSeen q loose (importedModules p.main.body) (λ_=>true) true s,dw A n L s.heap)=some (openGood q loose,True);rw[h.1];rw[show dw A n L s.heap=True from eq_true h.2]
noncomputable def fastSeen:=PySem.W.Fast.tw4187177175401517315
theorem wU:openSeen=fastSeen:=PySem.W.Fast.te4187177175401517315
set_option maxHeartbeats 2000000 in
theorem Cx {l:OpenLaw} {q:Program} {loose:List Str} {A:qM} {n:Nat} {L:List (Int×Str)} {NN:Nat} {d:DefRec} {kwd:List (Str×Expr)} {f:Addr}
 (left:LeftO l.prog q loose (λ_=>true) (λs=>dw A n L s.heap) (λ_=>True) NN)
 (hmost:l.most=some 63) (hbound:l.bound=none) (hwrites:l.writes=false)
 (hdef:defOf q l.name=some (d,kwd)) (hp:l.prog.theDef l.name=some (d.params,d.body,d.scope)) (hk:kwWritten? d.params.kwonlyargs d.params.kw_defaults=some kwd)
 (ok2:(chainsOk q&&opensWell l.prog&&(frees l.row.toRowW&&l.row.within.isEmpty))=true) (hb:l.prog.bare) (hw:l.row.toRowW.promised)
 (hf:(d.name,some (.ref f))∈A.globals)
 (walk:∀(w:World) (s:Shared) (a:Addr) (vs:List Value) (ns:List Int),dw A n L s.heap->s.gens = #[]->s.heap.IsList a vs.toArray->IntsAre vs ns->(PyData.list (ns.map PyData.int)).layable0=true->ns.length<=63 ->
   wpAny (model l.prog w) callerA (call (.ref f) [.ref a]) (λv s'=>v = .bool true/\(∀b o,s.heap.get? b=some o->s'.heap.get? b=some o)/\s'.os=s.os/\s'.gens = #[]) (λ_ _=>False) s) (said:l.row.wellSaid=true):l.row.Holds:=by
 refine holds_open (r:=l.row) left (YP:=λ_ h=>dw A n L h) (λw s e=>of_eq_true e) (λw h h' x k=>x.keeps k) (XP:=λ_ _=>True) (λ_ _=>trivial) (λ_ _ _ _ _=>trivial)
  hdef hp hk (λs _=>recFacts_nil rfl) (by show(!l.writes||true)=true;simp) said ok2 hb hw ?_
 intro w s₀ s₁ mg mb G Y a o pm cd doc dV kV ho hd hcd hD hmg hg args vals as hpre hlay hrd hwl hlo
 wrow_args hpre hlay hrd hwl hlo
 rename_i ns _ _ hlay1 _ _ _ _ la vs _ hI ra _ r0 hi _ h1 h2;rw[hmost]at h1
 w_cond h1
 rename_i hlen;have haf:a=f:=by
  obtain⟨m,hm,hx⟩:=Y.globals;have e:=hx _ hf;have:mg d.name=m d.name:=by
   obtain⟨o1,es1,ep1,a1,a2,_,a3⟩:=G.T.g;obtain⟨o2,es2,ep2,b1,b2,_,b3⟩:=hm;rw[a1]at b1;cases b1;rw[a2]at b2;cases b2;rw[<-a3,<-b3]
  rw[<-this,hmg]at e;exact Value.ref.inj (Option.some.inj e)
 subst haf;refine wpAny_mono (walk w s₁ la vs ns Y hg hI hi hlay1 ⋯) (λv s' h => ?_) (λ_ _ h=>h.elim)
 ·obtain⟨rfl,k,ho',hg'⟩:=h
  refine GoodW.toG ⟨.inl ⟨.bool true, .bool true,[],rfl,λ_=>rfl,ReadsW.bool _, ?_,λ_=>⟨.nil,λ_ h=>nomatch h⟩⟩,k,ho',hg'⟩
  wrow_post
end
section
open PySem PySem.W PySem.Calls PyProof.Rows PySem.Challenge
noncomputable def Av(p:Program)(P:Params):List Obj:=[
 ⟨.type "dict",none, .dict ⟨[dE P "__name__" 1 (.str "builtins" 160),dE P "__doc__" 2 (.builtin "builtins.__doc__:str#opaque"),dE P "__package__" 3 (.builtin "builtins.__package__:str#opaque"),dE P "__loader__" 4 (.builtin "builtins.__loader__:shared#opaque"),dE P "__spec__" 5 (.builtin "builtins.__spec__#opaque"),dE P "__build_class__" 6 (.builtin "__build_class__"),dE P "__import__" 7 (.builtin "__import__"),dE P "abs" 8 (.builtin "abs"),dE P "all" 9 (.builtin "all"),dE P "any" 10 (.builtin "any"),dE P "ascii" 11 (.builtin "ascii"),dE P "bin" 12 (.builtin "bin"),dE P "breakpoint" 13 (.builtin "breakpoint"),dE P "callable" 14 (.builtin "callable"),dE P "chr" 15 (.builtin "chr"),dE P "compile" 16 (.builtin "compile"),dE P "delattr" 17 (.builtin "delattr"),dE P "dir" 18 (.builtin "dir"),dE P "divmod" 19 (.builtin "divmod"),dE P "eval" 20 (.builtin "eval"),dE P "exec" 21 (.builtin "exec"),dE P "format" 22 (.builtin "format"),dE P "getattr" 23 (.builtin "getattr"),dE P "globals" 24 (.builtin "globals"),dE P "hasattr" 25 (.builtin "hasattr"),dE P "hash" 26 (.builtin "hash"),dE P "hex" 27 (.builtin "hex"),dE P "id" 28 (.builtin "id"),dE P "input" 29 (.builtin "input"),dE P "isinstance" 30 (.builtin "isinstance"),dE P "issubclass" 31 (.builtin "issubclass"),dE P "iter" 32 (.builtin "iter"),dE P "aiter" 33 (.builtin "aiter"),dE P "len" 34 (.builtin "len"),dE P "locals" 35 (.builtin "locals"),dE P "max" 36 (.builtin "max"),dE P "min" 37 (.builtin "min"),dE P "next" 38 (.builtin "next"),dE P "anext" 39 (.builtin "anext"),dE P "oct" 40 (.builtin "oct"),dE P "ord" 41 (.builtin "ord"),dE P "pow" 42 (.builtin "pow"),dE P "print" 43 (.builtin "print"),dE P "repr" 44 (.builtin "repr"),dE P "round" 45 (.builtin "round"),dE P "setattr" 46 (.builtin "setattr"),dE P "sorted" 47 (.builtin "sorted"),dE P "sum" 48 (.builtin "sum"),dE P "vars" 49 (.builtin "vars"),dE P "None" 50 .none,dE P "Ellipsis" 51 .ellipsis,dE P "NotImplemented" 52 .notImplemented,dE P "False" 53 (.bool false),dE P "True" 54 (.bool true),dE P "bool" 55 (.type "bool"),dE P "memoryview" 56 (.type "memoryview"),dE P "bytearray" 57 (.type "bytearray"),dE P "bytes" 58 (.type "bytes"),dE P "classmethod" 59 (.type "classmethod"),dE P "complex" 60 (.type "complex"),dE P "dict" 61 (.type "dict"),dE P "enumerate" 62 (.type "enumerate"),dE P "filter" 63 (.type "filter"),dE P "float" 64 (.type "float"),dE P "frozenset" 65 (.type "frozenset"),dE P "property" 66 (.type "property"),dE P "int" 67 (.type "int"),dE P "list" 68 (.type "list"),dE P "map" 69 (.type "map"),dE P "object" 70 (.type "object"),dE P "range" 71 (.type "range"),dE P "reversed" 72 (.type "reversed"),dE P "set" 73 (.type "set"),dE P "slice" 74 (.type "slice"),dE P "staticmethod" 75 (.type "staticmethod"),dE P "str" 76 (.type "str"),dE P "super" 77 (.type "super"),dE P "tuple" 78 (.type "tuple"),dE P "type" 79 (.type "type"),dE P "zip" 80 (.type "zip"),dE P "__debug__" 81 (.bool true),dE P "BaseException" 82 (.type "BaseException"),dE P "BaseExceptionGroup" 83 (.type "BaseExceptionGroup"),dE P "Exception" 84 (.type "Exception"),dE P "GeneratorExit" 85 (.type "GeneratorExit"),dE P "KeyboardInterrupt" 86 (.type "KeyboardInterrupt"),dE P "SystemExit" 87 (.type "SystemExit"),dE P "ArithmeticError" 88 (.type "ArithmeticError"),dE P "AssertionError" 89 (.type "AssertionError"),dE P "AttributeError" 90 (.type "AttributeError"),dE P "BufferError" 91 (.type "BufferError"),dE P "EOFError" 92 (.type "EOFError"),dE P "ImportError" 93 (.type "ImportError"),dE P "LookupError" 94 (.type "LookupError"),dE P "MemoryError" 95 (.type "MemoryError"),dE P "NameError" 96 (.type "NameError"),dE P "OSError" 97 (.type "OSError"),dE P "ReferenceError" 98 (.type "ReferenceError"),dE P "RuntimeError" 99 (.type "RuntimeError"),dE P "StopAsyncIteration" 100 (.type "StopAsyncIteration"),dE P "StopIteration" 101 (.type "StopIteration"),dE P "SyntaxError" 102 (.type "SyntaxError"),dE P "SystemError" 103 (.type "SystemError"),dE P "TypeError" 104 (.type "TypeError"),dE P "ValueError" 105 (.type "ValueError"),dE P "Warning" 106 (.type "Warning"),dE P "FloatingPointError" 107 (.type "FloatingPointError"),dE P "OverflowError" 108 (.type "OverflowError"),dE P "ZeroDivisionError" 109 (.type "ZeroDivisionError"),dE P "BytesWarning" 110 (.type "BytesWarning"),dE P "DeprecationWarning" 111 (.type "DeprecationWarning"),dE P "EncodingWarning" 112 (.type "EncodingWarning"),dE P "FutureWarning" 113 (.type "FutureWarning"),dE P "ImportWarning" 114 (.type "ImportWarning"),dE P "PendingDeprecationWarning" 115 (.type "PendingDeprecationWarning"),dE P "ResourceWarning" 116 (.type "ResourceWarning"),dE P "RuntimeWarning" 117 (.type "RuntimeWarning"),dE P "SyntaxWarning" 118 (.type "SyntaxWarning"),dE P "UnicodeWarning" 119 (.type "UnicodeWarning"),dE P "UserWarning" 120 (.type "UserWarning"),dE P "BlockingIOError" 121 (.type "BlockingIOError"),dE P "ChildProcessError" 122 (.type "ChildProcessError"),dE P "ConnectionError" 123 (.type "ConnectionError"),dE P "FileExistsError" 124 (.type "FileExistsError"),dE P "FileNotFoundError" 125 (.type "FileNotFoundError"),dE P "InterruptedError" 126 (.type "InterruptedError"),dE P "IsADirectoryError" 127 (.type "IsADirectoryError"),dE P "NotADirectoryError" 128 (.type "NotADirectoryError"),dE P "PermissionError" 129 (.type "PermissionError"),dE P "ProcessLookupError" 130 (.type "ProcessLookupError"),dE P "TimeoutError" 131 (.type "TimeoutError"),dE P "IndentationError" 132 (.type "IndentationError"),dE P "_IncompleteInputError" 133 (.type "_IncompleteInputError"),dE P "IndexError" 134 (.type "IndexError"),dE P "KeyError" 135 (.type "KeyError"),dE P "ModuleNotFoundError" 136 (.type "ModuleNotFoundError"),dE P "NotImplementedError" 137 (.type "NotImplementedError"),dE P "PythonFinalizationError" 138 (.type "PythonFinalizationError"),dE P "RecursionError" 139 (.type "RecursionError"),dE P "UnboundLocalError" 140 (.type "UnboundLocalError"),dE P "UnicodeError" 141 (.type "UnicodeError"),dE P "BrokenPipeError" 142 (.type "BrokenPipeError"),dE P "ConnectionAbortedError" 143 (.type "ConnectionAbortedError"),dE P "ConnectionRefusedError" 144 (.type "ConnectionRefusedError"),dE P "ConnectionResetError" 145 (.type "ConnectionResetError"),dE P "TabError" 146 (.type "TabError"),dE P "UnicodeDecodeError" 147 (.type "UnicodeDecodeError"),dE P "UnicodeEncodeError" 148 (.type "UnicodeEncodeError"),dE P "UnicodeTranslateError" 149 (.type "UnicodeTranslateError"),dE P "ExceptionGroup" 150 (.type "ExceptionGroup"),dE P "EnvironmentError" 151 (.type "OSError"),dE P "IOError" 152 (.type "OSError"),dE P "open" 153 (.builtin "open"),dE P "quit" 154 (.builtin "builtins.quit#opaque"),dE P "exit" 155 (.builtin "builtins.exit#opaque"),dE P "copyright" 156 (.builtin "builtins.copyright#opaque"),dE P "credits" 157 (.builtin "builtins.credits#opaque"),dE P "license" 158 (.builtin "builtins.license#opaque"),dE P "help" 159 (.builtin "builtins.help#opaque")]⟩ 159,⟨[]⟩⟩,
 ⟨.type "dict",none, .dict ⟨[dE P "builtins" 162 (.ref 4),dE P "__main__" 163 (.ref 5),dE P "_sre" 244 (.ref 12)]⟩ 3,⟨[]⟩⟩,
 ⟨.none,none, .dict ⟨[dE P "\x69mport.loaded._sre" 183 (.bool true),dE P "class._frozen_importlib.BuiltinImporter" 185 (.ref 14),dE P "watched.\x69mport" 206 (.ref 18),dE P "class._frozen_importlib.ModuleSpec" 216 (.ref 22),dE P "sys.modules.booked-epoch" 245 (.int 3 0),dE P "\x69mport.later-laid._sre" 270 (.bool true),dE P "watched.library" 272 (.ref 27),dE P "watched.library-objects" 0 (.str (⟨⟨[12]⟩⟩:Str) 0),dE P "watched.library-deep._sre" 273 (.str (⟨⟨[4,0,0,11,4,0,0,11,4,0,0,3,4,0,0,11,8,4,100,105,99,116,2]⟩⟩:Str) 0)]⟩ 9,⟨[]⟩⟩,
 ⟨.type "dict",none, .dict ⟨[dE P "__name__" 165 (.str "cpy313.stringprep" 394),dE P "__doc__" 166 .none,dE P "__package__" 167 .none,dE P "__loader__" 168 (.builtin "__main__.__loader__#opaque"),dE P "__spec__" 169 .none,dE P "__annotations__" 170 (.ref 6),dE P "__builtins__" 171 (.ref 4),dE P "__file__" 173 (.str "/claim/cut.py" 172),dE P "__cached__" 174 .none,dE P "_sre" 275 (.ref 12),dE P "_wall" 288 (.ref 38),dE P "_MAX_STRING_SIZE" 292 (.int 40 291),dE P "_MOVE_COST" 294 (.int 2 293),dE P "_CASE_COST" 296 (.int 1 295),dE P "_substitution_cost" 304 (.ref 45),dE P "_levenshtein_distance" 324 (.ref 52),dE P "_twin_re_1" 342 (.ref 57),dE P "_twin_re_2" 384 (.ref 62),dE P "CRLF" 386 (.str (⟨⟨[13,10]⟩⟩:Str) 385),dE P "quotedata" 393 (.ref 69)]⟩ 20,⟨[]⟩⟩,
 ⟨.type "module",(some 0), .plain,⟨[]⟩⟩,
 ⟨.type "module",(some 3), .plain,⟨[]⟩⟩,
 ⟨.type "dict",none, .dict ⟨[]⟩ 0,⟨[]⟩⟩,
 ⟨.type "tuple",none, .seq ⟨[]⟩ 0,⟨[]⟩⟩,
 ⟨.none,none, .fields ⟨[]⟩,⟨[]⟩⟩,
 ⟨.type "code",none, .fields ⟨[.str "<module>" 176, .str "<module>" 177, .str "/claim/cut.py" 178, .int 1 0, .int 0 0, .int 0 0, .int 0 0, .int 0 0, .ref 7, .bool false, .int 175 0, .ref 8, .none, .none, .none, .none, .int 179 0, .int 1 0, .str "/claim/cut.py" 180]⟩,⟨[]⟩⟩,
 ⟨.type "frame",none, .plain,⟨[some (.ref 9),some (.ref 3),some (.ref 3),none,some (.str "__main__" 164),none,some (.ref 0)]⟩⟩,
 ⟨.type "dict",none, .dict ⟨[dE P "__name__" 247 (.str "_sre" 246),dE P "__doc__" 248 .none,dE P "__package__" 250 (.str "" 249),dE P "__loader__" 251 (.builtin "off-the-table:_sre.__loader__:shared#opaque"),dE P "__spec__" 252 (.builtin "off-the-table:_sre.__spec__:shared#opaque"),dE P "compile" 253 (.builtin "_sre.compile"),dE P "template" 254 (.builtin "off-the-table:_sre.template:shared#opaque"),dE P "getcodesize" 255 (.builtin "off-the-table:_sre.getcodesize:shared#opaque"),dE P "ascii_iscased" 256 (.builtin "off-the-table:_sre.ascii_iscased:shared#opaque"),dE P "unicode_iscased" 257 (.builtin "off-the-table:_sre.unicode_iscased:shared#opaque"),dE P "ascii_tolower" 258 (.builtin "off-the-table:_sre.ascii_tolower:shared#opaque"),dE P "unicode_tolower" 259 (.builtin "off-the-table:_sre.unicode_tolower:shared#opaque"),dE P "MAGIC" 261 (.int 20230612 260),dE P "CODESIZE" 263 (.int 4 262),dE P "MAXREPEAT" 265 (.int 4294967295 264),dE P "MAXGROUPS" 267 (.int 1073741823 266),dE P "copyright" 269 (.str " SRE 2.2.2 Copyright (c) 1997-2002 by Secret Labs AB " 268)]⟩ 17,⟨[]⟩⟩,
 ⟨.type "module",(some 11), .plain,⟨[]⟩⟩,
 ⟨.type "dict",none, .dict ⟨[dE P "__module__" 189 (.str "_frozen_importlib" 186),dE P "__firstlineno__" 190 (.int 971 187),dE P "__doc__" 191 (.builtin "_frozen_importlib.BuiltinImporter.__doc__:str#opaque"),dE P "_ORIGIN" 192 (.str "built-in" 188),dE P "find_spec" 193 (.builtin "_frozen_importlib.BuiltinImporter.find_spec#opaque"),dE P "create_module" 194 (.builtin "_frozen_importlib.BuiltinImporter.create_module#opaque"),dE P "exec_module" 195 (.builtin "_frozen_importlib.BuiltinImporter.exec_module#opaque"),dE P "get_code" 196 (.builtin "_frozen_importlib.BuiltinImporter.get_code#opaque"),dE P "get_source" 197 (.builtin "_frozen_importlib.BuiltinImporter.get_source#opaque"),dE P "is_package" 198 (.builtin "_frozen_importlib.BuiltinImporter.is_package#opaque"),dE P "load_module" 199 (.builtin "_frozen_importlib.BuiltinImporter.load_module#opaque"),dE P "__static_attributes__" 200 (.ref 15),dE P "__dict__" 202 (.ref 16),dE P "__weakref__" 204 (.ref 17)]⟩ 14,⟨[]⟩⟩,
 ⟨.type "type",none, .cls { name:="BuiltinImporter",bases:=[.type "object"],mro:=[.ref 14, .type "object"],ns:=13,qualname:="BuiltinImporter",hasDict:=true,slotNames:=[],subclasses:=[],abstract:=false,collection:=none,hasDel:=false },⟨[]⟩⟩,
 ⟨.type "tuple",none, .seq ⟨[]⟩ 0,⟨[]⟩⟩,
 ⟨.type "getset_descriptor",none, .fields ⟨[.str "__dict__" 201, .ref 14, .builtin "function.__dict__", .builtin "function.__dict__#set"]⟩,⟨[]⟩⟩,
 ⟨.type "getset_descriptor",none, .fields ⟨[.str "__weakref__" 203, .ref 14, .builtin "ExceptionGroup.__weakref__", .none]⟩,⟨[]⟩⟩,
 ⟨.none,none, .seq ⟨[.int 13 0, .str (⟨⟨[6,189,10,95,95,109,111,100,117,108,101,95,95,6,186,17,95,102,114,111,122,101,110,95,105,109,112,111,114,116,108,105,98,6,190,15,95,95,102,105,114,115,116,108,105,110,101,110,111,95,95,4,187,0,971,6,191,7,95,95,100,111,99,95,95,9,52,95,102,114,111,122,101,110,95,105,109,112,111,114,116,108,105,98,46,66,117,105,108,116,105,110,73,109,112,111,114,116,101,114,46,95,95,100,111,99,95,95,58,115,116,114,35,111,112,97,113,117,101,6,192,7,95,79,82,73,71,73,78,6,188,8,98,117,105,108,116,45,105,110,6,193,9,102,105,110,100,95,115,112,101,99,9,50,95,102,114,111,122,101,110,95,105,109,112,111,114,116,108,105,98,46,66,117,105,108,116,105,110,73,109,112,111,114,116,101,114,46,102,105,110,100,95,115,112,101,99,35,111,112,97,113,117,101,6,194,13,99,114,101,97,116,101,95,109,111,100,117,108,101,9,54,95,102,114,111,122,101,110,95,105,109,112,111,114,116,108,105,98,46,66,117,105,108,116,105,110,73,109,112,111,114,116,101,114,46,99,114,101,97,116,101,95,109,111,100,117,108,101,35,111,112,97,113,117,101,6,195,11,101,120,101,99,95,109,111,100,117,108,101,9,52,95,102,114,111,122,101,110,95,105,109,112,111,114,116,108,105,98,46,66,117,105,108,116,105,110,73,109,112,111,114,116,101,114,46,101,120,101,99,95,109,111,100,117,108,101,35,111,112,97,113,117,101,6,196,8,103,101,116,95,99,111,100,101,9,49,95,102,114,111,122,101,110,95,105,109,112,111,114,116,108,105,98,46,66,117,105,108,116,105,110,73,109,112,111,114,116,101,114,46,103,101,116,95,99,111,100,101,35,111,112,97,113,117,101,6,197,10,103,101,116,95,115,111,117,114,99,101,9,51,95,102,114,111,122,101,110,95,105,109,112,111,114,116,108,105,98,46,66,117,105,108,116,105,110,73,109,112,111,114,116,101,114,46,103,101,116,95,115,111,117,114,99,101,35,111,112,97,113,117,101,6,198,10,105,115,95,112,97,99,107,97,103,101,9,51,95,102,114,111,122,101,110,95,105,109,112,111,114,116,108,105,98,46,66,117,105,108,116,105,110,73,109,112,111,114,116,101,114,46,105,115,95,112,97,99,107,97,103,101,35,111,112,97,113,117,101,6,199,11,108,111,97,100,95,109,111,100,117,108,101,9,52,95,102,114,111,122,101,110,95,105,109,112,111,114,116,108,105,98,46,66,117,105,108,116,105,110,73,109,112,111,114,116,101,114,46,108,111,97,100,95,109,111,100,117,108,101,35,111,112,97,113,117,101,6,200,21,95,95,115,116,97,116,105,99,95,97,116,116,114,105,98,117,116,101,115,95,95,4,0,0,15,6,202,8,95,95,100,105,99,116,95,95,4,0,0,16,6,204,11,95,95,119,101,97,107,114,101,102,95,95,4,0,0,17]⟩⟩:Str) 0, .bool true, .bool true, .str "" 205, .int 21 0, .str (⟨⟨[6,227,10,95,95,109,111,100,117,108,101,95,95,6,217,17,95,102,114,111,122,101,110,95,105,109,112,111,114,116,108,105,98,6,228,15,95,95,102,105,114,115,116,108,105,110,101,110,111,95,95,4,218,0,562,6,229,7,95,95,100,111,99,95,95,9,47,95,102,114,111,122,101,110,95,105,109,112,111,114,116,108,105,98,46,77,111,100,117,108,101,83,112,101,99,46,95,95,100,111,99,95,95,58,115,116,114,35,111,112,97,113,117,101,6,230,8,95,95,105,110,105,116,95,95,9,44,95,102,114,111,122,101,110,95,105,109,112,111,114,116,108,105,98,46,77,111,100,117,108,101,83,112,101,99,46,95,95,105,110,105,116,95,95,35,111,112,97,113,117,101,6,231,8,95,95,114,101,112,114,95,95,9,44,95,102,114,111,122,101,110,95,105,109,112,111,114,116,108,105,98,46,77,111,100,117,108,101,83,112,101,99,46,95,95,114,101,112,114,95,95,35,111,112,97,113,117,101,6,232,6,95,95,101,113,95,95,9,42,95,102,114,111,122,101,110,95,105,109,112,111,114,116,108,105,98,46,77,111,100,117,108,101,83,112,101,99,46,95,95,101,113,95,95,35,111,112,97,113,117,101,6,233,6,99,97,99,104,101,100,9,42,95,102,114,111,122,101,110,95,105,109,112,111,114,116,108,105,98,46,77,111,100,117,108,101,83,112,101,99,46,99,97,99,104,101,100,35,111,112,97,113,117,101,6,234,6,112,97,114,101,110,116,9,42,95,102,114,111,122,101,110,95,105,109,112,111,114,116,108,105,98,46,77,111,100,117,108,101,83,112,101,99,46,112,97,114,101,110,116,35,111,112,97,113,117,101,6,235,12,104,97,115,95,108,111,99,97,116,105,111,110,9,48,95,102,114,111,122,101,110,95,105,109,112,111,114,116,108,105,98,46,77,111,100,117,108,101,83,112,101,99,46,104,97,115,95,108,111,99,97,116,105,111,110,35,111,112,97,113,117,101,6,236,21,95,95,115,116,97,116,105,99,95,97,116,116,114,105,98,117,116,101,115,95,95,4,0,0,23,6,238,8,95,95,100,105,99,116,95,95,4,0,0,24,6,240,11,95,95,119,101,97,107,114,101,102,95,95,4,0,0,25,6,241,8,95,95,104,97,115,104,95,95,0]⟩⟩:Str) 0, .bool true, .bool true, .str "" 242]⟩ 1,⟨[]⟩⟩,
 ⟨.type "list",none, .seq ⟨[]⟩ 0,⟨[]⟩⟩,
 ⟨.type "dict",none, .dict ⟨[dE P "name" 208 (.str "_sre" 207),dE P "loader" 209 (.ref 14),dE P "origin" 210 (.str "built-in" 184),dE P "loader_state" 211 .none,dE P "submodule_search_locations" 212 .none,dE P "_uninitialized_submodules" 213 (.ref 19),dE P "_set_fileattr" 214 (.bool false),dE P "_cached" 215 .none,dE P "_initializing" 243 (.bool false)]⟩ 9,⟨[]⟩⟩,
 ⟨.type "dict",none, .dict ⟨[dE P "__module__" 227 (.str "_frozen_importlib" 217),dE P "__firstlineno__" 228 (.int 562 218),dE P "__doc__" 229 (.builtin "_frozen_importlib.ModuleSpec.__doc__:str#opaque"),dE P "__init__" 230 (.builtin "_frozen_importlib.ModuleSpec.__init__#opaque"),dE P "__repr__" 231 (.builtin "_frozen_importlib.ModuleSpec.__repr__#opaque"),dE P "__eq__" 232 (.builtin "_frozen_importlib.ModuleSpec.__eq__#opaque"),dE P "cached" 233 (.builtin "_frozen_importlib.ModuleSpec.cached#opaque"),dE P "parent" 234 (.builtin "_frozen_importlib.ModuleSpec.parent#opaque"),dE P "has_location" 235 (.builtin "_frozen_importlib.ModuleSpec.has_location#opaque"),dE P "__static_attributes__" 236 (.ref 23),dE P "__dict__" 238 (.ref 24),dE P "__weakref__" 240 (.ref 25),dE P "__hash__" 241 .none]⟩ 13,⟨[]⟩⟩,
 ⟨.type "type",none, .cls { name:="ModuleSpec",bases:=[.type "object"],mro:=[.ref 22, .type "object"],ns:=21,qualname:="ModuleSpec",hasDict:=true,slotNames:=[],subclasses:=[],abstract:=false,collection:=none,hasDel:=false },⟨[]⟩⟩,
 ⟨.type "tuple",none, .seq ⟨[.str "_cached" 219, .str "_set_fileattr" 220, .str "_uninitialized_submodules" 221, .str "loader" 222, .str "loader_state" 223, .str "name" 224, .str "origin" 225, .str "submodule_search_locations" 226]⟩ 0,⟨[]⟩⟩,
 ⟨.type "getset_descriptor",none, .fields ⟨[.str "__dict__" 237, .ref 22, .builtin "function.__dict__", .builtin "function.__dict__#set"]⟩,⟨[]⟩⟩,
 ⟨.type "getset_descriptor",none, .fields ⟨[.str "__weakref__" 239, .ref 22, .builtin "ExceptionGroup.__weakref__", .none]⟩,⟨[]⟩⟩,
 ⟨.ref 22,(some 20), .plain,⟨[]⟩⟩,
 ⟨.none,none, .seq ⟨[.int 11 0, .str (⟨⟨[6,247,8,95,95,110,97,109,101,95,95,6,246,4,95,115,114,101,6,248,7,95,95,100,111,99,95,95,0,6,250,11,95,95,112,97,99,107,97,103,101,95,95,6,249,0,6,251,10,95,95,108,111,97,100,101,114,95,95,4,0,0,14,6,252,8,95,95,115,112,101,99,95,95,4,0,0,26,6,253,7,99,111,109,112,105,108,101,9,12,95,115,114,101,46,99,111,109,112,105,108,101,6,254,8,116,101,109,112,108,97,116,101,9,13,95,115,114,101,46,116,101,109,112,108,97,116,101,6,255,11,103,101,116,99,111,100,101,115,105,122,101,9,16,95,115,114,101,46,103,101,116,99,111,100,101,115,105,122,101,6,256,13,97,115,99,105,105,95,105,115,99,97,115,101,100,9,18,95,115,114,101,46,97,115,99,105,105,95,105,115,99,97,115,101,100,6,257,15,117,110,105,99,111,100,101,95,105,115,99,97,115,101,100,9,20,95,115,114,101,46,117,110,105,99,111,100,101,95,105,115,99,97,115,101,100,6,258,13,97,115,99,105,105,95,116,111,108,111,119,101,114,9,18,95,115,114,101,46,97,115,99,105,105,95,116,111,108,111,119,101,114,6,259,15,117,110,105,99,111,100,101,95,116,111,108,111,119,101,114,9,20,95,115,114,101,46,117,110,105,99,111,100,101,95,116,111,108,111,119,101,114,6,261,5,77,65,71,73,67,4,260,0,20230612,6,263,8,67,79,68,69,83,73,90,69,4,262,0,4,6,265,9,77,65,88,82,69,80,69,65,84,4,264,0,4294967295,6,267,9,77,65,88,71,82,79,85,80,83,4,266,0,1073741823,6,269,9,99,111,112,121,114,105,103,104,116,6,268,53,32,83,82,69,32,50,46,50,46,50,32,67,111,112,121,114,105,103,104,116,32,40,99,41,32,49,57,57,55,45,50,48,48,50,32,98,121,32,83,101,99,114,101,116,32,76,97,98,115,32,65,66,32]⟩⟩:Str) 0, .bool true, .bool false, .str "_sre" 271]⟩ 0,⟨[]⟩⟩,
 ⟨.type "tuple",none, .seq ⟨[]⟩ 0,⟨[]⟩⟩,
 ⟨.none,none, .fields ⟨[.int 2 0, .int 0 0, .ref 37, .int 9 0, .int 0 0, .ref 44, .int 15 0, .int 0 0, .ref 51, .int 57 0, .int 0 0, .ref 68]⟩,⟨[]⟩⟩,
 ⟨.type "code",none, .fields ⟨[.str "<module>" 277, .str "<module>" 278, .str "/claim/cut.py" 279, .int 1 0, .int 0 0, .int 0 0, .int 0 0, .int 0 0, .ref 28, .bool false, .int 276 0, .ref 29, .none, .none, .none, .none, .int 280 0, .int 1 0, .str "/claim/cut.py" 281]⟩,⟨[]⟩⟩,
 ⟨.type "frame",none, .plain,⟨[some (.ref 30),some (.ref 3),some (.ref 3),none,some (.str "__main__" 164),none,some (.ref 0)]⟩⟩,
 ⟨.type "tuple",none, .seq ⟨[]⟩ 0,⟨[]⟩⟩,
 ⟨.none,none, .fields ⟨[]⟩,⟨[]⟩⟩,
 ⟨.type "tuple",none, .seq ⟨[.str "k" 285]⟩ 0,⟨[]⟩⟩,
 ⟨.type "tuple",none, .seq ⟨[]⟩ 0,⟨[]⟩⟩,
 ⟨.none,none, .func (fD (aQ p 1) "_wall" 0 .none .none 0),⟨[]⟩⟩,
 ⟨.type "code",none, .fields ⟨[.str "_wall" 282, .str "_wall" 283, .str "/claim/cut.py" 284, .int 2 0, .int 1 0, .int 0 0, .int 0 0, .int 3 0, .ref 32, .bool true, .int 276 0, .ref 33, .none, .ref 34, .ref 35, .ref 36, .int 286 0, .int 2 0, .str "/claim/cut.py" 287]⟩,⟨[]⟩⟩,
 ⟨.type "function",none, .func (fD (aQ p 1) "_wall" 3 (.str "__main__" 164) (.ref 37) 0),⟨[]⟩⟩,
 ⟨.type "tuple",none, .seq ⟨[]⟩ 0,⟨[]⟩⟩,
 ⟨.none,none, .fields ⟨[]⟩,⟨[]⟩⟩,
 ⟨.type "tuple",none, .seq ⟨[.str "ch_a" 300, .str "ch_b" 301]⟩ 0,⟨[]⟩⟩,
 ⟨.type "tuple",none, .seq ⟨[]⟩ 0,⟨[]⟩⟩,
 ⟨.none,none, .func (fD (aQ p 6) "_substitution_cost" 0 .none .none 0),⟨[]⟩⟩,
 ⟨.type "code",none, .fields ⟨[.str "_substitution_cost" 297, .str "_substitution_cost" 298, .str "/claim/cut.py" 299, .int 9 0, .int 2 0, .int 0 0, .int 0 0, .int 3 0, .ref 39, .bool true, .int 276 0, .ref 40, .none, .ref 41, .ref 42, .ref 43, .int 302 0, .int 9 0, .str "/claim/cut.py" 303]⟩,⟨[]⟩⟩,
 ⟨.type "function",none, .func (fD (aQ p 6) "_substitution_cost" 3 (.str "cpy313.traceback" 289) (.ref 44) 0),⟨[]⟩⟩,
 ⟨.type "tuple",none, .seq ⟨[]⟩ 0,⟨[]⟩⟩,
 ⟨.none,none, .fields ⟨[]⟩,⟨[]⟩⟩,
 ⟨.type "tuple",none, .seq ⟨[.str "a" 308, .str "b" 309, .str "max_cost" 310, .str "pre" 311, .str "post" 312, .str "row" 313, .str "result" 314, .str "bindex" 315, .str "bchar" 316, .str "distance" 317, .str "minimum" 318, .str "index" 319, .str "substitute" 320, .str "insert_delete" 321]⟩ 0,⟨[]⟩⟩,
 ⟨.type "tuple",none, .seq ⟨[]⟩ 0,⟨[]⟩⟩,
 ⟨.none,none, .func (fD (aQ p 7) "_levenshtein_distance" 0 .none .none 0),⟨[]⟩⟩,
 ⟨.type "code",none, .fields ⟨[.str "_levenshtein_distance" 305, .str "_levenshtein_distance" 306, .str "/claim/cut.py" 307, .int 15 0, .int 3 0, .int 0 0, .int 0 0, .int 3 0, .ref 46, .bool true, .int 276 0, .ref 47, .none, .ref 48, .ref 49, .ref 50, .int 322 0, .int 15 0, .str "/claim/cut.py" 323]⟩,⟨[]⟩⟩,
 ⟨.type "function",none, .func (fD (aQ p 7) "_levenshtein_distance" 3 (.str "cpy313.traceback" 289) (.ref 51) 0),⟨[]⟩⟩,
 ⟨.type "list",none, .seq ⟨[.int 14 330, .int 4 331, .int 0 332, .int 1 333, .int 1 334, .int 6 335, .int 1 336, .int 16 337, .int 46 338, .int 1 339]⟩ 0,⟨[]⟩⟩,
 ⟨.type "dict",none, .dict ⟨[]⟩ 0,⟨[]⟩⟩,
 ⟨.type "tuple",none, .seq ⟨[.none]⟩ 0,⟨[]⟩⟩,
 ⟨.type "tuple",none, .seq ⟨[.int 14 0, .int 4 0, .int 0 0, .int 1 0, .int 1 0, .int 6 0, .int 1 0, .int 16 0, .int 46 0, .int 1 0]⟩ 0,⟨[]⟩⟩,
 ⟨.type "re.Pattern",none, .fields ⟨[.str (⟨⟨[40,63,109,41,94,92,46]⟩⟩:Str) 328, .int 40 341, .int 0 0, .none, .none, .ref 56, .int 0 0]⟩,⟨[]⟩⟩,
 ⟨.type "list",none, .seq ⟨[.int 14 346, .int 9 347, .int 4 348, .int 1 349, .int 2 350, .int 16 351, .int 10 352, .int 16 353, .int 13 354, .int 0 355, .int 7 356, .int 7 357, .int 16 358, .int 13 359, .int 16 360, .int 10 361, .int 15 362, .int 18 363, .int 5 364, .int 16 365, .int 10 366, .int 15 367, .int 13 368, .int 11 369, .int 16 370, .int 13 371, .int 5 372, .int 5 373, .int 0 374, .int 16 375, .int 10 376, .int 1 377, .int 15 378, .int 2 379, .int 0 380, .int 1 381]⟩ 0,⟨[]⟩⟩,
 ⟨.type "dict",none, .dict ⟨[]⟩ 0,⟨[]⟩⟩,
 ⟨.type "tuple",none, .seq ⟨[.none]⟩ 0,⟨[]⟩⟩,
 ⟨.type "tuple",none, .seq ⟨[.int 14 0, .int 9 0, .int 4 0, .int 1 0, .int 2 0, .int 16 0, .int 10 0, .int 16 0, .int 13 0, .int 0 0, .int 7 0, .int 7 0, .int 16 0, .int 13 0, .int 16 0, .int 10 0, .int 15 0, .int 18 0, .int 5 0, .int 16 0, .int 10 0, .int 15 0, .int 13 0, .int 11 0, .int 16 0, .int 13 0, .int 5 0, .int 5 0, .int 0 0, .int 16 0, .int 10 0, .int 1 0, .int 15 0, .int 2 0, .int 0 0, .int 1 0]⟩ 0,⟨[]⟩⟩,
 ⟨.type "re.Pattern",none, .fields ⟨[.str (⟨⟨[40,63,58,92,114,92,110,124,92,110,124,92,114,40,63,33,92,110,41,41]⟩⟩:Str) 344, .int 32 383, .int 0 0, .none, .none, .ref 61, .int 0 0]⟩,⟨[]⟩⟩,
 ⟨.type "tuple",none, .seq ⟨[]⟩ 0,⟨[]⟩⟩,
 ⟨.none,none, .fields ⟨[]⟩,⟨[]⟩⟩,
 ⟨.type "tuple",none, .seq ⟨[.str "data" 390]⟩ 0,⟨[]⟩⟩,
 ⟨.type "tuple",none, .seq ⟨[]⟩ 0,⟨[]⟩⟩,
 ⟨.none,none, .func (fD (aQ p 12) "quotedata" 0 .none .none 0),⟨[]⟩⟩,
 ⟨.type "code",none, .fields ⟨[.str "quotedata" 387, .str "quotedata" 388, .str "/claim/cut.py" 389, .int 57 0, .int 1 0, .int 0 0, .int 0 0, .int 3 0, .ref 63, .bool true, .int 276 0, .ref 64, .none, .ref 65, .ref 66, .ref 67, .int 391 0, .int 57 0, .str "/claim/cut.py" 392]⟩,⟨[]⟩⟩,
 ⟨.type "function",none, .func (fD (aQ p 12) "quotedata" 3 (.str "cpy313.smtplib" 325) (.ref 68) 0),⟨[]⟩⟩]
noncomputable def Aw(p:Program)(P:Params):List Obj:=((Av p P).set 3 (⟨.type "dict",none, .dict ⟨[dE P "__name__" 165 (.str "cpy313.stringprep" 394),dE P "__doc__" 166 .none,dE P "__package__" 167 .none,dE P "__loader__" 168 (.builtin "__main__.__loader__#opaque"),dE P "__spec__" 169 .none,dE P "__annotations__" 170 (.ref 6),dE P "__builtins__" 171 (.ref 4),dE P "__file__" 173 (.str "/claim/cut.py" 172),dE P "__cached__" 174 .none,dE P "_sre" 275 (.ref 12),dE P "_wall" 288 (.ref 38),dE P "_MAX_STRING_SIZE" 292 (.int 40 291),dE P "_MOVE_COST" 294 (.int 2 293),dE P "_CASE_COST" 296 (.int 1 295),dE P "_substitution_cost" 304 (.ref 45),dE P "_levenshtein_distance" 324 (.ref 52),dE P "_twin_re_1" 342 (.ref 57),dE P "_twin_re_2" 384 (.ref 62),dE P "CRLF" 386 (.str (⟨⟨[13,10]⟩⟩:Str) 385),dE P "quotedata" 393 (.ref 69),dE P "b1_set" 455 (.ref 77)]⟩ 21,⟨[]⟩⟩))++[
 ⟨.type "list",none, .seq ⟨[.int 173 396, .int 847 397, .int 6150 398, .int 6155 399, .int 6156 400, .int 6157 401, .int 8203 402, .int 8204 403, .int 8205 404, .int 8288 405, .int 65279 406]⟩ 0,⟨[]⟩⟩,
 ⟨.type "range",none, .fields ⟨[.int 65024 407, .int 65040 408, .int 1 409]⟩,⟨[]⟩⟩,
 ⟨.type "list",none, .seq ⟨[.int 65024 412, .int 65025 413, .int 65026 414, .int 65027 415, .int 65028 416, .int 65029 417, .int 65030 418, .int 65031 419, .int 65032 420, .int 65033 421, .int 65034 422, .int 65035 423, .int 65036 424, .int 65037 425, .int 65038 426, .int 65039 427]⟩ 18,⟨[]⟩⟩,
 ⟨.type "range_iterator",none, .fields ⟨[.int 65040 0, .int 0 0, .int 1 0]⟩,⟨[]⟩⟩,
 ⟨.type "tuple",none, .seq ⟨[]⟩ 0,⟨[]⟩⟩,
 ⟨.type "StopIteration",none, .fields ⟨[.ref 74, .none, .none, .none, .bool false, .none]⟩,⟨[]⟩⟩,
 ⟨.type "list",none, .seq ⟨[.int 173 396, .int 847 397, .int 6150 398, .int 6155 399, .int 6156 400, .int 6157 401, .int 8203 402, .int 8204 403, .int 8205 404, .int 8288 405, .int 65279 406, .int 65024 412, .int 65025 413, .int 65026 414, .int 65027 415, .int 65028 416, .int 65029 417, .int 65030 418, .int 65031 419, .int 65032 420, .int 65033 421, .int 65034 422, .int 65035 423, .int 65036 424, .int 65037 425, .int 65038 426, .int 65039 427]⟩ 0,⟨[]⟩⟩,
 ⟨.type "set",none, .set ⟨[(65024, .int 65024 412),(65025, .int 65025 413),(65026, .int 65026 414),(65027, .int 65027 415),(65028, .int 65028 416),(65029, .int 65029 417),(6150, .int 6150 398),(65030, .int 65030 418),(65031, .int 65031 419),(65032, .int 65032 420),(65033, .int 65033 421),(6155, .int 6155 399),(6156, .int 6156 400),(6157, .int 6157 401),(8203, .int 8203 402),(8204, .int 8204 403),(8205, .int 8205 404),(65034, .int 65034 422),(65035, .int 65035 423),(65036, .int 65036 424),(65037, .int 65037 425),(65038, .int 65038 426),(65039, .int 65039 427),(173, .int 173 396),(847, .int 847 397),(8288, .int 8288 405),(65279, .int 65279 406)]⟩ 29 { mask:=127,place:=⟨[0,1,2,3,4,5,6,7,8,9,10,11,12,13,14,15,16,17,18,19,20,21,22,45,79,96,127]⟩,dummies:=⟨[]⟩,finger:=0,led := !(P.followText "set-order"),moves:=2,plain:=true },⟨[]⟩⟩,
 ⟨.type "list_iterator",none, .fields ⟨[.none, .int 27 0]⟩,⟨[]⟩⟩,
 ⟨.type "tuple",none, .seq ⟨[]⟩ 0,⟨[]⟩⟩,
 ⟨.type "StopIteration",none, .fields ⟨[.ref 79, .none, .none, .none, .bool false, .none]⟩,⟨[]⟩⟩]
noncomputable def DS(p:Program)(P:Params):List Obj:=(((Aw p P).set 3 (⟨.type "dict",none, .dict ⟨[dE P "__name__" 165 (.str "cpy313.stringprep" 394),dE P "__doc__" 166 .none,dE P "__package__" 167 .none,dE P "__loader__" 168 (.builtin "__main__.__loader__#opaque"),dE P "__spec__" 169 .none,dE P "__annotations__" 170 (.ref 6),dE P "__builtins__" 171 (.ref 4),dE P "__file__" 173 (.str "/claim/cut.py" 172),dE P "__cached__" 174 .none,dE P "_sre" 275 (.ref 12),dE P "_wall" 288 (.ref 38),dE P "_MAX_STRING_SIZE" 292 (.int 40 291),dE P "_MOVE_COST" 294 (.int 2 293),dE P "_CASE_COST" 296 (.int 1 295),dE P "_substitution_cost" 304 (.ref 45),dE P "_levenshtein_distance" 324 (.ref 52),dE P "_twin_re_1" 342 (.ref 57),dE P "_twin_re_2" 384 (.ref 62),dE P "CRLF" 386 (.str (⟨⟨[13,10]⟩⟩:Str) 385),dE P "quotedata" 393 (.ref 69),dE P "b1_set" 455 (.ref 77),dE P "in_table_b1" 462 (.ref 87)]⟩ 22,⟨[]⟩⟩)).set 29 (⟨.none,none, .fields ⟨[.int 2 0, .int 0 0, .ref 37, .int 9 0, .int 0 0, .ref 44, .int 15 0, .int 0 0, .ref 51, .int 57 0, .int 0 0, .ref 68, .int 61 0, .int 0 0, .ref 86]⟩,⟨[]⟩⟩))++[
 ⟨.type "tuple",none, .seq ⟨[]⟩ 0,⟨[]⟩⟩,
 ⟨.none,none, .fields ⟨[]⟩,⟨[]⟩⟩,
 ⟨.type "tuple",none, .seq ⟨[.str "code" 459]⟩ 0,⟨[]⟩⟩,
 ⟨.type "tuple",none, .seq ⟨[]⟩ 0,⟨[]⟩⟩,
 ⟨.none,none, .func (fD (aQ p 15) "in_table_b1" 0 .none .none 0),⟨[]⟩⟩,
 ⟨.type "code",none, .fields ⟨[.str "in_table_b1" 456, .str "in_table_b1" 457, .str "/claim/cut.py" 458, .int 61 0, .int 1 0, .int 0 0, .int 0 0, .int 3 0, .ref 81, .bool true, .int 276 0, .ref 82, .none, .ref 83, .ref 84, .ref 85, .int 460 0, .int 61 0, .str "/claim/cut.py" 461]⟩,⟨[]⟩⟩,
 ⟨.type "function",none, .func (fD (aQ p 15) "in_table_b1" 3 (.str "cpy313.stringprep" 394) (.ref 86) 0),⟨[]⟩⟩]
noncomputable def fR(p:Program):qM where
 globals:=[
  (Str.ofString "_sre",some (.ref 12)),
  (Str.ofString "_wall",some (.ref 38)),
  (Str.ofString "_MAX_STRING_SIZE",some (.int 40 0)),
  (Str.ofString "_MOVE_COST",some (.int 2 0)),
  (Str.ofString "_CASE_COST",some (.int 1 0)),
  (Str.ofString "_substitution_cost",some (.ref 45)),
  (Str.ofString "_levenshtein_distance",some (.ref 52)),
  (Str.ofString "_twin_re_1",some (.ref 57)),
  (Str.ofString "_twin_re_2",some (.ref 62)),
  (Str.ofString "CRLF",some (.str (⟨⟨[13,10]⟩⟩:Str) 0)),
  (Str.ofString "quotedata",some (.ref 69)),
  (Str.ofString "b1_set",some (.ref 77)),
  (Str.ofString "in_table_b1",some (.ref 87)),
  (Str.ofString "b3_exceptions",some (.ref 88)),
  (Str.ofString "map_table_b3",some (.ref 133)),
  (Str.ofString "Whitespace",some (.ref 195)),
  (Str.ofString "_law_columns",some (.ref 206)),
  (Str.ofString "_law_above",some (.ref 211)),
  (Str.ofString "_law_heads",some (.ref 216)),
  (Str.ofString "_law_mail",some (.ref 223)),
  (Str.ofString "_law_due",some (.ref 228)),
  (Str.ofString "law",some (.ref 233)),
  (Str.ofString "len",none),
  (Str.ofString "ord",none),
  (Str.ofString "chr",none),
  (Str.ofString "min",none),
  (Str.ofString "max",none),
  (Str.ofString "sum",none),
  (Str.ofString "all",none),
  (Str.ofString "range",none),
  (Str.ofString "list",none),
  (Str.ofString "tuple",none),
  (Str.ofString "sorted",none),
  (Str.ofString "enumerate",none),
  (Str.ofString "zip",none),
  (Str.ofString "set",none)]
 builtins:=[
  (Str.ofString "len",some (.builtin "len")),
  (Str.ofString "ord",some (.builtin "ord")),
  (Str.ofString "chr",some (.builtin "chr")),
  (Str.ofString "min",some (.builtin "min")),
  (Str.ofString "max",some (.builtin "max")),
  (Str.ofString "sum",some (.builtin "sum")),
  (Str.ofString "all",some (.builtin "all")),
  (Str.ofString "range",some (.type "range")),
  (Str.ofString "list",some (.type "list")),
  (Str.ofString "tuple",some (.type "tuple")),
  (Str.ofString "sorted",some (.builtin "sorted")),
  (Str.ofString "enumerate",some (.type "enumerate")),
  (Str.ofString "zip",some (.type "zip")),
  (Str.ofString "set",some (.type "set"))]
 statics:=[(Str.ofString "sys.recursionlimit",none),(Str.ofString "thirdparty.any",none)]
 nss:=[(194,[
  (Str.ofString "__module__",some (.str "cpy313.tabnanny" 0)),
  (Str.ofString "__firstlineno__",some (.int 70 0)),
  (Str.ofString "S",some (.str " " 0)),
  (Str.ofString "T",some (.str (⟨⟨[9]⟩⟩:Str) 0)),
  (Str.ofString "__init__",some (.ref 150)),
  (Str.ofString "longest_run_of_spaces",some (.ref 157)),
  (Str.ofString "indent_level",some (.ref 164)),
  (Str.ofString "equal",some (.ref 171)),
  (Str.ofString "not_equal_witness",some (.ref 178)),
  (Str.ofString "less",some (.ref 185)),
  (Str.ofString "not_less_witness",some (.ref 192)),
  (Str.ofString "__static_attributes__",some (.ref 193)),
  (Str.ofString "__dict__",some (.ref 196)),
  (Str.ofString "__weakref__",some (.ref 197)),
  (Str.ofString "__doc__",some .none),
  (Str.ofString "__getattribute__",none),
  (Str.ofString "__getattr__",none),
  (Str.ofString "__setattr__",none),
  (Str.ofString "__delattr__",none),
  (Str.ofString "__new__",none),
  (Str.ofString "__call__",none),
  (Str.ofString "__hash__",none),
  (Str.ofString "__eq__",none),
  (Str.ofString "__bool__",none),
  (Str.ofString "__len__",none),
  (Str.ofString "raw",none),
  (Str.ofString "n",none),
  (Str.ofString "nt",none),
  (Str.ofString "norm",none),
  (Str.ofString "is_simple",none)])]
 objs:=[
  (38,⟨.type "function",none, .func (fD (aQ p 1) "_wall" 3 .none (.ref 37) 0),⟨[]⟩⟩),
  (45,⟨.type "function",none, .func (fD (aQ p 6) "_substitution_cost" 3 .none (.ref 44) 0),⟨[]⟩⟩),
  (52,⟨.type "function",none, .func (fD (aQ p 7) "_levenshtein_distance" 3 .none (.ref 51) 0),⟨[]⟩⟩),
  (69,⟨.type "function",none, .func (fD (aQ p 12) "quotedata" 3 .none (.ref 68) 0),⟨[]⟩⟩),
  (87,⟨.type "function",none, .func (fD (aQ p 15) "in_table_b1" 3 .none (.ref 86) 0),⟨[]⟩⟩),
  (133,⟨.type "function",none, .func (fD (aQ p 17) "map_table_b3" 3 .none (.ref 132) 0),⟨[]⟩⟩),
  (150,⟨.type "function",none, .func (fD (eX p 19 1) "Whitespace.__init__" 3 .none (.ref 149) 0),⟨[]⟩⟩),
  (157,⟨.type "function",none, .func (fD (eX p 19 2) "Whitespace.longest_run_of_spaces" 3 .none (.ref 156) 0),⟨[]⟩⟩),
  (164,⟨.type "function",none, .func (fD (eX p 19 3) "Whitespace.indent_level" 3 .none (.ref 163) 0),⟨[]⟩⟩),
  (171,⟨.type "function",none, .func (fD (eX p 19 4) "Whitespace.equal" 3 .none (.ref 170) 0),⟨[]⟩⟩),
  (178,⟨.type "function",none, .func (fD (eX p 19 5) "Whitespace.not_equal_witness" 3 .none (.ref 177) 0),⟨[]⟩⟩),
  (185,⟨.type "function",none, .func (fD (eX p 19 6) "Whitespace.less" 3 .none (.ref 184) 0),⟨[]⟩⟩),
  (192,⟨.type "function",none, .func (fD (eX p 19 7) "Whitespace.not_less_witness" 3 .none (.ref 191) 0),⟨[]⟩⟩),
  (206,⟨.type "function",none, .func (fD (aQ p 21) "_law_columns" 3 .none (.ref 205) 0),⟨[]⟩⟩),
  (211,⟨.type "function",none, .func (fD (aQ p 22) "_law_above" 3 .none (.ref 210) 0),⟨[]⟩⟩),
  (216,⟨.type "function",none, .func (fD (aQ p 23) "_law_heads" 3 .none (.ref 215) 0),⟨[]⟩⟩),
  (223,⟨.type "function",none, .func (fD (aQ p 24) "_law_mail" 3 .none (.ref 222) 0),⟨[]⟩⟩),
  (228,⟨.type "function",none, .func (fD (aQ p 25) "_law_due" 3 .none (.ref 227) 0),⟨[]⟩⟩),
  (233,⟨.type "function",none, .func (fD (aQ p 26) "law" 3 .none (.ref 232) 0),⟨[]⟩⟩),
  (195,⟨.type "type",none, .cls { name:="Whitespace",bases:=[.type "object"],mro:=[.ref 195, .type "object"],ns:=194,qualname:="Whitespace",hasDict:=true,slotNames:=[],subclasses:=[],abstract:=false,collection:=none,hasDel:=false },⟨[some (.builtin "object.__new__")]⟩⟩),
  (57,⟨.type "re.Pattern",none, .fields ⟨[.str (⟨⟨[40,63,109,41,94,92,46]⟩⟩:Str) 0, .int 40 0, .int 0 0, .none, .none, .ref 56, .int 0 0]⟩,⟨[]⟩⟩),
  (62,⟨.type "re.Pattern",none, .fields ⟨[.str (⟨⟨[40,63,58,92,114,92,110,124,92,110,124,92,114,40,63,33,92,110,41,41]⟩⟩:Str) 0, .int 32 0, .int 0 0, .none, .none, .ref 61, .int 0 0]⟩,⟨[]⟩⟩),
  (56,⟨.type "tuple",none, .seq ⟨[.int 14 0, .int 4 0, .int 0 0, .int 1 0, .int 1 0, .int 6 0, .int 1 0, .int 16 0, .int 46 0, .int 1 0]⟩ 0,⟨[]⟩⟩),
  (61,⟨.type "tuple",none, .seq ⟨[.int 14 0, .int 9 0, .int 4 0, .int 1 0, .int 2 0, .int 16 0, .int 10 0, .int 16 0, .int 13 0, .int 0 0, .int 7 0, .int 7 0, .int 16 0, .int 13 0, .int 16 0, .int 10 0, .int 15 0, .int 18 0, .int 5 0, .int 16 0, .int 10 0, .int 15 0, .int 13 0, .int 11 0, .int 16 0, .int 13 0, .int 5 0, .int 5 0, .int 0 0, .int 16 0, .int 10 0, .int 1 0, .int 15 0, .int 2 0, .int 0 0, .int 1 0]⟩ 0,⟨[]⟩⟩),
  (77,⟨.type "set",none, .set ⟨[(65024, .int 65024 0),(65025, .int 65025 0),(65026, .int 65026 0),(65027, .int 65027 0),(65028, .int 65028 0),(65029, .int 65029 0),(6150, .int 6150 0),(65030, .int 65030 0),(65031, .int 65031 0),(65032, .int 65032 0),(65033, .int 65033 0),(6155, .int 6155 0),(6156, .int 6156 0),(6157, .int 6157 0),(8203, .int 8203 0),(8204, .int 8204 0),(8205, .int 8205 0),(65034, .int 65034 0),(65035, .int 65035 0),(65036, .int 65036 0),(65037, .int 65037 0),(65038, .int 65038 0),(65039, .int 65039 0),(173, .int 173 0),(847, .int 847 0),(8288, .int 8288 0),(65279, .int 65279 0)]⟩ 0 { mask:=127,place:=⟨[0,1,2,3,4,5,6,7,8,9,10,11,12,13,14,15,16,17,18,19,20,21,22,45,79,96,127]⟩,dummies:=⟨[]⟩,finger:=0,led:=true,moves:=2,plain:=true },⟨[]⟩⟩)]
 codes:=[(37,"_wall"),(44,"_substitution_cost"),(51,"_levenshtein_distance"),(68,"quotedata"),(86,"in_table_b1"),(132,"map_table_b3"),(149,"Whitespace.__init__"),(156,"Whitespace.longest_run_of_spaces"),(163,"Whitespace.indent_level"),(170,"Whitespace.equal"),(177,"Whitespace.not_equal_witness"),(184,"Whitespace.less"),(191,"Whitespace.not_less_witness"),(205,"_law_columns"),(210,"_law_above"),(215,"_law_heads"),(222,"_law_mail"),(227,"_law_due"),(232,"law")]
noncomputable def qL:Program:=yu pw_uk0028_03
noncomputable def eY:List Str:=["_sre","_wall","_MAX_STRING_SIZE","_MOVE_COST","_CASE_COST","_substitution_cost","_levenshtein_distance","_twin_re_1","_twin_re_2","CRLF","quotedata","b1_set","in_table_b1","b3_exceptions","map_table_b3","Whitespace","_law_columns","_law_above","_law_heads","_law_mail","_law_due"]
theorem kA(w:World):k1 fast pw_uk0028_03 13 700 w=uC fast pw_uk0028_03 ⟨59,0,59,8⟩ (dN (Av pw_uk0028_03 w.params) 396) w:=∅
theorem Fl(w:World):hG fast pw_uk0028_03 13 1 1100 ⟨59,0,59,8⟩ (wf false false w) (dN (Av pw_uk0028_03 (wf false false w).params) 396)=some (.next,dN (Aw pw_uk0028_03 (wf false false w).params) 456,lS pw_uk0028_03,⟨60,0,60,6⟩):=∅
theorem Fm(w:World):hG fast pw_uk0028_03 13 1 1100 ⟨59,0,59,8⟩ (wf false true w) (dN (Av pw_uk0028_03 (wf false true w).params) 396)=some (.next,dN (Aw pw_uk0028_03 (wf false true w).params) 456,lS pw_uk0028_03,⟨60,0,60,6⟩):=∅
theorem Fo(w:World):hG fast pw_uk0028_03 13 1 1100 ⟨59,0,59,8⟩ (wf true false w) (dN (Av pw_uk0028_03 (wf true false w).params) 396)=some (.next,dN (Aw pw_uk0028_03 (wf true false w).params) 456,lS pw_uk0028_03,⟨60,0,60,6⟩):=∅
theorem Fp(w:World):hG fast pw_uk0028_03 13 1 1100 ⟨59,0,59,8⟩ (wf true true w) (dN (Av pw_uk0028_03 (wf true true w).params) 396)=some (.next,dN (Aw pw_uk0028_03 (wf true true w).params) 456,lS pw_uk0028_03,⟨60,0,60,6⟩):=∅
theorem kD(w:World):hG fast pw_uk0028_03 14 1 60 ⟨60,0,60,6⟩ w (dN (Aw pw_uk0028_03 w.params) 456)=some (.next,dN (DS pw_uk0028_03 w.params) 463,lS pw_uk0028_03,⟨61,0,62,30⟩):=∅
theorem F9(w:World)(f:Nat->Obj)(T:Nat)(ps:Pos):(wR fast pw_uk0028_03 15 1200 88 (w.withFollow "special-get-raises" false) (DS pw_uk0028_03 (w.withFollow "special-get-raises" false).params) ((List.range 39).map f) T ps).map (mH fast fastSeen pw_uk0028_03 qL eY (fR pw_uk0028_03) 88 (w.withFollow "special-get-raises" false))=some (true,openGood qL eY,hJ (fR pw_uk0028_03),some (f 0)):=∅
theorem Ga(w:World)(f:Nat->Obj)(T:Nat)(ps:Pos):(wR fast pw_uk0028_03 15 1200 88 (w.withFollow "special-get-raises" true) (DS pw_uk0028_03 (w.withFollow "special-get-raises" true).params) ((List.range 39).map f) T ps).map (mH fast fastSeen pw_uk0028_03 qL eY (fR pw_uk0028_03) 88 (w.withFollow "special-get-raises" true))=some (true,openGood qL eY,hJ (fR pw_uk0028_03),some (f 0)):=∅
theorem kC(w:World):hG fast pw_uk0028_03 13 1 1100 ⟨59,0,59,8⟩ w (dN (Av pw_uk0028_03 w.params) 396)=some (.next,dN (Aw pw_uk0028_03 w.params) 456,lS pw_uk0028_03,⟨60,0,60,6⟩):=
 byRow2 "special-get-raises" (P:=λw=>hG fast pw_uk0028_03 13 1 1100 ⟨59,0,59,8⟩ w (dN (Av pw_uk0028_03 w.params) 396)=some (.next,dN (Aw pw_uk0028_03 w.params) 456,lS pw_uk0028_03,⟨60,0,60,6⟩))
  (byRow2 "set-order" (P:=λw=>hG fast pw_uk0028_03 13 1 1100 ⟨59,0,59,8⟩ (w.withFollow "special-get-raises" false) (dN (Av pw_uk0028_03 (w.withFollow "special-get-raises" false).params) 396)=some (.next,dN (Aw pw_uk0028_03 (w.withFollow "special-get-raises" false).params) 456,lS pw_uk0028_03,⟨60,0,60,6⟩)) Fl Fo)
  (byRow2 "set-order" (P:=λw=>hG fast pw_uk0028_03 13 1 1100 ⟨59,0,59,8⟩ (w.withFollow "special-get-raises" true) (dN (Av pw_uk0028_03 (w.withFollow "special-get-raises" true).params) 396)=some (.next,dN (Aw pw_uk0028_03 (w.withFollow "special-get-raises" true).params) 456,lS pw_uk0028_03,⟨60,0,60,6⟩)) Fm Fp) w
theorem kE(w:World)(f:Nat->Obj)(T:Nat)(ps:Pos):(wR fast pw_uk0028_03 15 1200 88 w (DS pw_uk0028_03 w.params) ((List.range 39).map f) T ps).map (mH fast fastSeen pw_uk0028_03 qL eY (fR pw_uk0028_03) 88 w)=some (true,openGood qL eY,hJ (fR pw_uk0028_03),some (f 0)):=
 byRow2 "special-get-raises" (P:=λw=>(wR fast pw_uk0028_03 15 1200 88 w (DS pw_uk0028_03 w.params) ((List.range 39).map f) T ps).map (mH fast fastSeen pw_uk0028_03 qL eY (fR pw_uk0028_03) 88 w)=some (true,openGood qL eY,hJ (fR pw_uk0028_03),some (f 0)))
  (λw=>F9 w f T ps) (λw=>Ga w f T ps) w
noncomputable def rowsL:List (Int×Str):=match d4 (eP pw_uk0028_03 15).keys (eP pw_uk0028_03 15).vals with|some L=>L|none=>[]
theorem yw:d4 (eP pw_uk0028_03 15).keys (eP pw_uk0028_03 15).vals=some rowsL:=by
 have h:(d4 (eP pw_uk0028_03 15).keys (eP pw_uk0028_03 15).vals).isSome=true:=∅;obtain⟨L,e⟩:=Option.isSome_iff_exists.mp h;unfold rowsL;rw[e]
theorem Fq(w:World):Cv pw_uk0028_03 15 1200 88 39 w (DS pw_uk0028_03 w.params) 463 (12+(1+(700+(1100+60)))) (mH g9 openSeen pw_uk0028_03 qL eY (fR pw_uk0028_03) 88 w) λf=>(true,openGood qL eY,hJ (fR pw_uk0028_03),some (f 0)):=by
 have hA:=kA w;have hC:=kC w;have hD:=kD w;rw[<-pw]at hA hC hD;obtain⟨z,z1,z2,z3,z4,ch⟩:=yr hA;refine⟨⟨z,⟨61,0,62,30⟩,z1,z2,z3,z4,λN r h => ?_⟩,∅,λf T ps => ?_⟩
 ·have c:=ch _ _ (yt hC (yt (i:=13+1) (k:=1) hD h))
  rw[show 12+(1+(700+(1100+60)))+N=12+(1+(700+(1100+(60+N))))by omega];exact c
 ·have hE:=kE w f T ps
  rw[<-pw,<-wU]at hE;exact hE
theorem left:LeftO pw_uk0028_03 qL eY (λ_=>true) (λs=>dw (fR pw_uk0028_03) 88 rowsL s.heap) (λ_=>True) 40000:=
 yv Fq ∅ yw ∅ ∅ rfl nofun (C:=cD 633) rfl ⟨nofun,by decide +kernel⟩
set_option maxHeartbeats 8000000 in
theorem yx (walk:∀(w:World) (s:Shared) (a:Addr) (vs:List Value) (ns:List Int),dw (fR pw_uk0028_03) 88 rowsL s.heap->s.gens = #[]->s.heap.IsList a vs.toArray->IntsAre vs ns->(PyData.list (ns.map PyData.int)).layable0=true->ns.length<=63 ->
 wpAny (model pw_uk0028_03 w) callerA (call (.ref 233) [.ref a]) (λv s'=>v = .bool true/\(∀b o,s.heap.get? b=some o->s'.heap.get? b=some o)/\s'.os=s.os/\s'.gens = #[]) (λ_ _=>False) s):rw_uk0028_03.Holds:=by
 refine holds_law (by decide +kernel) λsaid => ?_
 exact Cx (f:=233) left rfl rfl rfl (by rfl) (by rfl) (by rfl) (by decide +kernel) ⟨rfl,rfl,rfl,rfl,rfl,by decide +kernel⟩ (by w_witness2) (by decide +kernel) walk (by assumption)
end
local macro_rules | `(tactic|obtain⟨$ps,*⟩ := $t:term)=>do
 let a:=ps.getElems;let f (s:Lean.TSyntax `tactic) (m:Nat):Lean.MacroM (Lean.TSyntax `tactic) := `(tactic|first|(refine $(Lean.mkIdent (.mkSimple s!"ob{m}{a.size - m}")) $t ?_;rintro $[($a:rcasesPatLo)]*)| $s:tactic);let z:Lean.TSyntax `tactic <- `(tactic|rcases $t:term with⟨$ps,*⟩);let r <-List.foldlM f z [4,3,2,1,0]
 return r.raw
section
open PySem PySem.W PySem.Calls PyProof.Rows
noncomputable abbrev Nm:=List Nat
noncomputable def nm(x:Str):Nm:=x.cps.toList
noncomputable def ag:List Nat->List Nat->Bool
 |[],[]=>true
 |x::xs,y::ys=>Nat.beq x y&&ag xs ys
 |_,_=>false
theorem au:∀{x y:List Nat},ag x y=true↔x=y
 |[],[]=>⟨λ_=>rfl,λ_=>rfl⟩
 |[],_::_=>⟨λh=>ad h,λh=>(List.cons_ne_nil _ _ h.symm).elim⟩
 |_::_,[]=>⟨λh=>ad h,λh=>(List.cons_ne_nil _ _ h).elim⟩
 |a::x,b::y=>⟨λh=>List.cons_eq_cons.mpr ⟨Nat.eq_of_beq_eq_true (aG h).1,au.mp (aG h).2⟩,
  λh=>Bool.and_eq_true_iff.mpr ⟨(List.cons_eq_cons.mp h).1▸Nat.beq_refl a,au.mpr (List.cons_eq_cons.mp h).2⟩⟩
theorem cy{x y:Str}(h:nm x=nm y):x=y:=by
 obtain⟨x⟩:=x;obtain⟨y⟩:=y;simp only[nm]at h;rw[Array.toList_inj.mp h]
theorem qN{x y:Str}:ag (nm x) (nm y)=(x==y):=by
 cases h:ag (nm x) (nm y)with
 |true=>rw[cy (au.mp h)];simp
 |false=>
  symm;rw[beq_eq_false_iff_ne];intro e;subst e
  rw[au.mpr rfl]at h;injections h
inductive V where
 |none|bool (b:Bool)|int (i:Int)|str (s:List Nat)|list (l:List V)|tup (l:List V)
 |ws (raw:List Nat) (n nt:Int) (cnt:List Int) (b:Int) (sm:Bool)
 |obj (a:Nat) (raw:List Nat)|cls
inductive Slot where
 |un|val (v:V)|own (l:List V)
noncomputable abbrev Rho:=List (Nm×Slot)
noncomputable def lk:Rho->Nm->Slot
 |[],_ => .un
 |(y,s)::r,x=>bif ag x y then s else lk r x
noncomputable def put:Rho->Nm->Slot->Rho
 |[],_,_=>[]
 |(y,s)::r,x,t=>bif ag x y then(y,t)::r else(y,s)::put r x t
noncomputable def jI(x:Nm):List Nm->Bool
 |[]=>false
 |y::r=>ag x y||jI x r
theorem jg{y x:Nm}{s:Slot}{r:Rho}:lk ((y,s)::r) x=bif ag x y then s else lk r x:=rfl
theorem yy{y x:Nm}{s t:Slot}{r:Rho}:put ((y,s)::r) x t=bif ag x y then(y,t)::r else(y,s)::put r x t:=rfl
theorem D3{x y:Nm}{r:List Nm}:jI x (y::r)=(ag x y||jI x r):=rfl
noncomputable def dy(c:Bool):V->V->V
 | .none, .none => .none
 | .bool a, .bool b => .bool (bif c then a else b)
 | .int a, .int b => .int (bif c then a else b)
 | .str a, .str b => .str (bif c then a else b)
 | .list a, .list b => .list (bif c then a else b)
 | .tup a, .tup b => .tup (bif c then a else b)
 |a,b=>bif c then a else b
theorem bD(c:Bool)(a b:V):dy c a b=bif c then a else b:=by
 induction c using Bool.casesOn<;>induction a using V.casesOn<;>cases b<;>rfl
noncomputable def mI(c:Bool):Slot->Slot->Slot
 | .val a, .val b => .val (dy c a b)
 | .own a, .own b => .own (bif c then a else b)
 |_,_ => .un
noncomputable def mJ:Slot->Slot->Slot
 | .val a,_ => .val a
 | .own a, .own _ => .own a
 | .own a, .val _ => .val (.list a)
 |_,_ => .un
noncomputable def gQ(ns:List Nm)(c:Bool):Rho->Rho->Rho
 |(x,s)::r,(_,t)::q=>(x,bif jI x ns then mI c s t else mJ s t)::gQ ns c r q
 |_,_=>[]
noncomputable def mask:Rho->Rho->Rho
 |(_, .un)::r,(x,_)::q=>(x, .un)::mask r q
 |_::r,y::q=>y::mask r q
 |_,_=>[]
noncomputable def freeze(ns:List Nm):Rho->Rho
 |[]=>[]
 |(x, .own l)::r=>(x,bif jI x ns then .val (.list l)else .own l)::freeze ns r
 |y::r=>y::freeze ns r
noncomputable abbrev R:=Bool×V
noncomputable def bad:R:=(false, .none)
noncomputable def big:Int:=1000000000000000000
noncomputable def small(a:Int):Bool:=decide (-big<=a)&&decide (a<=big)
noncomputable def cap:Nat:=1000000
mutual
noncomputable def fS:V->PyData
 | .int i => .int i
 | .str s => .str ⟨s.toArray⟩
 | .list l => .list (toPys l)
 |_ => .none
noncomputable def toPys:List V->List PyData
 |[]=>[]
 |x::l=>fS x::toPys l
end
noncomputable def dc:Nat->V->Bool
 |0,_=>false
 |k+1,v=>match v with
  | .int _=>true
  | .str s=>s.all λc=>Nat.blt c 1114112
  | .list l=>l.all (dc k)
  |_=>false
noncomputable def AF:List Nat->List Nat->Bool:=ag
mutual
noncomputable def D4:V->V->Bool
 | .int i, .int j=>decide (i=j)
 | .str x, .str y=>AF x y
 | .list xs, .list ys=>eqVs xs ys
 |_,_=>false
noncomputable def eqVs:List V->List V->Bool
 |[],[]=>true
 |x::xs,y::ys=>D4 x y&&eqVs xs ys
 |_,_=>false
end
noncomputable def vX(f:List Nat->R):V->R
 | .str s=>f s
 |_=>bad
noncomputable def B9(f:List V->R):V->R
 | .list l=>f l
 |_=>bad
noncomputable def kt(f:Int->R):V->R
 | .int i=>f i
 |_=>bad
noncomputable def aa:V->Bool×Bool
 | .bool b=>(true,b)
 | .int i=>(true, !decide (i=0))
 | .str s=>(decide (s.length<=cap), !s.isEmpty)
 |_=>(false,false)
noncomputable def eZ{α:Type}(l:List α)(n:Int):List α:=(List.replicate n.toNat l).flatten
noncomputable def Cy(a b:Int):Operator->R
 | .Add=>(true, .int (a+b))
 | .Sub=>(true, .int (a-b))
 | .Mult=>(small a||small b, .int (a*b))
 | .FloorDiv=>(!decide (b=0)&&small b, .int (a.fdiv b))
 | .Mod=>(!decide (b=0), .int (a.fmod b))
 | .Pow=>(decide (0<=b)&&decide (b<=100)&&(decide (-100<=a)&&decide (a<=100)), .int (a^b.toNat))
 |_=>bad
noncomputable def vY(n:Int)(k:Nat):Bool:=decide (-1000<=n)&&decide (n<=1000)&&decide (k<=1000)
noncomputable def Fr(a:List Nat)(y:V):Operator->R
 | .Add=>vX (λb=>(decide (a.length+b.length<=cap), .str (a++b))) y
 | .Mult=>kt (λn=>(vY n a.length, .str (eZ a n))) y
 |_=>bad
noncomputable def Fs(a:List V)(y:V):Operator->R
 | .Add=>B9 (λb=>(decide (a.length+b.length<=cap), .list (a++b))) y
 | .Mult=>kt (λn=>(vY n a.length, .list (eZ a n))) y
 |_=>bad
noncomputable def de(op:Operator)(a b:V):R:=match a with
 | .int a=>kt (λb=>Cy a b op) b
 | .str a=>Fr a b op
 | .list a=>Fs a b op
 |_=>bad
noncomputable def Cz:V->V->Bool×Bool
 | .none, .none=>(true,true)
 | .bool a, .bool b=>(true,a==b)
 | .str _, .none=>(true,false)
 |_,_=>(false,false)
noncomputable def CA(i j:Int):CmpOp->Bool×Bool
 | .Lt=>(true,decide (i<j))
 | .LtE=>(true,decide (i<=j))
 | .Gt=>(true,decide (j<i))
 | .GtE=>(true,decide (j<=i))
 | .Eq=>(true,decide (i=j))
 | .NotEq=>(true, !decide (i=j))
 |_=>(false,false)
noncomputable def yz(ok c:Bool):CmpOp->Bool×Bool
 | .Eq=>(ok,c)
 | .NotEq=>(ok, !c)
 |_=>(false,false)
noncomputable def CB(op:CmpOp)(a b:V):Bool×Bool:=match a with
 | .int i=>match b with
   | .int j=>CA i j op
   |_=>(false,false)
 | .str x=>match b with
   | .str y=>yz true (AF x y) op
   |_=>(false,false)
 | .bool x=>match b with
   | .bool y=>yz true (x==y) op
   |_=>(false,false)
 | .list x=>match b with
   | .list y=>yz (dc 9 (.list x)&&dc 9 (.list y)) (eqVs x y) op
   |_=>(false,false)
 |_=>(false,false)
noncomputable def oZ(op:CmpOp)(a b:V):Bool×Bool:=match op with
 | .Is=>Cz a b
 | .IsNot=>((Cz a b).1, !(Cz a b).2)
 |op=>CB op a b
noncomputable def getI:V->Int
 | .int i=>i
 |_=>0
noncomputable def lV:V->List Nat
 | .str s=>s
 |_=>[]
noncomputable def pd:V->Bool
 | .bool b=>b
 |_=>false
noncomputable def AG:V->List V
 | .list l=>l
 |_=>[]
noncomputable def CC:V->List V
 | .tup l=>l
 |_=>[]
noncomputable def mK:V->Bool
 | .int _=>true
 |_=>false
noncomputable def Ax:V->Bool
 | .str _=>true
 |_=>false
noncomputable def Ca:V->Bool
 | .bool _=>true
 |_=>false
noncomputable def CD:V->Bool
 | .list _=>true
 |_=>false
noncomputable def E7:V->Bool
 | .tup _=>true
 |_=>false
noncomputable def place(n:Nat)(i:Int):Nat:=(bif decide (i<0)then i+n else i).toNat
noncomputable def aZ(n:Nat)(i:Int):Bool:=decide (-(n:Int)<=i)&&decide (i<n)
noncomputable def sB(l:List V)(k:Nat):V:=
 bif l.all mK then .int (getI (l.getD k .none))else
 bif l.all Ax then .str (lV (l.getD k .none))else
 bif l.all Ca then .bool (pd (l.getD k .none))else
 bif l.all CD then .list (AG (l.getD k .none))else
 bif l.all E7 then .tup (CC (l.getD k .none))else l.getD k .none
noncomputable def D5(ty:Nat)(l:List V)(i:Int):R:=
 bif Nat.beq ty 1 then(aZ l.length i&&decide (l.length<=cap)&&mK (l.getD (place l.length i) .none), .int (getI (l.getD (place l.length i) .none)))
 else bif Nat.beq ty 2 then(aZ l.length i&&decide (l.length<=cap)&&Ax (l.getD (place l.length i) .none), .str (lV (l.getD (place l.length i) .none)))
 else(aZ l.length i&&decide (l.length<=cap),sB l (place l.length i))
noncomputable def gV(ty:Nat)(o i:V):R:=match o with
 | .list l=>kt (D5 ty l) i
 | .tup l=>kt (D5 ty l) i
 | .str s=>kt (λi=>(aZ s.length i&&decide (s.length<=cap), .str [s.getD (place s.length i) 0])) i
 |_=>bad
noncomputable def vZ(f:Option Int->R):V->R
 | .none=>f none
 | .int i=>f (some i)
 |_=>bad
noncomputable def bound(n:Nat)(i:Int):Nat:=bif decide (i<0)then(i+n).toNat else Nat.min i.toNat n
noncomputable def md{α:Type}(l:List α)(lo hi:Option Int):List α:=
 let a:=match lo with|none=>0|some i=>bound l.length i
 let b:=match hi with|none=>l.length|some i=>bound l.length i
 (l.drop a).take (b-a)
noncomputable def cJ{α:Type}(k a:Int)(l:List α):List α:=(sliceRange (max 0 (min a l.length)) l.length k).filterMap (l[·]?)
noncomputable def uF:V->Bool
 | .none=>true
 |_=>false
noncomputable def eC(o lo hi st:V):R:=match o with
 | .str s=>match st with
   | .none=>vZ (λa=>vZ (λb=>(decide (s.length<=cap), .str (md s a b))) hi) lo
   |st=>kt (λk=>(uF lo&&uF hi&&(decide (s.length<=cap)&&decide (k = -1)), .str s.reverse)) st
 | .list l=>match st with
   | .none=>vZ (λa=>vZ (λb=>(decide (l.length<=cap), .list (md l a b))) hi) lo
   |st=>kt (λk=>kt (λa=>(uF hi&&(decide (l.length<=cap)&&decide (0<=a)&&decide (1<=k)), .list (cJ k a l))) lo) st
 |_=>bad
noncomputable def E8(op:UnaryOp)(a:V):R:=match op with
 | .Not=>((aa a).1, .bool (!(aa a).2))
 | .USub=>kt (λa=>(true, .int (-a))) a
 |_=>bad
noncomputable def sC(l:List V):Int:=(l.map getI).foldl (· + ·) 0
noncomputable def uG:List Int->Int
 |[]=>0
 |x::l=>l.foldl (λa b=>bif decide (a<b)then b else a) x
noncomputable def D6:List Int->Int
 |[]=>0
 |x::l=>l.foldl (λa b=>bif decide (b<a)then b else a) x
noncomputable def fc(sep:List Nat):List (List Nat)->List Nat
 |[]=>[]
 |[x]=>x
 |x::y::l=>x++sep++fc sep (y::l)
theorem AH{sep x:List Nat}:fc sep [x]=x:=rfl
theorem AI{sep x y:List Nat}{l:List (List Nat)}:fc sep (x::y::l)=x++sep++fc sep (y::l):=rfl
noncomputable def gw(a k:Int):Nat->List Int
 |0=>[]
 |n+1=>a::gw (a+k) k n
theorem hV{a k:Int}{n:Nat}:gw a k (n+1)=a::gw (a+k) k n:=rfl
noncomputable def df(a b k:Int):List Int:=gw a k (Builtin.Range.rangeSize a b k).toNat
noncomputable def ya(s:List Nat):List V:=s.map λc => .str [c]
end
section
open PySem PySem.W PySem.Calls PyProof.Rows
noncomputable def tx(s:List Nat):Str:=⟨s.toArray⟩
noncomputable def bW(s:List Nat):List Nat:=(Txt.lower (tx s)).cps.toList
noncomputable def dS(s y:List Nat):List (List Nat):=(Txt.split (tx s) (tx y)).map λx=>x.cps.toList
noncomputable def qO(s y:List Nat):Int:=Txt.count (tx s) (tx y)
structure Fns where
 glob:List (Nm×V)
 fn:List (Nm×(List V->R))
 meth:List (Nm×(List V->R))
noncomputable def me{α:Type}:List (Nm×α)->Nm->Option α
 |[],_=>none
 |(y,s)::r,x=>bif ag x y then some s else me r x
noncomputable def dz(ev:Expr->R):List Expr->Bool×List V
 |[]=>(true,[])
 |e::es=>
  let x:=ev e;let r:=dz ev es
  (x.1&&r.1,x.2::r.2)
theorem D7{E:Expr->R}{e:Expr}{es:List Expr}:dz E (e::es)=((E e).1&&(dz E es).1,(E e).2::(dz E es).2):=rfl
noncomputable def fT(ev:Expr->R):List Expr->R
 |[]=>bad
 |[e]=>ev e
 |e::es=>
  let x:=ev e;let c:=aa x.2;let r:=fT ev es
  (x.1&&c.1&&(bif c.2 then r.1 else true),dy c.2 r.2 x.2)
noncomputable def pe(ev:Expr->R):List Expr->R
 |[]=>bad
 |[e]=>ev e
 |e::es=>
  let x:=ev e;let c:=aa x.2;let r:=pe ev es
  (x.1&&c.1&&(bif c.2 then true else r.1),dy c.2 x.2 r.2)
noncomputable def kd(κ:List (Str×NameKind))(x:Nm):Option NameKind:=match κ with
 |[]=>none
 |(y,k)::r=>bif ag x (nm y)then some k else kd r x
theorem Ft{y:Str}{k:NameKind}{r:List (Str×NameKind)}{x:Nm}:kd ((y,k)::r) x=bif ag x (nm y)then some k else kd r x:=rfl
noncomputable def af(k:Option NameKind):Bool:=match k with
 |some .local|some .cell|some .free=>true
 |_=>false
noncomputable def aO(k:Option NameKind):Bool:=match k with
 |some .globalImplicit=>true
 |_=>false
noncomputable def jh(k:Option NameKind):Bool:=match k with
 |some .cell|some .free=>true
 |_=>false
noncomputable def fU(f:V->R):List V->R
 |[x]=>f x
 |_=>bad
noncomputable def qP(f:V->V->R):List V->R
 |[x,y]=>f x y
 |_=>bad
noncomputable def DT(f:List Nat->Int->Int->List Int->Int->Bool->R):V->R
 | .ws a b c d e g=>f a b c d e g
 |_=>bad
noncomputable def E9(f:Nat->R):V->R
 | .str [c]=>f c
 |_=>bad
theorem iL(P:List V->R->Prop){f:V->R}{as:List V}(ok:(fU f as).1=true)(k:∀x,(f x).1=true->P [x] (f x)):P as (fU f as):=by
 induction as using List.casesOn with
 |nil=>exact ad ok
 |cons x as=>induction as using List.casesOn with
  |nil=>exact k x ok
  |cons=>exact ad ok
theorem v0(P:List V->R->Prop){f:V->V->R}{as:List V}(ok:(qP f as).1=true)(k:∀x y,(f x y).1=true->P [x,y] (f x y)):P as (qP f as):=by
 induction as using List.casesOn with
 |nil=>exact ad ok
 |cons x as=>induction as using List.casesOn with
  |nil=>exact ad ok
  |cons y as=>induction as using List.casesOn with
   |nil=>exact k x y ok
   |cons=>exact ad ok
theorem uH(P:V->R->Prop){f:List Nat->R}{v:V}(ok:(vX f v).1=true)(k:∀x,(f x).1=true->P (.str x) (f x)):P v (vX f v):=by
 induction v using V.casesOn with
 |str x=>exact k x ok
 |_=>exact ad ok
theorem CE(P:V->R->Prop){f:Int->R}{v:V}(ok:(kt f v).1=true)(k:∀x,(f x).1=true->P (.int x) (f x)):P v (kt f v):=by
 induction v using V.casesOn with
 |int x=>exact k x ok
 |_=>exact ad ok
theorem qQ(P:V->R->Prop){f:List Nat->Int->Int->List Int->Int->Bool->R}{v:V}(ok:(DT f v).1=true)(k:∀a b c d e g,(f a b c d e g).1=true->P (.ws a b c d e g) (f a b c d e g)):P v (DT f v):=by
 induction v using V.casesOn with
 |ws a b c d e g=>exact k a b c d e g ok
 |_=>exact ad ok
theorem yA(P:V->R->Prop){f:Nat->R}{v:V}(ok:(E9 f v).1=true)(k:∀c,(f c).1=true->P (.str [c]) (f c)):P v (E9 f v):=by
 induction v using V.casesOn with
 |str x=>induction x using List.casesOn with
  |nil=>exact ad ok
  |cons c x=>induction x using List.casesOn with
   |nil=>exact k c ok
   |cons=>exact ad ok
 |_=>exact ad ok
noncomputable def D9(s:List Nat):List V->R:=fU (B9 λl=>(l.all Ax&&decide (l.length<=cap)&&decide (((l.map lV).map List.length).sum+l.length*s.length<=cap), .str (fc s (l.map lV))))
noncomputable def CF(s:List Nat)(as:List V):R:=(as.isEmpty&&decide (s.length<=cap), .str (bW s))
noncomputable def CG(s:List Nat):List V->R:=fU (vX λy=>(decide (s.length<=cap) && !y.isEmpty, .list ((dS s y).map .str)))
noncomputable def CH(s:List Nat):List V->R:=fU (vX λy=>(decide (s.length<=cap) && !y.isEmpty, .int (qO s y)))
noncomputable def Ea:List (Str×(List Nat->List V->R)):=[("join",D9),("lower",CF),("split",CG),("count",CH)]
noncomputable def Eb{α:Type}:List (Str×α)->Nm->Option α
 |[],_=>none
 |(y,s)::r,x=>bif ag x (nm y)then some s else Eb r x
noncomputable def Fu(o:Option (List V->R))(as:List V):R:=match o with
 |some F=>F as
 |none=>bad
noncomputable def wV(m:Nm)(s:List Nat)(as:List V):R:=Fu ((Eb Ea m).map (· s)) as
noncomputable def lW:V->R
 | .str s=>(decide (s.length<=cap), .int s.length)
 | .list l=>(decide (l.length<=cap), .int l.length)
 | .tup l=>(decide (l.length<=cap), .int l.length)
 |_=>bad
noncomputable def Fv:List V->R:=fU (vX λs=>(Nat.beq s.length 1, .int (s.getD 0 0)))
noncomputable def Fw:List V->R:=fU (kt λi=>(decide (0<=i)&&decide (i<1114112), .str [i.toNat]))
noncomputable def v5(g:List Int->Int)(h:Int->Int->Int):List V->R
 |[x]=>B9 (λl=>(l.all mK && !l.isEmpty&&decide (l.length<=cap), .int (g (l.map getI)))) x
 |as=>qP (λx y=>kt (λa=>kt (λb=>(true, .int (h a b))) y) x) as
noncomputable def CI(a b:Int):Int:=bif decide (b<a)then b else a
noncomputable def CJ(a b:Int):Int:=bif decide (a<b)then b else a
noncomputable def Fx:List V->R:=v5 D6 CI
noncomputable def Fy:List V->R:=v5 uG CJ
noncomputable def Fz:List V->R:=fU (B9 λl=>(l.all mK&&decide (l.length<=cap), .int (sC l)))
noncomputable def FA:List V->R:=fU (B9 λl=>(l.all Ca&&decide (l.length<=cap), .bool ((l.map pd).all id)))
noncomputable def FB:List V->R:=fU (B9 λl=>(decide (l.length<=cap), .tup l))
noncomputable def FZ:List (Str×(List V->R)):=[("len",fU lW),("ord",Fv),("chr",Fw),("min",Fx),("max",Fy),("sum",Fz),("all",FA),("tuple",FB)]
noncomputable def dA(f:Nm)(as:List V):R:=Fu (Eb FZ f) as
noncomputable def bX(a b k:Int):Bool:=Builtin.Range.small a b k&&decide (Builtin.Range.rangeSize a b k<=10000) && !decide (k=0)&&decide (-1000<=k)&&decide (k<=1000)
noncomputable def qS:List Int->Bool×List V
 |[b]=>(bX 0 b 1,(df 0 b 1).map .int)
 |[a,b]=>(bX a b 1,(df a b 1).map .int)
 |[a,b,k]=>(bX a b k,(df a b k).map .int)
 |_=>(false,[])
noncomputable def fe(as:List V):Bool×List V:=bif as.all mK then qS (as.map getI)else(false,[])
noncomputable def mL:V->Bool×List V
 | .list l=>(decide (l.length<=cap),l)
 | .str s=>(decide (s.length<=cap),ya s)
 |_=>(false,[])
noncomputable def mM(k:Int):List V->List V
 |[]=>[]
 |x::l => .tup [.int k,x]::mM (k+1) l
theorem qT{k:Int}{x:V}{l:List V}:mM k (x::l) = .tup [.int k,x]::mM (k+1) l:=rfl
noncomputable def mO:List V->List V->List V
 |x::l,y::r => .tup [x,y]::mO l r
 |_,_=>[]
theorem CK{x y:V}{l r:List V}:mO (x::l) (y::r) = .tup [x,y]::mO l r:=rfl
noncomputable def gx:Expr->Option (Str×List Expr)
 | .Call f as kw _=>match f with
   | .Name f _=>match kw with
     |[]=>some (f,as)
     |_=>none
   |_=>none
 |_=>none
noncomputable def v6(o:Option (Str×List Expr)):Option (List Expr):=match o with
 |some (g,bs)=>bif ag (nm g) (nm "range")then some bs else none
 |none=>none
noncomputable def jJ:List Expr->Option (List Expr)
 |[a]=>v6 (gx a)
 |_=>none
noncomputable def dg:Expr->Bool
 | .Name _ _=>true
 |_=>false
noncomputable def dB:Expr->Bool
 | .Tuple _ _ _=>true
 |_=>false
noncomputable def lj(κ:List (Str×NameKind))(ev:Expr->R)(t:Expr)(e:Expr):Bool×List V:=
 let x:=ev e;let r:=mL x.2
 (x.1&&r.1&&(dg t||(dB t&&CD x.2)),r.2)
noncomputable def yB(κ:List (Str×NameKind))(ev:Expr->R)(t:Expr)(f:Nm)(as:List Expr):Bool×List V:=
 let x:=dz ev as;let r:=fe x.2
 (aO (kd κ f)&&x.1&&r.1&&dg t,r.2)
noncomputable def yC(κ:List (Str×NameKind))(ev:Expr->R)(t:Expr)(f:Nm)(as:List Expr):Bool×List V:=
 let x:=dz ev as;let l:=CC (x.2.getD 0 .none)
 (aO (kd κ f)&&x.1&&Nat.beq x.2.length 1&&E7 (x.2.getD 0 .none)&&dB t,mM 0 l)
noncomputable def sD(κ:List (Str×NameKind))(ev:Expr->R)(t:Expr)(f:Nm)(as:List Expr):Bool×List V:=
 let x:=dz ev as;let l:=x.2.getD 0 .none;let r:=x.2.getD 1 .none
 (aO (kd κ f)&&x.1&&Nat.beq x.2.length 2&&CD l&&CD r&&dB t,mO (AG l) (AG r))
noncomputable def v7(κ:List (Str×NameKind))(ev:Expr->R)(t:Expr)(whole:Expr)(f:Nm)(as:List Expr):Bool×List V:=
 bif ag f (nm "range")then yB κ ev t f as
 else bif ag f (nm "enumerate")then yC κ ev t f as
 else bif ag f (nm "zip")then sD κ ev t f as
 else lj κ ev t whole
noncomputable def aR(κ:List (Str×NameKind))(ev:Expr->R)(t:Expr)(e:Expr):Bool×List V:=match gx e with
 |some (f,as)=>v7 κ ev t e (nm f) as
 |none=>lj κ ev t e
noncomputable def eU:List Expr->List V->Rho->Bool×Rho
 |[],[],ρ=>(true,ρ)
 | .Name x _::ts,v::vs,ρ=>eU ts vs (put ρ (nm x) (.val v))
 |_,_,ρ=>(false,ρ)
noncomputable def bh(t:Expr)(v:V)(ρ:Rho):Bool×Rho:=match t with
 | .Name x _=>(true,put ρ (nm x) (.val v))
 | .Tuple ts _ _=>match v with
   | .tup vs=>eU ts vs ρ
   |_=>(false,ρ)
 |_=>(false,ρ)
noncomputable def nmT(t:Expr):Option Nm:=match t with
 | .Name x _=>some (nm x)
 |_=>none
theorem mP{x:Str}{p:Pos}{ts:List Expr}:(Expr.Name x p::ts).filterMap nmT=nm x::ts.filterMap nmT:=rfl
theorem CL{t:Expr}{x:Nm}(h:nmT t=some x):∃y:Str,x=nm y:=by
 induction t using Expr.casesOn with
 |Name y p=>exact⟨y,(Option.some.inj h).symm⟩
 |_=>exact av h
noncomputable def FC:Option NameKind->Bool
 |some .local|some .cell=>true
 |_=>false
noncomputable def aC:Expr->List Nm
 | .Name x _=>[nm x]
 | .Tuple ts _ _=>ts.filterMap nmT
 |_=>[]
noncomputable def jK(κ:List (Str×NameKind))(t:Expr):Bool:=(aC t).all λx=>FC (kd κ x)
noncomputable def v8:Slot->Slot
 | .val v => .val v
 |_ => .un
noncomputable def bA(scope:Scope)(ρ:Rho):Rho:=scope.names.map λ(x,k)=>(nm x,match k with| .free=>v8 (lk ρ (nm x))|_ => .un)
noncomputable def eE(ev:Expr->R):List Expr->Bool×Bool
 |[]=>(true,true)
 |e::es=>
  let x:=ev e;let c:=aa x.2;let r:=eE ev es
  (x.1&&c.1&&(bif c.2 then r.1 else true),c.2&&r.2)
theorem yD{E:Expr->R}{e:Expr}{es:List Expr}:eE E (e::es)=((E e).1&&(aa (E e).2).1&&(bif (aa (E e).2).2 then(eE E es).1 else true),(aa (E e).2).2&&(eE E es).2):=rfl
noncomputable def dT:List Nm->Bool
 |[]=>true
 |x::r => !jI x r&&dT r
theorem yE{x:Nm}{r:List Nm}:dT (x::r)=(!jI x r&&dT r):=rfl
noncomputable def uI:ScopeKind->Bool
 | .function=>true
 |_=>false
noncomputable def d5(κ:List (Str×NameKind))(scope:Scope):Bool:=uI scope.kind&&dT (scope.names.map λx=>nm x.1)&&scope.names.all (λx => !ag (nm x.1) (nm "__debug__") && !ag (nm x.1) (nm "__classdict__"))&&scope.names.all λ(x,k)=>match k with
 | .free=>jh (kd κ (nm x))
 | .local| .cell=>true
 | .globalImplicit=>true
 |_=>false
noncomputable def bw(f:V->Bool×Bool×R):List V->Bool×List V
 |[]=>(true,[])
 |x::xs=>
  let y:=f x;let r:=bw f xs
  (y.1&&(bif y.2.1 then y.2.2.1 else true)&&r.1,bif y.2.1 then y.2.2.2::r.2 else r.2)
theorem AJ{f:V->Bool×Bool×R}{x:V}{xs:List V}:bw f (x::xs)=((f x).1&&(bif (f x).2.1 then(f x).2.2.1 else true)&&(bw f xs).1,bif (f x).2.1 then(f x).2.2.2::(bw f xs).2 else(bw f xs).2):=rfl
noncomputable def dC(f:V->Bool×Bool×List V):List V->Bool×List V
 |[]=>(true,[])
 |x::xs=>
  let y:=f x;let r:=dC f xs
  (y.1&&y.2.1&&r.1,y.2.2++r.2)
theorem AK{f:V->Bool×Bool×List V}{x:V}{xs:List V}:dC f (x::xs)=((f x).1&&(f x).2.1&&(dC f xs).1,(f x).2.2++(dC f xs).2):=rfl
noncomputable abbrev Tau:=List (Nm×Nat)
noncomputable def Ec(τ:Tau)(x:Nm):Nat:=(me τ x).getD 0
noncomputable def FD:Slot->R
 | .val v=>(true,v)
 |_=>bad
noncomputable def FE:Option V->R
 |some v=>(true,v)
 |none=>bad
noncomputable def sE(k:Bool)(e:R):Slot->R
 | .own l=>(k, .list l)
 |_=>e
noncomputable def rd(κ:List (Str×NameKind))(Φ:Fns)(ρ:Rho)(x:Nm):R:=
 bif af (kd κ x)then FD (lk ρ x)else bif aO (kd κ x)then FE (me Φ.glob x)else bad
noncomputable def look(κ:List (Str×NameKind))(ρ:Rho)(ev:Expr->R):Expr->R
 | .Name x p=>sE (af (kd κ (nm x))) (ev (.Name x p)) (lk ρ (nm x))
 |e=>ev e
noncomputable def yF(a:Nm):V->R
 | .ws raw n nt cnt b sm=>
   bif ag a (nm "n")then(true, .int n)
   else bif ag a (nm "nt")then(true, .int nt)
   else bif ag a (nm "norm")then(true, .tup [.tup (cnt.map .int), .int b])
   else bif ag a (nm "is_simple")then(true, .bool sm)
   else bad
 | .obj _ raw=>bif ag a (nm "raw")then(true, .str raw)else bad
 | .cls=>bif ag a (nm "S")then(true, .str [32])else bif ag a (nm "T")then(true, .str [9])else bad
 |_=>bad
noncomputable abbrev Ev:=List (Str×NameKind)->Rho->Expr->R
noncomputable def gR(E:Expr->R):Option Expr->R
 |none=>(true, .none)
 |some e=>E e
noncomputable def pC(E:Ev)(κ:List (Str×NameKind))(ρ:Rho)(a:Expr)(op:Operator)(b:Expr):R:=
 let x:=(match op with| .Add=>look κ ρ (E κ ρ) a|_=>E κ ρ a);let y:=E κ ρ b;let r:=de op x.2 y.2
 (x.1&&y.1&&r.1,r.2)
noncomputable def AL(E:Expr->R)(op:UnaryOp)(a:Expr):R:=
 let x:=E a;let r:=E8 op x.2
 (x.1&&r.1,r.2)
noncomputable def pf(E:Expr->R)(t a b:Expr):R:=
 let z:=E t;let c:=aa z.2;let x:=E a;let y:=E b
 (z.1&&c.1&&(bif c.2 then x.1 else y.1),dy c.2 x.2 y.2)
noncomputable def gy(E:Expr->R)(a:Expr)(op:CmpOp)(b:Expr):R:=
 let x:=E a;let y:=E b;let r:=oZ op x.2 y.2
 (x.1&&y.1&&r.1, .bool r.2)
noncomputable def v9(E:Expr->R)(a:Expr)(ops:List CmpOp)(bs:List Expr):R:=match ops with
 |[op]=>match bs with
  |[b]=>gy E a op b
  |_=>bad
 |_=>bad
noncomputable def mf(E:Expr->R)(o:Expr)(lo hi st:Option Expr):R:=
 let x:=E o;let a:=gR E lo;let b:=gR E hi;let c:=gR E st;let r:=eC x.2 a.2 b.2 c.2
 (x.1&&a.1&&b.1&&c.1&&r.1,r.2)
noncomputable def mQ(E:Ev)(τ:Tau)(κ:List (Str×NameKind))(ρ:Rho)(o i:Expr):R:=
 let x:=look κ ρ (E κ ρ) o;let y:=E κ ρ i;let r:=gV (match o with| .Name x _=>Ec τ (nm x)|_=>0) x.2 y.2
 (x.1&&y.1&&r.1,r.2)
noncomputable def wa(E:Ev)(τ:Tau)(κ:List (Str×NameKind))(ρ:Rho)(o i:Expr):R:=match i with
 | .Slice lo hi st _=>mf (E κ ρ) o lo hi st
 |i=>mQ E τ κ ρ o i
noncomputable def ff:Expr->Bool
 | .Call _ _ _ _=>false
 |_=>true
noncomputable def iM(E:Expr->R)(o:Expr)(a:Nm):R:=
 let x:=E o;let r:=yF a x.2
 (x.1&&r.1&&ff o,r.2)
noncomputable def cW(E:Ev)(elt t:Expr)(ifs:List Expr)(scope:Scope)(ρ':Rho)(v:V):Bool×Bool×R:=
 let q:=bh t v ρ';let c:=eE (E scope.names q.2) ifs
 (q.1&&c.1,c.2,E scope.names q.2 elt)
noncomputable def fE(E:Ev)(elt t t' it':Expr)(ifs:List Expr)(scope:Scope)(ρ':Rho)(v:V):Bool×Bool×List V:=
 let q:=bh t v ρ';let ys:=aR scope.names (E scope.names q.2) t' it'
 (q.1&&ys.1,bw (cW E elt t' ifs scope q.2) ys.2)
noncomputable def FF(E:Ev)(κ:List (Str×NameKind))(ρ:Rho)(elt:Expr)(scope:Scope)(g:Comprehension):R:=
 let xs:=aR κ (E κ ρ) g.target g.iter;let r:=bw (cW E elt g.target g.ifs scope (bA scope ρ)) xs.2
 (decide (g.is_async=0)&&d5 κ scope&&jK scope.names g.target&&xs.1&&r.1&&decide (xs.2.length<=cap), .list r.2)
noncomputable def FG(E:Ev)(κ:List (Str×NameKind))(ρ:Rho)(elt:Expr)(scope:Scope)(g g':Comprehension):R:=
 let xs:=aR κ (E κ ρ) g.target g.iter;let r:=dC (fE E elt g.target g'.target g'.iter g'.ifs scope (bA scope ρ)) xs.2
 (decide (g.is_async=0)&&decide (g'.is_async=0)&&g.ifs.isEmpty&&d5 κ scope&&jK scope.names g.target&&jK scope.names g'.target&&(aC g'.target).all (λx => !jI x (aC g.target))&&xs.1&&r.1&&decide (r.2.length<=cap), .list r.2)
noncomputable def ji(E:Ev)(κ:List (Str×NameKind))(ρ:Rho)(elt:Expr)(gs:List Comprehension)(scope:Scope):R:=match gs with
 |[g]=>FF E κ ρ elt scope g
 |[g,g']=>FG E κ ρ elt scope g g'
 |_=>bad
noncomputable def fg(Φ:Fns)(m:Nm)(x:V)(ys:List V):R:=match x with
 | .str s=>wV m s ys
 | .ws raw k nt cnt b sm=>match me Φ.meth m with
   |some f=>f (.ws raw k nt cnt b sm::ys)
   |none=>bad
 |_=>bad
noncomputable def mR(Φ:Fns)(f:Nm)(ys:List V):R:=match me Φ.fn f with
 |some h=>h ys
 |none=>dA f ys
noncomputable def fF(Φ:Fns)(E:Expr->R)(κ:List (Str×NameKind))(f:Nm)(as:List Expr):R:=
 let ys:=dz E as;let r:=mR Φ f ys.2
 (aO (kd κ f)&&ys.1&&r.1,r.2)
noncomputable def pD(E:Ev)(κ:List (Str×NameKind))(ρ:Rho)(f:Nm)(a:Expr):R:=
 let x:=look κ ρ (E κ ρ) a;let r:=lW x.2
 (aO (kd κ f)&&x.1&&r.1,r.2)
noncomputable def ky(Φ:Fns)(E:Expr->R)(o:Expr)(m:Nm)(as:List Expr):R:=
 let x:=E o;let ys:=dz E as;let r:=fg Φ m x.2 ys.2
 (x.1&&ys.1&&r.1&&ff o,r.2)
noncomputable def bH(E:Expr->R)(κ:List (Str×NameKind))(f g:Nm)(bs:List Expr):R:=
 let xs:=dz E bs;let r:=fe xs.2
 (aO (kd κ f)&&aO (kd κ g)&&xs.1&&r.1, .list r.2)
noncomputable def mh(o:Option (List Expr))(f:List Expr->R)(g:R):R:=match o with
 |some bs=>f bs
 |none=>g
noncomputable def kz(Φ:Fns)(E:Ev)(κ:List (Str×NameKind))(ρ:Rho)(f:Expr)(as:List Expr)(pos:Pos):R:=match f with
 | .Attribute o m q=>bif q.endLine==pos.line&&decide (as.length<30)then ky Φ (E κ ρ) o (nm m) as else bad
 | .Name f _=>
   bif ag (nm f) (nm "len")then match as with
    |[a]=>pD E κ ρ (nm f) a
    |_=>bad
   else mh (bif ag (nm f) (nm "list")then jJ as else none) (bH (E κ ρ) κ (nm f) (nm "range")) (fF Φ (E κ ρ) κ (nm f) as)
 |_=>bad
noncomputable def qU:Const->R
 | .none=>(true, .none)
 | .bool b=>(true, .bool b)
 | .int i=>(true, .int i)
 | .str s=>(true, .str (nm s))
 |_=>bad
noncomputable def jj(xs:Bool×List V):Bool:=xs.1&&decide (xs.2.length<=cap)
noncomputable def ev(Φ:Fns)(τ:Tau):Nat->List (Str×NameKind)->Rho->Expr->R
 |0,_,_,_=>bad
 |n+1,κ,ρ,e=>match e with
  | .Constant c _ _=>qU c
  | .Name x _=>rd κ Φ ρ (nm x)
  | .BinOp a op b _=>pC (ev Φ τ n) κ ρ a op b
  | .BoolOp op es _=>match op with
    | .And=>fT (ev Φ τ n κ ρ) es
    | .Or=>pe (ev Φ τ n κ ρ) es
  | .UnaryOp op a _=>AL (ev Φ τ n κ ρ) op a
  | .IfExp t a b _=>pf (ev Φ τ n κ ρ) t a b
  | .Compare a ops bs _=>v9 (ev Φ τ n κ ρ) a ops bs
  | .Subscript o i _=>wa (ev Φ τ n) τ κ ρ o i
  | .Attribute o a _=>iM (ev Φ τ n κ ρ) o (nm a)
  | .List es _=>let xs:=dz (ev Φ τ n κ ρ) es;(jj xs, .list xs.2)
  | .Tuple es _ _=>let xs:=dz (ev Φ τ n κ ρ) es;(jj xs, .tup xs.2)
  | .ListComp elt gs scope _=>ji (ev Φ τ n) κ ρ elt gs scope
  | .Call f as kw pos=>match kw with
    |[]=>kz Φ (ev Φ τ n) κ ρ f as pos
    |_=>bad
  |_=>bad
inductive fV where
 |next (ρ:Rho)|brk (ρ:Rho)|ret (v:V)|bad
noncomputable abbrev Res:=Bool×fV
noncomputable def seq(r:Res)(k:Rho->Res):Res:=match r.2 with
 | .next ρ=>let q:=k ρ;(r.1&&q.1,q.2)
 |o=>(r.1,o)
noncomputable def gz(f:Expr->List Nm):List Expr->List Nm
 |[]=>[]
 |e::es=>f e++gz f es
noncomputable def CM(f:Expr->List Nm):Option Expr->List Nm
 |none=>[]
 |some e=>f e
noncomputable def qV(f:Expr->List Nm):Expr->List Nm
 | .Name _ _=>[]
 |e=>f e
noncomputable def Ed:Expr->Bool
 | .Name x _=>ag (nm x) (nm "len")
 |_=>false
noncomputable def AM(scope:Scope):List Nm:=scope.names.filterMap λ(x,k)=>match k with| .free=>some (nm x)|_=>none
noncomputable def aK:Nat->Expr->List Nm
 |0,_=>[]
 |n+1,e=>match e with
  | .Name x _=>[nm x]
  | .BinOp a op b _=>(match op with| .Add=>qV (aK n) a|_=>aK n a)++aK n b
  | .BoolOp _ es _=>gz (aK n) es
  | .UnaryOp _ a _=>aK n a
  | .IfExp t a b _=>aK n t++aK n a++aK n b
  | .Compare a _ bs _=>aK n a++gz (aK n) bs
  | .Subscript o i _=>match i with
    | .Slice lo hi st _=>aK n o++CM (aK n) lo++CM (aK n) hi++CM (aK n) st
    |i=>qV (aK n) o++aK n i
  | .Attribute o _ _=>aK n o
  | .List es _=>gz (aK n) es
  | .Tuple es _ _=>gz (aK n) es
  | .ListComp _ gs scope _=>AM scope++gs.flatMap λg=>aK n g.iter
  | .Call f as _ _=>match f with
    | .Attribute o _ _=>aK n o++gz (aK n) as
    |f=>bif Ed f then gz (qV (aK n)) as else gz (aK n) as
  |_=>[]
noncomputable def sF:Expr->Option (Str×Expr)
 | .Call f as kw pos=>match f with
   | .Attribute o m q=>match o with
     | .Name x _=>match as with
       |[]=>none
       |a::as=>bif ag (nm m) (nm "append")&&(q.endLine==pos.line)&&as.isEmpty&&kw.isEmpty then some (x,a)else none
     |_=>none
   |_=>none
 |_=>none
noncomputable def AN(e:Expr):List Nm:=match sF e with
 |some (x,_)=>[nm x]
 |none=>[]
noncomputable def mS:Expr->List Nm
 | .Name x _=>[nm x]
 | .Tuple ts _ _=>ts.filterMap nmT
 | .Subscript (.Name x _) _ _=>[nm x]
 |_=>[]
noncomputable def aM(f:Stmt->List Nm):List Stmt->List Nm
 |[]=>[]
 |s::r=>f s++aM f r
theorem kB{f:Stmt->List Nm}{s:Stmt}{r:List Stmt}:aM f (s::r)=f s++aM f r:=rfl
noncomputable def d9:Nat->Stmt->List Nm
 |0,_=>[]
 |n+1,s=>match s with
  | .Assign ts _ _=>ts.flatMap mS
  | .AugAssign t _ _ _=>mS t
  | .For t _ b _ _=>mS t++aM (d9 n) b
  | .While _ b _ _=>aM (d9 n) b
  | .If _ a b _=>aM (d9 n) a++aM (d9 n) b
  | .Expr e _=>AN e
  |_=>[]
noncomputable def pE(f:Stmt->Bool):List Stmt->Bool
 |[]=>false
 |s::r=>f s||pE f r
noncomputable def yG:Nat->Stmt->Bool
 |0,_=>true
 |n+1,s=>match s with
  | .Return _ _=>true
  | .Break _=>true
  | .Continue _=>true
  | .For _ _ b _ _=>pE (yG n) b
  | .While _ b _ _=>pE (yG n) b
  | .If _ a b _=>pE (yG n) a||pE (yG n) b
  |_=>false
noncomputable def ay(f:Stmt->Bool):List Stmt->Bool
 |[]=>true
 |s::r=>f s&&ay f r
theorem wb{f:Stmt->Bool}{s:Stmt}{r:List Stmt}:ay f (s::r)=(f s&&ay f r):=rfl
noncomputable def fits:Nat->Stmt->Bool
 |0,_=>false
 |n+1,s=>match s with
  | .For _ _ b _ _=>ay (fits n) b
  | .While _ b _ _=>ay (fits n) b
  | .If _ a b _=>ay (fits n) a&&ay (fits n) b
  |_=>true
noncomputable def wc:Expr->Bool
 | .List _ _=>true
 |_=>false
noncomputable def yH(o:Option (Str×List Expr)):Bool:=match o with
 |some (f,as)=>ag (nm f) (nm "list")&&(jJ as).isSome
 |none=>false
noncomputable def hW(e:Expr):Bool:=match e with
 | .List _ _=>true
 | .BinOp a op _ _=>match op with
   | .Add=>true
   | .Mult=>wc a
   |_=>false
 |e=>yH (gx e)
noncomputable def hZ(μ:List Nm)(x:Nm)(e:Expr)(v:V):Slot:=match v with
 | .list l=>bif jI x μ&&hW e then .own l else .val (.list l)
 |v => .val v
noncomputable def bM(es:List Expr):Bool:=es.all (constantsAlone 8) && !es.all (foldedForSure 8)
noncomputable def sG(v:V):List Expr->Rho->Bool×Rho
 |[],ρ=>(true,ρ)
 | .Name x _::ts,ρ=>sG v ts (put ρ (nm x) (.val v))
 |_,ρ=>(false,ρ)
noncomputable def gW(l:List V)(k:Nat)(v:V):List V:=l.set k v
noncomputable def pF:Expr->Option (List Expr)
 | .Tuple es _ _=>some es
 |_=>none
noncomputable def i6(κ:List (Str×NameKind))(ns:List Nm):Bool:=ns.all λx=>af (kd κ x)
noncomputable def CN(ok:Bool)(ρ:Rho)(x:Nm)(l:List V)(v:R):V->Res
 | .int j=>(v.1&&ok&&(decide (0<=j)&&decide (j<l.length)&&decide (l.length<=cap)), .next (put ρ x (.own (gW l j.toNat v.2))))
 |_=>(false, .bad)
noncomputable def AO(ok:Bool)(ρ:Rho)(x:Nm)(k v:R):Slot->Res
 | .own l=>CN (ok&&k.1) ρ x l v k.2
 |_=>(false, .bad)
noncomputable def FH(E:Expr->R)(κ:List (Str×NameKind))(ρ:Rho)(o i e:Expr):Res:=match o with
 | .Name x _=>AO (af (kd κ (nm x))) ρ (nm x) (E i) (E e) (lk ρ (nm x))
 |_=>(false, .bad)
noncomputable def CO(E:Expr->R)(κ:List (Str×NameKind))(ρ:Rho)(ts:List Expr)(e:Expr):Option (List Expr)->Res
 |some es=>let xs:=dz E es;let q:=eU ts xs.2 ρ;(jj xs&&q.1&&((!bM es)&&dT (aC (.Tuple ts 0 default))&&i6 κ (aC (.Tuple ts 0 default))), .next q.2)
 |none=>let v:=E e;let q:=bh (.Tuple ts 0 default) v.2 ρ;(v.1&&q.1&&i6 κ (aC (.Tuple ts 0 default)), .next q.2)
noncomputable def AP(E:Expr->R)(κ:List (Str×NameKind))(μ:List Nm)(ρ:Rho)(t e:Expr):Res:=match t with
 | .Name x _=>let v:=E e;(v.1&&af (kd κ (nm x)), .next (put ρ (nm x) (hZ μ (nm x) e v.2)))
 | .Tuple ts _ _=>CO E κ ρ ts e (pF e)
 | .Subscript o i _=>FH E κ ρ o i e
 |_=>(false, .bad)
noncomputable def Cb(E:Expr->R)(κ:List (Str×NameKind))(ρ:Rho)(ts:List Expr)(e:Expr):Res:=
 let v:=E e;let q:=sG v.2 ts ρ
 (v.1&&q.1&&i6 κ (ts.flatMap aC), .next q.2)
noncomputable def ei(E:Expr->R)(κ:List (Str×NameKind))(μ:List Nm)(ρ:Rho)(ts:List Expr)(e:Expr):Res:=match ts with
 |[]=>(false, .bad)
 |t::ts=>match ts with
  |[]=>AP E κ μ ρ t e
  |t2::ts=>match ts with
   |[]=>Cb E κ ρ [t,t2] e
   |t3::ts=>match ts with
    |[]=>Cb E κ ρ [t,t2,t3] e
    |_::_=>(false, .bad)
noncomputable def CP:Operator->Bool
 | .Add=>true
 | .Sub=>true
 |_=>false
noncomputable def yI(op:Operator)(v:V):Bool:=mK v&&CP op
noncomputable def sH(E:Expr->R)(κ:List (Str×NameKind))(Φ:Fns)(ρ:Rho)(t:Expr)(op:Operator)(e:Expr):Res:=match t with
 | .Name x _=>
   let old:=rd κ Φ ρ (nm x);let v:=E e;let r:=de op old.2 v.2
   (af (kd κ (nm x))&&old.1&&v.1&&r.1&&yI op old.2, .next (put ρ (nm x) (.val r.2)))
 |_=>(false, .bad)
noncomputable def AQ(ok:Bool)(ρ:Rho)(x:Nm)(v:R):Slot->Res
 | .own l=>(v.1&&ok&&decide (l.length<=cap), .next (put ρ x (.own (l++[v.2]))))
 |_=>(false, .bad)
noncomputable def Ee(E:Expr->R)(κ:List (Str×NameKind))(ρ:Rho):Option (Str×Expr)->Res
 |some (x,a)=>AQ (af (kd κ (nm x))) ρ (nm x) (E a) (lk ρ (nm x))
 |none=>(false, .bad)
noncomputable def mT(E:Expr->R)(κ:List (Str×NameKind))(ρ:Rho)(e:Expr):Res:=Ee E κ ρ (sF e)
noncomputable def bY(f:V->Rho->Res)(ρ₀:Rho):List V->Rho->Res
 |[],ρ=>(true, .next ρ)
 |x::xs,ρ=>
  let q:=f x ρ
  match q.2 with
  | .next ρ'=>let r:=bY f ρ₀ xs (mask ρ₀ ρ');(q.1&&r.1,r.2)
  | .brk ρ'=>(q.1, .next (mask ρ₀ ρ'))
  |o=>(q.1,o)
noncomputable def bR(t:Rho->R)(f:Rho->Res):Nat->Rho->Res
 |0,_=>(false, .bad)
 |n+1,ρ=>
  let z:=t ρ;let c:=aa z.2
  bif c.2 then
   let q:=f ρ
   match q.2 with
   | .next ρ'=>let r:=bR t f n ρ';(z.1&&c.1&&q.1&&r.1,r.2)
   | .brk ρ'=>(z.1&&c.1&&q.1, .next ρ')
   |o=>(z.1&&c.1&&q.1,o)
  else(z.1&&c.1, .next ρ)
theorem jL{t:Rho->R}{f:Rho->Res}{n:Nat}{ρ:Rho}:bR t f (n+1) ρ=bif (aa (t ρ).2).2 then fV.casesOn (f ρ).2 (λρ'=>((t ρ).1&&(aa (t ρ).2).1&&(f ρ).1&&(bR t f n ρ').1,(bR t f n ρ').2)) (λρ'=>((t ρ).1&&(aa (t ρ).2).1&&(f ρ).1, .next ρ')) (λv=>((t ρ).1&&(aa (t ρ).2).1&&(f ρ).1, .ret v)) ((t ρ).1&&(aa (t ρ).2).1&&(f ρ).1, .bad)else((t ρ).1&&(aa (t ρ).2).1, .next ρ):=by
 show(bif _ then(match(f ρ).2 with| .next ρ'=>_| .brk ρ'=>_|o=>_)else _)=_;generalize (f ρ).2=o
 induction o using fV.casesOn<;>rfl
theorem ia{f:V->Rho->Res}{ρ₀ ρ:Rho}{x:V}{xs:List V}:bY f ρ₀ (x::xs) ρ=fV.casesOn (f x ρ).2 (λρ'=>((f x ρ).1&&(bY f ρ₀ xs (mask ρ₀ ρ')).1,(bY f ρ₀ xs (mask ρ₀ ρ')).2)) (λρ'=>((f x ρ).1, .next (mask ρ₀ ρ'))) (λv=>((f x ρ).1, .ret v)) ((f x ρ).1, .bad):=by
 show(match(f x ρ).2 with| .next ρ'=>_| .brk ρ'=>_|o=>_)=_;generalize (f x ρ).2=o
 induction o using fV.casesOn<;>rfl
noncomputable def pG(ns:List Nm)(okc c:Bool)(a b:Res):Res:=match a.2,b.2 with
 | .next ρ, .next ρ'=>(okc&&(bif c then a.1 else b.1), .next (gQ ns c ρ ρ'))
 |_,_=>(false, .bad)
noncomputable def jM(okc c:Bool)(a b:Res):Res:=(okc&&(bif c then a.1 else b.1),bif c then a.2 else b.2)
noncomputable def bf(s:List Stmt):Bool := !pE (yG 20) s
noncomputable def ex(Φ:Fns)(τ:Tau)(μ:List Nm)(W:Nat)(κ:List (Str×NameKind)):Nat->List Stmt->Rho->Res
 |0,_,_=>(false, .bad)
 |n+1,ss,ρ=>match ss with
  |[]=>(true, .next ρ)
  |s::rest=>match s with
   | .Assign ts e _=>let ρ:=freeze (aK 40 e) ρ
     seq (ei (ev Φ τ 40 κ ρ) κ μ ρ ts e) (ex Φ τ μ W κ n rest)
   | .AugAssign t op e _=>let ρ:=freeze (aK 40 e) ρ
     seq (sH (ev Φ τ 40 κ ρ) κ Φ ρ t op e) (ex Φ τ μ W κ n rest)
   | .Expr e _=>let ρ:=freeze (match e with| .Call _ as _ _=>gz (aK 40) as|_=>[]) ρ
     seq (mT (ev Φ τ 40 κ ρ) κ ρ e) (ex Φ τ μ W κ n rest)
   | .Pass _=>ex Φ τ μ W κ n rest ρ
   | .Break _=>(true, .brk ρ)
   | .Return v _=>match v with
     |some e=>let ρ:=freeze (aK 40 e) ρ
      let x:=ev Φ τ 40 κ ρ e
      (x.1, .ret x.2)
     |none=>(true, .ret .none)
   | .If t a b _=>let ρ:=freeze (aK 40 t) ρ
     let c:=ev Φ τ 40 κ ρ t
     bif bf a&&bf b&&ay (fits 20) a&&ay (fits 20) b then
      seq (pG (aM (d9 20) a++aM (d9 20) b) (c.1&&(aa c.2).1) (aa c.2).2 (ex Φ τ μ W κ n a ρ) (ex Φ τ μ W κ n b ρ)) (ex Φ τ μ W κ n rest)
     else jM (c.1&&(aa c.2).1) (aa c.2).2 (ex Φ τ μ W κ n (a++rest) ρ) (ex Φ τ μ W κ n (b++rest) ρ)
   | .For t it b els _=>match els with
     |[]=>let ρ:=freeze (aK 40 it) ρ
      let xs:=aR κ (ev Φ τ 40 κ ρ) t it
      seq (let r:=bY (λv ρ=>let q:=bh t v ρ
       let r:=ex Φ τ μ W κ n b q.2
       (q.1&&r.1,r.2)) ρ xs.2 ρ
       (xs.1&&i6 κ (aC t)&&r.1,r.2)) (ex Φ τ μ W κ n rest)
     |_=>(false, .bad)
   | .While t b els _=>match els with
     |[]=>let ρ:=freeze (aK 40 t) ρ
      seq (bR (λρ=>ev Φ τ 40 κ ρ t) (ex Φ τ μ W κ n b) W ρ) (ex Φ τ μ W κ n rest)
     |_=>(false, .bad)
   |_=>(false, .bad)
noncomputable def cK(κ:List (Str×NameKind)):List (Nm×V)->Rho
 |bs=>κ.filterMap λ(x,k)=>bif af (some k)then some (nm x,match me bs (nm x)with|some v => .val v|none => .un)else none
noncomputable def jN(r:Res):R:=match r.2 with
 | .ret v=>(r.1,v)
 | .next _=>(r.1, .none)
 |_=>bad
noncomputable def FI:List Expr->List Nm
 |[.Subscript (.Name x _) _ _]=>[nm x]
 |_=>[]
noncomputable def FJ:Stmt->List Nm
 | .Assign ts _ _=>FI ts
 | .Expr e _=>AN e
 |_=>[]
noncomputable def fW:Nat->Stmt->List Nm
 |0,_=>[]
 |n+1,s=>match s with
  | .For _ _ b _ _=>aM (fW n) b
  | .While _ b _ _=>aM (fW n) b
  | .If _ a b _=>aM (fW n) a++aM (fW n) b
  |s=>FJ s
structure Def where
 params:List Nm
 body:List Stmt
 κ:List (Str×NameKind)
noncomputable def lX:List Nm->List V->List (Nm×V)
 |x::l,v::r=>(x,v)::lX l r
 |_,_=>[]
noncomputable def bN(Φ:Fns)(τ:Tau)(W:Nat)(d:Def)(as:List V):R:=
 let r:=jN (ex Φ τ (aM (fW 20) d.body) W d.κ 200 d.body (cK d.κ (lX d.params as)))
 (Nat.beq d.params.length as.length&&r.1,r.2)
structure Cfg where
 p:Program
 w:World
 C:Addr
 h0:Heap
noncomputable abbrev AS(u:Value)(i:Int):Prop:=∃t,u = .int i t
inductive mU{α β:Type}(F:α->β->Prop):List α->List β->Prop
 |nil:mU F [] []
 |cons {a b l r}:F a b->mU F l r->mU F (a::l) (b::r)
inductive qW(G:Cfg)(X:Addr->Prop)(h:Heap)(a:Addr)(raw:List Nat)(n nt:Int)(cnt:List Int)(b:Int)(sm:Bool):Prop
 |mk (o:Obj) (d:Addr) (m:Str->Option Value) (T T2:Addr) (t:Tok) (vs:Array Value) (_:h.get? a=some o) (_:o.cls = .ref G.C) (_:o.dict=some d) (_:∀c,o.data ≠ .cls c) (_:d≠a) (_:¬X d) (_:h.Ns1 d m)
  (_:∀x:Str,x≠"raw"->x≠"n"->x≠"nt"->x≠"norm"->x≠"is_simple"->m x=none)
  (_:∃t,m "raw"=some (.str (tx raw) t)) (_:∃t,m "n"=some (.int n t)) (_:∃t,m "nt"=some (.int nt t)) (_:m "norm"=some (.ref T)) (_:m "is_simple"=some (.bool sm))
  (_:¬X T) (_:h.IsTuple T #[.ref T2, .int b t]) (_:¬X T2) (_:h.IsTuple T2 vs) (_:mU AS vs.toList cnt)
inductive we(G:Cfg)(X:Addr->Prop)(h:Heap)(a:Addr)(raw:List Nat):Prop
 |mk (o:Obj) (d:Addr) (m:Str->Option Value) (t:Tok) (_:h.get? a=some o) (_:o.cls = .ref G.C) (_:o.dict=some d) (_:∀c,o.data ≠ .cls c) (_:d≠a) (_:¬X d) (_:h.Ns1 d m)
  (_:m "raw"=some (.str (tx raw) t)) (_:∀x:Str,x≠"raw"->m x=none)
mutual
noncomputable def am(G:Cfg)(X:Addr->Prop)(h:Heap):V->Value->Prop
 | .none,u=>u = .none
 | .bool b,u=>u = .bool b
 | .int i,u=>∃t,u = .int i t
 | .str s,u=>∃t,u = .str (tx s) t
 | .list l,u=>∃a vs,u = .ref a/\¬X a/\h.IsList a vs/\Reps G X h l vs.toList
 | .tup l,u=>∃a vs,u = .ref a/\¬X a/\h.IsTuple a vs/\Reps G X h l vs.toList
 | .ws raw n nt cnt b sm,u=>∃a,u = .ref a/\¬X a/\qW G X h a raw n nt cnt b sm
 | .obj a raw,u=>u = .ref a/\¬X a/\we G X h a raw
 | .cls,u=>u = .ref G.C
noncomputable def Reps(G:Cfg)(X:Addr->Prop)(h:Heap):List V->List Value->Prop
 |[],vs=>vs=[]
 |x::l,vs=>∃v r,vs=v::r/\am G X h x v/\Reps G X h l r
end
section
variable {G:Cfg} {X X':Addr->Prop} {h h':Heap}
structure On(X X':Addr->Prop)(h h':Heap):Prop where
 keep:∀b o,¬X b->h.get? b=some o->h'.get? b=some o
 off:∀b o,h.get? b=some o->X' b->X b
theorem On.nx{b:Addr}{o:Obj}(e:On X X' h h')(n:¬X b)(g:h.get? b=some o):¬X' b:=λx=>n (e.off b o g x)
theorem On.list{a:Addr}{vs:Array Value}(e:On X X' h h')(n:¬X a)(x:h.IsList a vs):¬X' a/\h'.IsList a vs:=
 let⟨o,g,r⟩:=x;⟨e.nx n g,o,e.keep a o n g,r⟩
theorem On.tuple{a:Addr}{vs:Array Value}(e:On X X' h h')(n:¬X a)(x:h.IsTuple a vs):¬X' a/\h'.IsTuple a vs:=
 let⟨o,g,r⟩:=x;⟨e.nx n g,o,e.keep a o n g,r⟩
theorem On.ws{a:Addr}{raw n nt cnt b sm}(e:On X X' h h')(q:¬X a)(x:qW G X h a raw n nt cnt b sm):¬X' a/\qW G X' h' a raw n nt cnt b sm:=by
 obtain⟨o,d,m,T,T2,t,vs,g,h1,h2,h3,h4,h5,h6,h60,h7,h8,h9,h10,h11,h12,h13,h14,h15,h16⟩:=x;have t1:=e.tuple h12 h13;have t2:=e.tuple h14 h15;obtain⟨od,es,ep,gd,rd⟩:=h6;exact⟨e.nx q g,⟨o,d,m,T,T2,t,vs,e.keep a o q g,h1,h2,h3,h4,e.nx h5 gd,⟨od,es,ep,e.keep d od h5 gd,rd⟩,h60,h7,h8,h9,h10,h11,t1.1,t1.2,t2.1,t2.2,h16⟩⟩
theorem On.obj{a:Addr}{raw}(e:On X X' h h')(q:¬X a)(x:we G X h a raw):¬X' a/\we G X' h' a raw:=by
 obtain⟨o,d,m,t,g,h1,h2,h3,h4,h5,h6,h7,h8⟩:=x;obtain⟨od,es,ep,gd,rd⟩:=h6;exact⟨e.nx q g,⟨o,d,m,t,e.keep a o q g,h1,h2,h3,h4,e.nx h5 gd,⟨od,es,ep,e.keep d od h5 gd,rd⟩,h7,h8⟩⟩
theorem am.none_iff{u}:am G X h .none u↔u = .none:=Iff.rfl
theorem am.bool_iff{b u}:am G X h (.bool b) u↔u = .bool b:=Iff.rfl
theorem am.int_iff{i u}:am G X h (.int i) u ↔ ∃t,u = .int i t:=Iff.rfl
theorem am.str_iff{s u}:am G X h (.str s) u ↔ ∃t,u = .str (tx s) t:=Iff.rfl
theorem am.list_iff{l u}:am G X h (.list l) u ↔ ∃a vs,u = .ref a/\¬X a/\h.IsList a vs/\Reps G X h l vs.toList:=Iff.rfl
theorem am.tup_iff{l u}:am G X h (.tup l) u ↔ ∃a vs,u = .ref a/\¬X a/\h.IsTuple a vs/\Reps G X h l vs.toList:=Iff.rfl
theorem am.ws_iff{raw n nt cnt b sm u}:am G X h (.ws raw n nt cnt b sm) u ↔ ∃a,u = .ref a/\¬X a/\qW G X h a raw n nt cnt b sm:=Iff.rfl
theorem am.obj_iff{a raw u}:am G X h (.obj a raw) u↔u = .ref a/\¬X a/\we G X h a raw:=Iff.rfl
theorem am.cls_iff{u}:am G X h .cls u↔u = .ref G.C:=Iff.rfl
theorem Reps.nil_iff{vs}:Reps G X h [] vs↔vs=[]:=Iff.rfl
theorem Reps.cons_iff{x l vs}:Reps G X h (x::l) vs ↔ ∃v r,vs=v::r/\am G X h x v/\Reps G X h l r:=Iff.rfl
mutual
theorem am.on(e:On X X' h h'):∀{v:V} {u:Value},am G X h v u->am G X' h' v u
 | .none,u,x=>x
 | .bool b,u,x=>x
 | .int i,u,x=>x
 | .str s,u,x=>x
 | .list l,u,x=>by
   obtain⟨a,vs,e1,n,hl,r⟩:=am.list_iff.mp x;exact am.list_iff.mpr ⟨a,vs,e1,(e.list n hl).1,(e.list n hl).2,Reps.on e r⟩
 | .tup l,u,x=>by
   obtain⟨a,vs,e1,n,hl,r⟩:=am.tup_iff.mp x;exact am.tup_iff.mpr ⟨a,vs,e1,(e.tuple n hl).1,(e.tuple n hl).2,Reps.on e r⟩
 | .ws raw k nt cnt b sm,u,x=>by
   obtain⟨a,e1,n,y⟩:=am.ws_iff.mp x;exact am.ws_iff.mpr ⟨a,e1,e.ws n y⟩
 | .obj a raw,u,x=>am.obj_iff.mpr ⟨(am.obj_iff.mp x).1,e.obj (am.obj_iff.mp x).2.1 (am.obj_iff.mp x).2.2⟩
 | .cls,u,x=>x
theorem Reps.on(e:On X X' h h'):∀{l:List V} {vs:List Value},Reps G X h l vs->Reps G X' h' l vs
 |[],vs,x=>x
 |y::l,vs,x=>by
  obtain⟨v,r,e1,h1,h2⟩:=Reps.cons_iff.mp x;exact Reps.cons_iff.mpr ⟨v,r,e1,am.on e h1,Reps.on e h2⟩
end
theorem On.of_keeps(k:∀b o,h.get? b=some o->h'.get? b=some o):On X X h h':=⟨λb o _ g=>k b o g,λ_ _ _ x=>x⟩
theorem On.trans{X'':Addr->Prop}{h'':Heap}(a:On X X' h h')(b:On X' X'' h' h''):On X X'' h h'':=
 ⟨λq o n g=>b.keep q o (a.nx n g) (a.keep q o n g),λq o g x=>by
   by_cases n:X q
   ·exact n
   ·exact absurd (b.off q o (a.keep q o n g) x) (a.nx n g)⟩
theorem Reps.cons{x:V}{l:List V}{v:Value}{r:List Value}(a:am G X h x v)(b:Reps G X h l r):Reps G X h (x::l) (v::r):=Reps.cons_iff.mpr ⟨v,r,rfl,a,b⟩
theorem Reps.nil:Reps G X h [] []:=Reps.nil_iff.mpr rfl
theorem Reps.length:∀{l:List V} {vs:List Value},Reps G X h l vs->l.length=vs.length
 |[],vs,x=>by rw[Reps.nil_iff.mp x];rfl
 |y::l,vs,x=>by
  obtain⟨v,r,rfl,_,h2⟩:=Reps.cons_iff.mp x;simp[Reps.length h2]
theorem Reps.append:∀{l:List V} {vs:List Value} {l':List V} {vs':List Value},Reps G X h l vs->Reps G X h l' vs'->Reps G X h (l++l') (vs++vs')
 |[],vs,l',vs',x,y=>by rw[Reps.nil_iff.mp x];exact y
 |z::l,vs,l',vs',x,y=>by
  obtain⟨v,r,rfl,h1,h2⟩:=Reps.cons_iff.mp x;exact Reps.cons h1 (Reps.append h2 y)
theorem Reps.at:∀{l:List V} {vs:List Value} {k:Nat},Reps G X h l vs->k<l.length->∃u,vs[k]? = some u/\am G X h (l.getD k .none) u
 |[],vs,k,x,hk=>by simp at hk
 |z::l,vs,k,x,hk=>by
  obtain⟨v,r,rfl,h1,h2⟩:=Reps.cons_iff.mp x
  induction k using Nat.casesOn with
  |zero=>exact⟨v,rfl,h1⟩
  |succ k=>
   obtain⟨u,e,q⟩:=Reps.at (k:=k) h2 (by simpa using hk);exact⟨u,by simpa using e,by simpa using q⟩
theorem Reps.set:∀{l:List V} {vs:List Value} {k:Nat} {x:V} {u:Value},Reps G X h l vs->am G X h x u->Reps G X h (l.set k x) (vs.set k u)
 |[],vs,k,x,u,q,_=>by rw[Reps.nil_iff.mp q];simpa using Reps.nil
 |z::l,vs,k,x,u,q,p=>by
  obtain⟨v,r,rfl,h1,h2⟩:=Reps.cons_iff.mp q
  induction k using Nat.casesOn with
  |zero=>exact Reps.cons p h2
  |succ k=>exact Reps.cons h1 (Reps.set h2 p)
theorem Reps.drop:∀{l:List V} {vs:List Value} (k:Nat),Reps G X h l vs->Reps G X h (l.drop k) (vs.drop k)
 |l,vs,0,q=>q
 |[],vs,k+1,q=>by rw[Reps.nil_iff.mp q];exact Reps.nil
 |z::l,vs,k+1,q=>by
  obtain⟨v,r,rfl,h1,h2⟩:=Reps.cons_iff.mp q;exact Reps.drop k h2
theorem Reps.take:∀{l:List V} {vs:List Value} (k:Nat),Reps G X h l vs->Reps G X h (l.take k) (vs.take k)
 |l,vs,0,q=>by simpa using Reps.nil
 |[],vs,k+1,q=>by rw[Reps.nil_iff.mp q];exact Reps.nil
 |z::l,vs,k+1,q=>by
  obtain⟨v,r,rfl,h1,h2⟩:=Reps.cons_iff.mp q;exact Reps.cons h1 (Reps.take k h2)
end
end
section
open PySem PySem.W PySem.Calls PyProof.Rows
structure cG(env:Env)(h:Heap)(g:Str->Option Value):Prop where
 ns:∃m,h.Ns env.locals m/\∀x,env.kindOf x=some .local->g x=m x
 cell:∀x,jh (env.kindOf x)=true->∃c,env.cells.lookup x=some c/\h.IsCell c (g x)
 apart:env.cells.Pairwise λx y=>x.2≠y.2
noncomputable def eF(env:Env)(b:Addr):Prop:=b=env.locals\/∃x,(x,b)∈env.cells
noncomputable def ak(env:Env)(X:Addr->Prop)(O:Nm->Option Addr)(b:Addr):Prop:=X b\/eF env b\/∃x,O x=some b
theorem ll{h:Heap}{a:Addr}{m v}(x:h.Ns a m)(y:h.IsCell a v):False:=by
 obtain⟨o,es,ep,g,d,_⟩:=x;obtain⟨o',g',d'⟩:=y;rw[g]at g';cases g';rw[d]at d';cases d'
section
variable {M:Model} {A:Around} {E:Value->Shared->Prop} {s:Shared} {env:Env} {g:Str->Option Value}
theorem mV{k:Option NameKind}(h:af k=true):k=some .local\/k=some .cell\/k=some .free:=by
 induction k using Option.casesOn with
 |none=>injections h
 |some k=>induction k using NameKind.casesOn<;>first|exact .inl rfl|exact .inr (.inl rfl)|exact .inr (.inr rfl)|injections h
theorem cM {x:Str} {u:Value} {Q:Value->Shared->Prop} (hk:env.scope.kind = .function) (F:cG env s.heap g) (hx:af (env.kindOf x)=true) (hn:(x==("__classdict__":Str))=false)
 (e:g x=some u) (h:Q u s):wpAny M A (loadName env x) Q E s:=by
 rcases mV hx with k|k|k
 ·obtain⟨m,hm,hg⟩:=F.ns
  exact wpAny_loadName_local hk k hm ((hg x k).symm.trans e) h
 ·obtain⟨c,hc,hv⟩:=F.cell x (by rw[k];rfl)
  exact wpAny_loadName_cell hk k hc (e▸hv) h
 ·obtain⟨c,hc,hv⟩:=F.cell x (by rw[k];rfl)
  exact wpAny_loadName_free hk k hc (e▸hv) h hn
theorem mW {name:Str} {c:Addr} {v₀:Option Value} {v:Value} {Q:Unit->Shared->Prop} (hk:env.scope.kind = .function) (hl:env.kindOf name=some .free)
 (hc:env.cells.lookup name=some c) (hv:s.heap.IsCell c v₀)
 (h:∀h',h'.IsCell c (some v)->Heap.SameBut c s.heap h'->Q () { s with heap:=h' }):wpAny M A (storeName env name v) Q E s:=by
 unfold storeName;rw[hl,hk];exact wpAny_bind (wpAny_cellOf hc (wpAny_cellSet hv h))
noncomputable def fX(env:Env)(x:Str)(c:Addr):Prop:=(c=env.locals/\env.kindOf x=some .local)\/(env.kindOf x≠some .local/\env.cells.lookup x=some c)
theorem fX.own{x:Str}{c:Addr}(p:fX env x c):eF env c:=by
 rcases p with⟨e,_⟩|⟨_,e⟩
 ·exact .inl e
 ·exact .inr ⟨x,mem_of_lookup e⟩
theorem lm {x:Str} {v:Value} {Q:Unit->Shared->Prop} (hk:env.scope.kind = .function) (F:cG env s.heap g) (hx:af (env.kindOf x)=true)
 (h:∀h' tk c,fX env x c->cG env h' (λy=>if y=x then some v else g y)->(∀b o,b≠c->s.heap.get? b=some o->h'.get? b=some o)->(∀b o,s.heap.get? b=some o->∃o',h'.get? b=some o') ->
   Q () { s with heap:=h',toks:=tk }):wpAny M A (storeName env x v) Q E s:=by
 obtain⟨m,hm,hg⟩:=F.ns;have cellCase:∀c,env.kindOf x≠some .local->env.cells.lookup x=some c->∀h',h'.IsCell c (some v)->Heap.SameBut c s.heap h'->Q () { s with heap:=h' }:=by
  intro c hnl hc h' hv hs;have hL:env.locals≠c:=λe=>by
   obtain⟨c',hc',hcv⟩:=F.cell x (by rcases mV hx with k|k|k<;>first|exact absurd k hnl|(rw[k];rfl));rw[hc]at hc';cases hc';exact ll (e▸hm) hcv
  refine h h' s.toks c (.inr ⟨hnl,hc⟩) ⟨⟨m,hm.sameBut hs hL,λy hy => ?_⟩,λy hy => ?_,F.apart⟩ (λb o hb e=>(hs.2 b hb).trans e) (λb o e => ?_)
  ·have:y≠x:=λe=>hnl (e▸hy)
   rw[if_neg this];exact hg y hy
  ·obtain⟨c',hc',hcv⟩:=F.cell y hy
   refine⟨c',hc', ?_⟩
   by_cases e:y=x
   ·subst e;rw[hc]at hc';cases hc';rw[if_pos rfl];exact hv
   ·rw[if_neg e]
    exact hcv.sameBut hs λq=>e (name_of_addr F.apart (mem_of_lookup hc') (q▸mem_of_lookup hc))
  ·by_cases q:b=c
   ·subst q;obtain⟨o',e',_⟩:=hv;exact⟨o',e'⟩
   ·exact⟨o,(hs.2 b q).trans e⟩
 rcases mV hx with k|k|k
 ·refine wpAny_storeName_local k hm (λh' hn' hs' => ?_) (by rw[hk];rfl)
  refine h h' _ env.locals (.inl ⟨rfl,k⟩) ⟨⟨_,hn',λy hy => ?_⟩,λy hy => ?_,F.apart⟩ (λb o hb e=>(hs'.2 b hb).trans e) (λb o e => ?_)
  ·by_cases e:y=x
   ·simp[e]
   ·simp only[if_neg e];exact hg y hy
  ·obtain⟨c,hc,hcv⟩:=F.cell y hy
   have e:y≠x:=λe=>by subst e;rw[k]at hy;injections hy
   refine⟨c,hc, ?_⟩;rw[if_neg e];exact hcv.sameBut hs' λq=>ll (q▸hm) hcv
  ·by_cases q:b=env.locals
   ·subst q;obtain⟨o',es,ep,e',_⟩:=hn';exact⟨o',e'⟩
   ·exact⟨o,(hs'.2 b q).trans e⟩
 ·obtain⟨c,hc,hv⟩:=F.cell x (by rw[k];rfl)
  exact wpAny_storeName_cell hk k hc hv (cellCase c (by rw[k];decide) hc)
 ·obtain⟨c,hc,hv⟩:=F.cell x (by rw[k];rfl)
  exact mW hk k hc hv (cellCase c (by rw[k];decide) hc)
end
noncomputable def gS(G:Cfg)(X:Addr->Prop)(h:Heap)(O:Option Addr):Slot->Option Value->Prop
 | .un,_=>True
 | .val v,w=>∃u,w=some u/\am G X h v u
 | .own l,w=>∃a vs,w=some (.ref a)/\O=some a/\(∃n,h.get? a=some { cls := .type "list",data := .seq vs n })/\Reps G X h l vs.toList
structure ao(env:Env)(κ:List (Str×NameKind)):Prop where
 kind:env.scope.kind = .function
 names:∀x,af (env.kindOf x)=af (kd κ (nm x))
 free:∀x,jh (env.kindOf x)=jh (kd κ (nm x))
 glob:∀x,aO (env.kindOf x)=aO (kd κ (nm x))
 plain:∀x,(af (env.kindOf x)||aO (env.kindOf x))=true->(x==("__debug__":Str))=false/\(x==("__classdict__":Str))=false
 globals:env.globals=mainGlobals
 builtins:env.builtins=builtinsNs
structure cq(G:Cfg)(env:Env)(X:Addr->Prop)(O:Nm->Option Addr)(ρ:Rho)(h:Heap):Prop where
 old:∀b o,G.h0.get? b=some o->h.get? b=some o
 new:∀b,ak env X O b->G.h0.get? b=none
 alive:∀b,ak env X O b->∃o,h.get? b=some o
 look:∃g,cG env h g/\∀x,af (env.kindOf x)=true->gS G (ak env X O) h (O (nm x)) (lk ρ (nm x)) (g x)
 inj:∀x y a,O x=some a->O y=some a->x=y
 apart:∀x a,O x=some a->¬X a/\¬eF env a
theorem gS.on{G:Cfg}{X X':Addr->Prop}{h h':Heap}{O:Option Addr}(e:On X X' h h')(k:∀a,O=some a->∀o,h.get? a=some o->h'.get? a=some o):∀{t:Slot} {w:Option Value},gS G X h O t w->gS G X' h' O t w
 | .un,_,_=>trivial
 | .val v,_,⟨u,e1,r⟩=>⟨u,e1,r.on e⟩
 | .own l,_,⟨a,vs,e1,e2,⟨n,e3⟩,r⟩=>⟨a,vs,e1,e2,⟨n,k a e2 _ e3⟩,Reps.on e r⟩
theorem cG.keeps{env:Env}{h h':Heap}{g}(F:cG env h g)(k:∀b o,h.get? b=some o->h'.get? b=some o):cG env h' g:=
 ⟨let⟨m,hm,e⟩:=F.ns;⟨m,hm.keeps k,e⟩,λx hx=>let⟨c,hc,hv⟩:=F.cell x hx;⟨c,hc,hv.keeps k⟩,F.apart⟩
theorem cq.keeps{G:Cfg}{env:Env}{X O ρ}{h h':Heap}(S:cq G env X O ρ h)(k:∀b o,h.get? b=some o->h'.get? b=some o):cq G env X O ρ h' where
 old:=λb o e=>k b o (S.old b o e)
 new:=S.new
 alive:=λb hb=>let⟨o,e⟩:=S.alive b hb;⟨o,k b o e⟩
 look:=let⟨g,F,r⟩:=S.look;⟨g,F.keeps k,λx hx=>(r x hx).on (On.of_keeps k) λa _ o e=>k a o e⟩
 inj:=S.inj
 apart:=S.apart
theorem Kp.refl(s:Shared):Keeps s s:=⟨s.heap,s.toks,rfl,λ_ _ e=>e⟩
theorem Kp.trans{a b c:Shared}(x:Keeps a b)(y:Keeps b c):Keeps a c:=by
 obtain⟨h,t,rfl,k⟩:=x;obtain⟨h',t',rfl,k'⟩:=y;exact⟨h',t',rfl,λb o e=>k' b o (k b o e)⟩
theorem Kp.keep{a b:Shared}(x:Keeps a b):∀q o,a.heap.get? q=some o->b.heap.get? q=some o:=by
 obtain⟨h,t,rfl,k⟩:=x;exact k
theorem Kp.toks(s:Shared)(t:Nat):Keeps s { s with toks:=t }:=⟨s.heap,t,rfl,λ_ _ e=>e⟩
theorem Kp.push(s:Shared)(o:Obj)(t:Nat):Keeps s { s with heap:=s.heap.push o,toks:=t }:=⟨_,t,rfl,λ_ _ e=>Heap.get?_push_of_some _ e⟩
theorem Kp.heap{s:Shared}{h':Heap}(t:Nat)(k:∀b o,s.heap.get? b=some o->h'.get? b=some o):Keeps s { s with heap:=h',toks:=t }:=⟨h',t,rfl,k⟩
noncomputable def iN(G:Cfg)(A:Around)(env:Env)(X:Addr->Prop)(ρ:Rho)(t:Sem Value)(v:V):Prop:=
 ∀O s,cq G env X O ρ s.heap->∀(E:Value->Shared->Prop) (Q:Value->Shared->Prop),(∀u s',Keeps s s'->am G (ak env X O) s'.heap v u->Q u s')->wpAny (model G.p G.w) A t Q E s
structure gA(n:Nat)(A:Around):Prop where
 none:A.handled=none
 depth:A.depth+n<recursionLimit
 units:A.units+8*n+200<cLine
end
section
open PySem PySem.W PySem.Calls PyProof.Rows
noncomputable def aw(G:Cfg)(A:Around)(X:Addr->Prop)(t:Sem Value)(v:V)(s:Shared):Prop:=
 ∀(E:Value->Shared->Prop) (Q:Value->Shared->Prop),(∀u s',Keeps s s'->am G X s'.heap v u->Q u s')->wpAny (model G.p G.w) A t Q E s
noncomputable def aS(X:Addr->Prop)(h:Heap):Prop:=∀b,X b->∃o,h.get? b=some o
theorem aS.fresh{X:Addr->Prop}{h:Heap}(a:aS X h):¬X h.objs.size:=λx=>by
 obtain⟨o,e⟩:=a _ x;exact Nat.lt_irrefl _ (Heap.lt_size e)
theorem aS.keeps{X:Addr->Prop}{h h':Heap}(a:aS X h)(k:∀b o,h.get? b=some o->h'.get? b=some o):aS X h':=λb x=>let⟨o,e⟩:=a b x;⟨o,k b o e⟩
theorem eV(h:Heap)(o:Obj):∀b o',h.get? b=some o'->(h.push o).get? b=some o':=λ_ _ e=>Heap.get?_push_of_some _ e
section
variable {G:Cfg} {A:Around} {X:Addr->Prop} {s:Shared}
theorem cu{l:List V}{vs:List Value}(a:aS X s.heap)(r:Reps G X s.heap l vs):
 am G X (s.heap.push { cls := .type "list",data := .seq vs.toArray }) (.list l) (.ref s.heap.objs.size):=
 am.list_iff.mpr ⟨_,vs.toArray,rfl,a.fresh,⟨_,Heap.get?_push_size _ rfl,rfl,_,rfl⟩,by simpa using Reps.on (On.of_keeps (eV _ _)) r⟩
theorem jO{l:List V}{vs:List Value}(a:aS X s.heap)(r:Reps G X s.heap l vs):
 am G X (s.heap.push { cls := .type "tuple",data := .seq vs.toArray }) (.tup l) (.ref s.heap.objs.size):=
 am.tup_iff.mpr ⟨_,vs.toArray,rfl,a.fresh,⟨_,Heap.get?_push_size _ rfl,rfl,_,rfl⟩,by simpa using Reps.on (On.of_keeps (eV _ _)) r⟩
theorem aL(s:List Nat):(tx s).length=s.length:=by simp[tx,Str.length]
theorem wW(a b:List Nat):tx (a++b)=tx a++tx b:=by
 unfold tx;show Str.mk _=Str.mk (a.toArray++b.toArray);simp
theorem CQ{a b:List Nat}(h:tx a=tx b):a=b:=by
 simp only[tx,Str.mk.injEq]at h
 simpa using congrArg Array.toList h
theorem uJ(a b:List Nat):(tx a==tx b)=AF a b:=by
 cases h:AF a b with
 |true=>rw[au.mp h];simp
 |false=>
  rw[beq_eq_false_iff_ne];intro e;rw[CQ e]at h;rw[show AF b b=true from au.mpr rfl]at h;injections h
theorem Cc(x:Str):tx (nm x)=x:=by cases x;simp[tx,nm]
theorem dD{n:Nat}(h:n<=cap):n<=sizeLine:=by rw[sizeLine_eq];unfold cap at h;omega
theorem a9{t:Sem Value}{i:Int}(h:∀(E:Value->Shared->Prop) (Q:Value->Shared->Prop),(∀k tk,Q (.int i k) { s with toks:=tk })->wpAny (model G.p G.w) A t Q E s):aw G A X t (.int i) s:=
 λE Q q=>h E Q λk tk=>q _ _ (Kp.toks s tk) (am.int_iff.mpr ⟨k,rfl⟩)
theorem fh{t:Sem Value}{x:List Nat}(h:∀(E:Value->Shared->Prop) (Q:Value->Shared->Prop),(∀k tk,Q (.str (tx x) k) { s with toks:=tk })->wpAny (model G.p G.w) A t Q E s):aw G A X t (.str x) s:=
 λE Q q=>h E Q λk tk=>q _ _ (Kp.toks s tk) (am.str_iff.mpr ⟨k,rfl⟩)
theorem sI{t:Sem Value}{b:Bool}(h:∀(E:Value->Shared->Prop) (Q:Value->Shared->Prop),(∀tk,Q (.bool b) { s with toks:=tk })->wpAny (model G.p G.w) A t Q E s):aw G A X t (.bool b) s:=
 λE Q q=>h E Q λtk=>q _ _ (Kp.toks s tk) (am.bool_iff.mpr rfl)
noncomputable def Seen(G:Cfg)(X:Addr->Prop)(h:Heap):V->Value->Prop
 | .list l,u=>∃a vs,u = .ref a/\h.IsList a vs/\Reps G X h l vs.toList
 |v,u=>am G X h v u
theorem Seen.of{h:Heap}{v:V}{u:Value}(r:am G X h v u):Seen G X h v u:=by
 induction v using V.casesOn with
 |list l=>obtain⟨a,vs,e,_,hl,rr⟩:=am.list_iff.mp r;exact⟨a,vs,e,hl,rr⟩
 |_=>exact r
theorem Seen.keeps{h h':Heap}{v:V}{u:Value}(k:∀b o,h.get? b=some o->h'.get? b=some o)(r:Seen G X h v u):Seen G X h' v u:=by
 induction v using V.casesOn with
 |list l=>obtain⟨a,vs,e,⟨o,ho,hr⟩,rr⟩:=r;exact⟨a,vs,e,⟨o,k _ _ ho,hr⟩,Reps.on (On.of_keeps k) rr⟩
 |_=>exact am.on (On.of_keeps k) r
theorem Seen.int{h:Heap}{i:Int}{u:Value}(r:Seen G X h (.int i) u):∃t,u = .int i t:=am.int_iff.mp (show am G X h (.int i) u from r)
theorem Seen.str{h:Heap}{x:List Nat}{u:Value}(r:Seen G X h (.str x) u):∃t,u = .str (tx x) t:=am.str_iff.mp (show am G X h (.str x) u from r)
theorem mX {l l':List V} {u u':Value} (h1:Seen G X s.heap (.list l) u) (h2:am G X s.heap (.list l') u') (hs:l.length+l'.length<=cap)
 (E:Value->Shared->Prop) (Q:Value->Shared->Prop) (q':∀vs tk,Reps G X s.heap (l++l') vs->Q (.ref s.heap.objs.size) { s with heap:=s.heap.push { cls := .type "list",data := .seq vs.toArray },toks:=tk }):
 wpAny (model G.p G.w) A (binaryOp .Add u u') Q E s:=by
 obtain⟨p,vs,rfl,hl,r1⟩:=h1;obtain⟨q,ws,rfl,n2,hb,r2⟩:=am.list_iff.mp h2;have k:=q' _ s.toks (Reps.append r1 r2);obtain⟨⟨cls,dd,data,sl⟩,ho,hc,n,hd⟩:=hl;obtain⟨⟨cls2,dd2,data2,sl2⟩,ho2,hc2,n2,hd2⟩:=hb;simp only at hc hd hc2 hd2;subst hc hd hc2 hd2;have e:vs++ws=(vs.toList++ws.toList).toArray:=by simp
 refine concat_meets ⟨_,ho,rfl⟩ ⟨_,ho2,rfl⟩ noFill_list_add seq_list_add PySem.F.slot_list_add PySem.F.entry_list_add (PySem.F.args_list_add_2 _ _) (list_addW p q vs ws n n2 dd dd2 sl sl2 ?_) ⟨ho,ho2, ?_⟩
 ·have:=r1.length;have:=r2.length
  rw[<-Array.length_toList,<-Array.length_toList];exact dD ⋯
 ·rw[e]
  exact k
theorem uK{l l':List V}{u u':Value}(a:aS X s.heap)(h1:Seen G X s.heap (.list l) u)(h2:am G X s.heap (.list l') u')(hs:l.length+l'.length<=cap):
 aw G A X (binaryOp .Add u u') (.list (l++l')) s:=λE Q q=>mX h1 h2 hs E Q λvs tk r=>q _ _ (Kp.push s _ tk) (cu a r)
theorem sJ{l:List V}{vs:List Value}(r:Reps G X s.heap l vs):∀k:Nat,Reps G X s.heap (List.replicate k l).flatten (List.replicate k vs).flatten
 |0=>by simpa using Reps.nil
 |k+1=>by
  rw[List.replicate_succ,List.replicate_succ,List.flatten_cons,List.flatten_cons];exact Reps.append r (sJ r k)
theorem mY {l:List V} {u:Value} {x:Int} {t:Tok} (h1:Seen G X s.heap (.list l) u) (hx:x<=1000) (hlo : -(2^63:Int)<=x) (hs:l.length<=1000)
 (E:Value->Shared->Prop) (Q:Value->Shared->Prop) (q':∀vs tk,Reps G X s.heap (eZ l x) vs->Q (.ref s.heap.objs.size) { s with heap:=s.heap.push { cls := .type "list",data := .seq vs.toArray },toks:=tk }):
 wpAny (model G.p G.w) A (binaryOp .Mult u (.int x t)) Q E s:=by
 obtain⟨p,vs,rfl,hl,r1⟩:=h1;have q:=λtk=>q' _ tk (sJ r1 x.toNat)
 obtain⟨⟨cls,d,data,sl⟩,ho,hcl,k,hd⟩:=hl;simp only at hcl hd;subst hcl hd;have hv:vs.size<=1000:=by rw[<-Array.length_toList,<-Reps.length r1];exact hs
 have hsz':vs.size*x.toNat<=2^24:=Nat.le_trans (Nat.mul_le_mul hv (show x.toNat<=1000 by omega)) nofun;refine wpAny_binaryOp_repeat_ref (T:="list") (U:="int") nofun ⟨_,ho,rfl⟩ (λs'=>typeIs_int s' x t) noFill_list_mul PySem.F.fills_int_mul PySem.F.slot_int_rmul repeat_list PySem.F.slot_int_index.lookup
  (call_meets PySem.F.slot_int_rmul (typeIs_int s x t) PySem.F.entry_int_rmul (PySem.F.args_int_rmul_2 _ _) (lm_int_rmul_list_any x t p vs k d sl)
    ⟨ho,rfl,⟨_,ho,rfl⟩,call_meets PySem.F.slot_list_mul ⟨_,ho,rfl⟩ PySem.F.entry_list_mul (PySem.F.args_list_mul_2 _ _)
      (lm_list_mul_any p vs k d sl x t (by simp[Builtin.List.listFitsIndex];omega) ⋯ (by simp[Builtin.List.listTooLong,sizeLine];omega))
      ⟨ho, ?_⟩⟩)
 rw[listMul_foldl_if];exact q s.toks
theorem uL{l:List V}{u:Value}{x:Int}{t:Tok}(a:aS X s.heap)(h1:Seen G X s.heap (.list l) u)(hx:x<=1000)(hlo : -(2^63:Int)<=x)(hs:l.length<=1000):
 aw G A X (binaryOp .Mult u (.int x t)) (.list (eZ l x)) s:=λE Q q=>
 mY h1 hx hlo hs E Q λvs tk r=>q _ _ (Kp.push s _ tk) (cu a r)
theorem uM(x:List Nat)(k:Nat):List.foldl (λx1 x2=>x1++x2) #[] (List.replicate k x.toArray)=((List.replicate k x).flatten).toArray:=by
 have:∀(k:Nat) (acc:List Nat),List.foldl (λ(x1 x2:Array Nat)=>x1++x2) acc.toArray (List.replicate k x.toArray)=(acc++(List.replicate k x).flatten).toArray:=by
  intro k
  induction k with
  |zero=>intro acc;simp
  |succ k ih=>
   intro acc;rw[List.replicate_succ,List.replicate_succ,List.foldl_cons,List.flatten_cons];have e:acc.toArray++x.toArray=(acc++x).toArray:=by simp
   rw[e,ih,List.append_assoc]
 simpa using this k []
theorem mZ{n:Nat}(h:n<=1000000000000000000):n.log2<60:=by
 by_cases e:n=0
 ·subst e;decide
 ·exact(Nat.log2_lt e).mpr ⋯
theorem jk{a:Int}(h:small a=true):Builtin.Int.intBits a<=64:=by
 unfold small big at h;simp only[Bool.and_eq_true,decide_eq_true_eq]at h;unfold Builtin.Int.intBits
 split
 ·omega
 ·have:=mZ (n:=a.natAbs) ⋯
  omega
theorem wX{x:List Nat}{n:Int}{t t':Tok}(h1 : -1000<=n)(h2:n<=1000)(h3:x.length<=1000):aw G A X (binaryOp .Mult (.str (tx x) t) (.int n t')) (.str (eZ x n)) s:=
 fh λE Q q=>by
  have hl:(tx x).length=x.length:=aL x;have hm:x.length*n.toNat<=1000*1000:=Nat.mul_le_mul h3 ⋯;refine SB.mul ⟨?_,λhn _ => ?_,λhn _ => ?_⟩ λt' k => ?_
  ·simp only[Bool.or_eq_false_iff,decide_eq_false_iff_not];omega
  ·rw[hl]
   intro hgt;have hn0:(0:Int)<n:=⋯;have:(1000:Int)<=(2^63-1)/n:=Int.le_ediv_of_mul_le hn0 ⋯
   omega
  ·rw[hl];unfold Builtin.Str.tooLong;rw[decide_eq_false_iff_not,sizeLine_eq];omega
  ·have e:Txt.mul (tx x) n=tx (eZ x n):=by
    unfold Txt.mul eZ
    split
    ·rename_i h
     rw[show n.toNat=0 by omega];rfl
    ·rename_i h
     split
     ·rename_i h'
      rw[Bool.or_eq_true]at h'
      rcases h' with h'|h'
      ·rw[eq_of_beq h'];show tx x=tx _;simp
      ·have:x=[]:=by simpa[hl]using h'
       subst this;show tx []=tx _;rw[lm_rep_nil]
     ·unfold tx
      congr 1
      have:=uM x n.toNat;exact this
   rw[e];exact q t' k
theorem sK{a b c:Prop}[Decidable a][Decidable b][Decidable c](h:(decide a&&decide b&&decide c)=true):a/\b/\c:=by
 simpa[and_assoc]using h
theorem jl{a:Prop}[Decidable a](h:(!decide a)=true):¬a:=by simpa using h
theorem m0{f:List Nat->R}{v:V}{u:Value}{c:Value->Sem Value}{h:Heap}(r:am G X h v u)(ok:(vX f v).1=true)(k:∀x t,(f x).1=true->aw G A X (c (.str (tx x) t)) (f x).2 s):aw G A X (c u) (vX f v).2 s:=by
 induction v using V.casesOn with
 |str x=>obtain⟨t,rfl⟩:=am.str_iff.mp r;exact k x t ok
 |_=>exact ad ok
theorem ib{f:Int->R}{v:V}{u:Value}{c:Value->Sem Value}{h:Heap}(r:am G X h v u)(ok:(kt f v).1=true)(k:∀x t,(f x).1=true->aw G A X (c (.int x t)) (f x).2 s):aw G A X (c u) (kt f v).2 s:=by
 induction v using V.casesOn with
 |int x=>obtain⟨t,rfl⟩:=am.int_iff.mp r;exact k x t ok
 |_=>exact ad ok
theorem kF{f:List V->R}{v:V}{u:Value}{c:Value->Sem Value}{h:Heap}(r:am G X h v u)(ok:(B9 f v).1=true)(k:∀x,am G X h (.list x) u->(f x).1=true->aw G A X (c u) (f x).2 s):aw G A X (c u) (B9 f v).2 s:=by
 induction v using V.casesOn with
 |list x=>exact k x r ok
 |_=>exact ad ok
theorem fi{n:Int}{k:Nat}(h:vY n k=true) : -1000<=n/\n<=1000/\k<=1000:=sK h
theorem qX{b:Int}(h:small b=true) : -big<=b/\b<=big:=by
 unfold small at h;rw[Bool.and_eq_true,decide_eq_true_eq,decide_eq_true_eq]at h;exact h
theorem AT{op:Operator}{a b:Int}{t t':Tok}(ok:(Cy a b op).1=true):aw G A X (binaryOp op (.int a t) (.int b t')) (Cy a b op).2 s:=by
 induction op using Operator.casesOn with
 |Add=>exact a9 λE Q q=>add_int (q _ _)
 |Sub=>exact a9 λE Q q=>sub_int (q _ _)
 |Mult=>exact a9 λE Q q=>mul_int (q _ _) ((Bool.or_eq_true_iff.mp ok).elim (λk=>IntMulOk.of_left (jk k)) λk=>IntMulOk.of_right (jk k))
 |FloorDiv=>
  have ok':=aG ok;refine a9 λE Q q=>floordiv_int (jl ok'.1) (q _ _) (.inl ?_)
  have hb:=qX ok'.2;unfold big at hb;have hl:=mZ (n:=b.natAbs) ⋯;unfold Builtin.divisionGoesByPylong;refine Bool.and_eq_false_iff.mpr (.inl (decide_eq_false ?_));show ¬(if(b==0)=true then 0 else b.natAbs.log2/30+1)>300
  split<;>omega
 |Mod=>exact a9 λE Q q=>mod_int' (jl ok) (q _ _)
 |Pow=>
  have ok1:=aG ok;have h1:=aG ok1.1;have h2:=aG ok1.2;have g1:=of_decide_eq_true h1.1;have g2:=of_decide_eq_true h1.2;have g3:=of_decide_eq_true h2.1;have g4:=of_decide_eq_true h2.2;refine a9 λE Q q=>pow_int g1 ?_ (q _ _)
  have hb:Builtin.Int.intBits a<=64:=jk (by
   unfold small big;rw[decide_eq_true ⋯,decide_eq_true ⋯];rfl)
  have:(Builtin.Int.intBits a:Int)*b<=64*100:=Int.mul_le_mul ⋯ g2 g1 ⋯
  omega
 |_=>exact ad ok
theorem CR(a:aS X s.heap){op:Operator}{x y:V}{u v:Value}(ok:(de op x y).1=true)(h1:Seen G X s.heap x u)(h2:am G X s.heap y v):
 aw G A X (binaryOp op u v) (de op x y).2 s:=by
 induction x using V.casesOn with
 |int i=>
  obtain⟨t,rfl⟩:=h1.int;exact ib (c:=λv=>binaryOp op (.int i t) v) h2 ok λj t' ok=>AT ok
 |str x=>
  obtain⟨t,rfl⟩:=h1.str
  induction op using Operator.casesOn with
  |Add=>
   refine m0 (c:=λv=>binaryOp .Add (.str (tx x) t) v) h2 ok λy t' ok=>fh λE Q q=>add_str (λt' tk => ?_) (by rw[aL,aL];exact dD (of_decide_eq_true ok))
   rw[<-wW];exact q _ _
  |Mult=>exact ib (c:=λv=>binaryOp .Mult (.str (tx x) t) v) h2 ok λj t' ok=>wX (fi ok).1 (fi ok).2.1 (fi ok).2.2
  |_=>exact ad ok
 |list x=>
  induction op using Operator.casesOn with
  |Add=>exact kF (c:=λv=>binaryOp .Add u v) h2 ok λy h2 ok=>uK a h1 h2 (of_decide_eq_true ok)
  |Mult=>exact ib (c:=λv=>binaryOp .Mult u v) h2 ok λj t' ok=>uL a h1 (fi ok).2.1 (Int.le_trans nofun (fi ok).1) (fi ok).2.2
  |_=>exact ad ok
 |_=>exact ad ok
theorem Cd{x y:V}{u v:Value}(ok:(Cz x y).1=true)(h1:am G X s.heap x u)(h2:am G X s.heap y v):plainIs u v=true/\(u==v)=(Cz x y).2:=by
 induction x using V.casesOn with
 |none=>induction y using V.casesOn with
  |none=>rw[am.none_iff.mp h1,am.none_iff.mp h2];exact⟨rfl,rfl⟩
  |_=>exact ad ok
 |bool c=>induction y using V.casesOn with
  |bool d=>
   rw[am.bool_iff.mp h1,am.bool_iff.mp h2];refine⟨rfl, ?_⟩
   induction c using Bool.casesOn<;>induction d using Bool.casesOn<;>rfl
  |_=>exact ad ok
 |str x=>induction y using V.casesOn with
  |none=>obtain⟨t,rfl⟩:=am.str_iff.mp h1;rw[am.none_iff.mp h2];exact⟨rfl,rfl⟩
  |_=>exact ad ok
 |_=>exact ad ok
theorem pH{P:V->Prop}(hP:∀x,P x->∀u,am G X s.heap x u->∃as,Reads s.heap u (fS x) as):∀{l:List V} {vs:List Value},(∀x∈l,P x)->Reps G X s.heap l vs->∃as,ReadsAll s.heap vs (toPys l) as
 |[],vs,_,h=>by rw[Reps.nil_iff.mp h];exact⟨_, .nil⟩
 |x::l,vs,p,h=>by
  obtain⟨v,r,rfl,h1,h2⟩:=Reps.cons_iff.mp h;obtain⟨as,q⟩:=hP x (p x (List.mem_cons_self ..)) v h1;obtain⟨bs,q'⟩:=pH hP (λy m=>p y (List.mem_cons_of_mem _ m)) h2;exact⟨_, .cons q q'⟩
theorem m4:∀(k:Nat) (x:V),dc k x=true->∀u,am G X s.heap x u->∃as,Reads s.heap u (fS x) as
 |0,x,p,u,h=>ad p
 |k+1,x,p,u,h=>by
  induction x using V.casesOn with
  |int i=>obtain⟨t,rfl⟩:=am.int_iff.mp h;exact⟨_, .int i t⟩
  |str x=>obtain⟨t,rfl⟩:=am.str_iff.mp h;exact⟨_, .str (tx x) t⟩
  |list l=>
   obtain⟨a,vs,rfl,_,⟨o,e1,e2,n,e3⟩,r⟩:=am.list_iff.mp h;obtain⟨as,q⟩:=pH (m4 k) (List.all_eq_true.mp p) r;exact⟨_, .list e1 e2 e3 q⟩
  |_=>exact ad p
theorem m5{P:V->Prop}{k:Nat}(hP:∀x,P x->(fS x).canLay0=true/\(fS x).depth<=k):∀{l:List V},(∀x∈l,P x)->PyData.canLayAll0 (toPys l)=true/\PyData.depthAll (toPys l)<=k
 |[],_=>⟨rfl,Nat.zero_le _⟩
 |x::l,p=>by
  have h1:=hP x (p x (List.mem_cons_self ..));have h2:=m5 hP λy m=>p y (List.mem_cons_of_mem _ m)
  exact⟨Bool.and_eq_true_iff.mpr ⟨h1.1,h2.1⟩,Nat.max_le.mpr ⟨h1.2,h2.2⟩⟩
theorem pI:∀(k:Nat) (x:V),dc k x=true->(fS x).canLay0=true/\(fS x).depth<=k
 |0,x,p=>ad p
 |k+1,x,p=>by
  induction x using V.casesOn with
  |int i=>exact⟨rfl,Nat.zero_le _⟩
  |str x=>
   refine⟨?_,Nat.zero_le _⟩;show PyData.strOk ⟨x.toArray⟩=true;have e:PyData.strOk ⟨x.toArray⟩=x.all (λa=>decide (a<0x110000)):=by simp[PyData.strOk]
   rw[e,List.all_eq_true];intro a ha;exact decide_eq_true (Nat.le_of_ble_eq_true (List.all_eq_true.mp p a ha))
  |list l=>
   have:=m5 (pI k) (List.all_eq_true.mp p);exact⟨this.1,Nat.succ_le_succ this.2⟩
  |_=>exact ad p
theorem wg{P:V->Prop}(hP:∀x y,P x->P y->(fS x).eqv (fS y)=D4 x y):∀(xs ys:List V),(∀x∈xs,P x)->(∀y∈ys,P y)->PyData.eqvAll (toPys xs) (toPys ys)=eqVs xs ys
 |[],[],_,_=>rfl
 |[],_::_,_,_=>rfl
 |_::_,[],_,_=>rfl
 |x::xs,y::ys,p,q=>by
  show((fS x).eqv (fS y)&&PyData.eqvAll (toPys xs) (toPys ys))=(D4 x y&&eqVs xs ys);rw[hP x y (p x (List.mem_cons_self ..)) (q y (List.mem_cons_self ..)),wg hP xs ys (λy m=>p y (List.mem_cons_of_mem _ m)) λy m=>q y (List.mem_cons_of_mem _ m)]
theorem yJ:∀(k:Nat) (x y:V),dc k x=true->dc k y=true->(fS x).eqv (fS y)=D4 x y
 |0,x,y,p,_=>ad p
 |k+1,x,y,p,q=>by
  induction x using V.casesOn with
  |int i=>induction y using V.casesOn with
   |int j=>rfl
   |str y=>rfl
   |list ys=>rfl
   |_=>exact ad q
  |str x=>induction y using V.casesOn with
   |int j=>rfl
   |str y=>exact uJ x y
   |list ys=>rfl
   |_=>exact ad q
  |list xs=>induction y using V.casesOn with
   |int j=>rfl
   |str y=>rfl
   |list ys=>exact wg (yJ k) xs ys (List.all_eq_true.mp p) (List.all_eq_true.mp q)
   |_=>exact ad q
  |_=>exact ad p
theorem pJ{x:V}(p:dc 9 x=true):SeqAt.shaped (fS x)=true:=by
 have:=pI 9 x p;unfold SeqAt.shaped;rw[this.1,decide_eq_true (Nat.le_trans this.2 nofun)];rfl
theorem AU{op:CmpOp}{i j:Int}{t t':Tok}(ok:(CA i j op).1=true)(E:Value->Shared->Prop)(Q:Value->Shared->Prop)(q:Q (.bool (CA i j op).2) s):wpAny (model G.p G.w) A (compareOp op (.int i t) (.int j t')) Q E s:=by
 induction op using CmpOp.casesOn with
 |Lt=>exact lt_int q
 |LtE=>exact le_int q
 |Gt=>exact gt_int q
 |GtE=>exact ge_int q
 |Eq=>exact eq_int q
 |NotEq=>exact ne_int q
 |_=>exact ad ok
theorem qY {op:CmpOp} {b c:Bool} {u v:Value} (ok:(yz b c op).1=true) (h1:b=true->∀(E:Value->Shared->Prop) (Q:Value->Shared->Prop),Q (.bool c) s->wpAny (model G.p G.w) A (compareOp .Eq u v) Q E s)
 (h2:b=true->∀(E:Value->Shared->Prop) (Q:Value->Shared->Prop),Q (.bool (!c)) s->wpAny (model G.p G.w) A (compareOp .NotEq u v) Q E s) (E:Value->Shared->Prop) (Q:Value->Shared->Prop) (q:Q (.bool (yz b c op).2) s):wpAny (model G.p G.w) A (compareOp op u v) Q E s:=by
 induction op using CmpOp.casesOn with
 |Eq=>exact h1 ok E Q q
 |NotEq=>exact h2 ok E Q q
 |_=>exact ad ok
theorem AV(hu:A.units+200<cLine){op:CmpOp}{x y:V}{u v:Value}(ok:(CB op x y).1=true)(h1:am G X s.heap x u)(h2:am G X s.heap y v):
 ∀(E:Value->Shared->Prop) (Q:Value->Shared->Prop),Q (.bool (CB op x y).2) s->wpAny (model G.p G.w) A (compareOp op u v) Q E s:=by
 induction x using V.casesOn with
 |int i=>induction y using V.casesOn with
  |int j=>obtain⟨t,rfl⟩:=am.int_iff.mp h1;obtain⟨t',rfl⟩:=am.int_iff.mp h2;exact AU ok
  |_=>exact ad ok
 |str i=>induction y using V.casesOn with
  |str j=>
   obtain⟨t,rfl⟩:=am.str_iff.mp h1;obtain⟨t',rfl⟩:=am.str_iff.mp h2;exact qY ok (λ_ E Q q=>eq_str (by rw[uJ];exact q)) λ_ E Q q=>ne_str (by unfold bne;rw[uJ];exact q)
  |_=>exact ad ok
 |bool i=>induction y using V.casesOn with
  |bool j=>rw[am.bool_iff.mp h1,am.bool_iff.mp h2];exact qY ok (λ_ E Q q=>eq_bool q) λ_ E Q q=>ne_bool q
  |_=>exact ad ok
 |list i=>induction y using V.casesOn with
  |list j=>
   have key:(dc 9 (.list i)&&dc 9 (.list j))=true->∃as bs,Reads s.heap u (fS (.list i)) as/\Reads s.heap v (fS (.list j)) bs/\SeqAt.shaped (fS (.list i))=true/\SeqAt.shaped (fS (.list j))=true/\(fS (.list i)).eqv (fS (.list j))=eqVs i j:=λok=>by
    have p:=aG ok;obtain⟨as,ra⟩:=m4 9 _ p.1 u h1;obtain⟨bs,rb⟩:=m4 9 _ p.2 v h2;exact⟨as,bs,ra,rb,pJ p.1,pJ p.2,yJ 9 _ _ p.1 p.2⟩
   refine qY ok (λok E Q q => ?_) λok E Q q => ?_
   ·obtain⟨as,bs,ra,rb,sa,sb,e⟩:=key ok
    exact SeqAt.compareEq_shaped ra rb sa sb ⋯ (e▸q)
   ·obtain⟨as,bs,ra,rb,sa,sb,e⟩:=key ok
    exact SeqAt.compareNe_shaped ra rb sa sb ⋯ (by rw[e];exact q)
  |_=>exact ad ok
 |_=>exact ad ok
theorem yK(hu:A.units+200<cLine){op:CmpOp}{x y:V}{u v:Value}(ok:(oZ op x y).1=true)(h1:am G X s.heap x u)(h2:am G X s.heap y v):
 ∀(E:Value->Shared->Prop) (Q:Value->Shared->Prop),Q (.bool (oZ op x y).2) s->wpAny (model G.p G.w) A (compareOp op u v) Q E s:=by
 induction op using CmpOp.casesOn with
 |Is=>
  have:=Cd (show(Cz x y).1=true from ok) h1 h2;exact λE Q q=>wpAny_is_plain this.1 (this.2▸q)
 |IsNot=>
  have:=Cd (show(Cz x y).1=true from ok) h1 h2;exact λE Q q=>wpAny_isNot_plain this.1 (by rw[this.2];exact q)
 |_=>exact AV hu ok h1 h2
end
end
section
open PySem PySem.W PySem.Calls PyProof.Rows
section
variable {prog:Program} {w:World} {A:Around} {E:Value->Shared->Prop} {s:Shared} {env:Env}
theorem jP(slice:Expr)(o i:Value)(M:Model){A:Around}{E s}{Q:Value->Shared->Prop}(h:wpAny M A (getItem o i) Q E s):wpAny M A (subscripted slice false o i) Q E s:=by
 induction slice using Expr.casesOn with
 |Slice lo hi st p=>induction st using Option.casesOn with
  |_=>exact wpAny_operating h
 |_=>exact wpAny_operating h
theorem wh {value slice:Expr} {pos:Pos} {Q:Value->Shared->Prop}
 (h:wpAny (model prog w) A (eval value env) (λo s₁=>wpAny (model prog w) A (eval slice env) (λi s₂=>ItemOn (model prog w) A E o i Q s₂) E s₁) E s):
 wpAny (model prog w) A (eval (.Subscript value slice pos) env) Q E s:=by
 rw[eval_Subscript];refine wpAny_bind (wpAny_mono h (λo s₁ h₁=>wpAny_bind (wpAny_holding (wpAny_mono h₁ (λi s₂ h₂=>wpAny_bind (wpAny_standAt ?_)) λ_ _ x=>x)))
  λ_ _ x=>x)
 obtain⟨T,id,hl,hT,hg⟩:=h₂;refine wpAny_bind ?_;rw[getitemInPython_of_ne hT.not_modules];refine wpAny_bind (wpAny_specialOf hT hl ?_);have fin:wpAny (model prog w) A (subscripted slice false o i) (λr s₃=>wpAny (model prog w) A (letTemporaryGo value o r>>=λ_=>pure r) Q E s₃) E s₂:=
  jP slice o i _ (wpAny_mono hg (λr s₃ h₃=>wpAny_bind (wpAny_letTemporaryGo (wpAny_pure h₃))) λ_ _ x=>x)
 first
  |exact wpAny_pure (wpAny_bind fin)
  |exact wpAny_bind (wpAny_pure (wpAny_bind fin))
  |exact wpAny_bind fin
end
section
variable {G:Cfg} {A:Around} {X:Addr->Prop} {s:Shared}
theorem pK{x:V}{u:Value}(ok:(aa x).1=true)(h1:am G X s.heap x u):
 ∀(E:Value->Shared->Prop) (Q:Bool->Shared->Prop),(∀tk,Q (aa x).2 { s with toks:=tk })->wpAny (model G.p G.w) A (truthy u) Q E s:=by
 intro E Q q
 induction x using V.casesOn with
 |bool b=>rw[am.bool_iff.mp h1];exact wpAny_truthy_bool (q s.toks)
 |int i=>
  obtain⟨t,rfl⟩:=am.int_iff.mp h1;exact PyProof.Rows.truthy_int (q s.toks)
 |str x=>
  obtain⟨t,rfl⟩:=am.str_iff.mp h1;have ok':x.length<=cap:=of_decide_eq_true ok;unfold cap at ok';refine PySem.P.truthy_str (by rw[aL];omega) ?_;have e:(((tx x).length:Int)!=0)=(aa (.str x)).2:=by
   rw[aL]
   induction x using List.casesOn with
   |nil=>rfl
   |cons c x=>exact bne_iff_ne.mpr λe=>Nat.succ_ne_zero _ (Int.ofNat.inj e)
  rw[e];exact q _
 |_=>injections ok
theorem Ef{op:UnaryOp}{x:V}{u:Value}(ok:(E8 op x).1=true)(h1:am G X s.heap x u):aw G A X (unaryOp op u) (E8 op x).2 s:=by
 induction op using UnaryOp.casesOn with
 |Not=>exact sI λE Q q=>not_of (pK ok h1 E _ λtk=>q tk)
 |USub=>exact ib (c:=λu=>unaryOp .USub u) h1 ok λi t ok=>a9 λE Q q=>PyProof.Rows.neg_int (q _ _)
 |_=>exact ad ok
noncomputable def aA(G:Cfg)(A:Around)(X:Addr->Prop)(o i:Value)(v:V)(s:Shared):Prop:=
 ∀(E:Value->Shared->Prop) (Q:Value->Shared->Prop),(∀u s',Keeps s s'->am G X s'.heap v u->Q u s')->ItemOn (model G.p G.w) A E o i Q s
theorem qZ{v:V}(h:mK v=true) : .int (getI v)=v:=by induction v using V.casesOn<;>first|rfl|injections h
theorem uN{v:V}(h:Ax v=true) : .str (lV v)=v:=by induction v using V.casesOn<;>first|rfl|injections h
theorem yL{v:V}(h:Ca v=true) : .bool (pd v)=v:=by induction v using V.casesOn<;>first|rfl|injections h
theorem uO{v:V}(h:CD v=true) : .list (AG v)=v:=by induction v using V.casesOn<;>first|rfl|injections h
theorem yM{v:V}(h:E7 v=true) : .tup (CC v)=v:=by induction v using V.casesOn<;>first|rfl|injections h
theorem fY{p:V->Bool}{l:List V}{k:Nat}(h:k<l.length)(a:l.all p=true):p (l.getD k .none)=true:=by
 rw[List.all_eq_true]at a;have e:l.getD k .none=l[k]:=by simp[h]
 rw[e];exact a _ (List.getElem_mem _)
theorem m6{l:List V}{k:Nat}(h:k<l.length):sB l k=l.getD k .none:=by
 unfold sB;cases h1:l.all mK with
 |true=>exact qZ (fY h h1)
 |false=>
  cases h2:l.all Ax with
  |true=>exact uN (fY h h2)
  |false=>
   cases h3:l.all Ca with
   |true=>exact yL (fY h h3)
   |false=>
    cases h4:l.all CD with
    |true=>exact uO (fY h h4)
    |false=>
     cases h5:l.all E7 with
     |true=>exact yM (fY h h5)
     |false=>rfl
theorem cN{n:Nat}{i:Int}(h:aZ n i=true) : -(n:Int)<=i/\i<n:=
 have h:=aG h
 ⟨of_decide_eq_true h.1,of_decide_eq_true h.2⟩
theorem ic{n:Nat}{i:Int}(h:aZ n i=true):place n i<n/\((0<=i/\place n i=i.toNat)\/(i<0/\place n i=(i+n).toNat)):=by
 have h:=cN h;unfold place
 by_cases hi:i<0
 ·rw[decide_eq_true hi];exact⟨by show(i+(n:Int)).toNat<n;omega, .inr ⟨hi,rfl⟩⟩
 ·rw[decide_eq_false hi];exact⟨by show i.toNat<n;omega, .inl ⟨⋯,rfl⟩⟩
theorem lq{n:Nat}{i:Int}(h:aZ n i=true):seqIndex? i n=some (place n i):=by
 obtain⟨hp,hc⟩:=ic h;have h:=cN h;show(if(decide (0<=(if i<0 then i+(n:Int)else i))&&decide ((if i<0 then i+(n:Int)else i)<n))=true then some (if i<0 then i+(n:Int)else i).toNat else none)=_
 rcases hc with⟨h0,hc⟩|⟨h0,hc⟩
 ·rw[show(if i<0 then i+(n:Int)else i)=i from if_neg ⋯,if_pos (by rw[decide_eq_true h0,decide_eq_true h.2];rfl),hc]
 ·rw[show(if i<0 then i+(n:Int)else i)=i+n from if_pos h0,if_pos (by rw[decide_eq_true ⋯,decide_eq_true ⋯];rfl),hc]
theorem wY{l:List V}{u:Value}{i:Int}{t:Tok}(hn:l.length<=cap)(h:aZ l.length i=true)(h1:Seen G X s.heap (.list l) u):aA G A X u (.int i t) (l.getD (place l.length i) .none) s:=by
 intro E Q q;obtain⟨a,vs,rfl,hl,r⟩:=h1;have hsz:vs.size=l.length:=by rw[<-Array.length_toList,<-Reps.length r]
 obtain⟨hp,hc⟩:=ic h;obtain⟨x,e,hx⟩:=Reps.at r hp;rw[Array.getElem?_toList]at e;unfold cap at hn;refine⟨"list",_,PySem.F.slot_list_getitem.lookup,hl.typeIs, ?_⟩;have q':=q x s (Kp.refl s) hx;have hb:=cN h
 rcases hc with⟨h0,hc⟩|⟨h0,hc⟩
 ·exact wpAny_getItem_list hl h0 ⋯ (by rw[<-hc];exact e) q'
 ·exact wpAny_getItem_list_neg hl h0 (by rw[hsz];exact hb.1) ⋯ (by rw[hsz,<-hc];exact e) q'
theorem yN{l:List V}{u:Value}{i:Int}{t:Tok}(hn:l.length<=cap)(h:aZ l.length i=true)(h1:am G X s.heap (.tup l) u):aA G A X u (.int i t) (l.getD (place l.length i) .none) s:=by
 intro E Q q;obtain⟨a,vs,rfl,n,hl,r⟩:=am.tup_iff.mp h1;have hsz:vs.size=l.length:=by rw[<-Array.length_toList,<-Reps.length r]
 obtain⟨x,e,hx⟩:=Reps.at r (ic h).1;rw[Array.getElem?_toList]at e;have hb:=cN h;unfold cap at hn;exact⟨"tuple",_,PySem.F.slot_tuple_getitem.lookup,hl.typeIs,getItem_tuple hl ⋯ ⋯ (by rw[hsz];exact lq h) e (q x s (Kp.refl s) hx)⟩
theorem yO{x:List Nat}{i:Int}{t t':Tok}(hn:x.length<=cap)(h:aZ x.length i=true):aA G A X (.str (tx x) t) (.int i t') (.str [x.getD (place x.length i) 0]) s:=by
 intro E Q q;obtain⟨hp,hc⟩:=ic h;have hb:=cN h;unfold cap at hn;refine⟨"str",_,PySem.F.slot_str_getitem.lookup,typeIs_str _ _ _,getItem_str (c:=x.getD (place x.length i) 0) ?_ ?_ (q _ _ (Kp.toks s _) (am.str_iff.mpr ⟨s.toks,rfl⟩))⟩
 ·rw[decide_eq_false ⋯,decide_eq_false ⋯];rfl
 ·rw[aL,lq h]
  show(tx x).cps[place x.length i]? = _;simp[tx,hp]
end
end
section
open PySem PySem.W PySem.Calls PyProof.Rows
open Builtin.Str (strSliceIndices)
section
variable {α:Type}
theorem kG(l:List α):∀k a:Nat,((List.range k).map λj=>a+j).filterMap (l[·]?)=(l.drop a).take k
 |0,a=>by simp
 |k+1,a=>by
  have ih:=kG l k (a+1);rw[List.range_succ_eq_map,List.map_cons,List.map_map];have e:((λj=>a+j)∘Nat.succ)=λj=>a+1+j:=by funext j;simp only[Function.comp];omega
  rw[e,List.filterMap_cons,ih]
  by_cases h:a<l.length
  ·rw[List.drop_eq_getElem_cons h,List.take_succ_cons]
   simp[h]
  ·rw[List.drop_eq_nil_of_le (by omega:l.length<=a),List.drop_eq_nil_of_le (by omega:l.length<=a+1)]
   simp[List.getElem?_eq_none (by omega:l.length<=a)]
theorem m7(a b:Nat):sliceRange a b 1=(List.range (b-a)).map λj=>a+j:=by
 unfold sliceRange;rw[if_pos nofun];have e:(if(a:Int)<b then((b:Int)-a+1-1)/1 else 0).toNat=b-a:=by
  split
  ·rw[Int.ediv_one];omega
  ·omega
 simp only[e];apply List.map_congr_left;intro k _
 omega
noncomputable def fj(n:Nat)(lo:Option Int)(d:Nat):Nat:=match lo with|none=>d|some i=>bound n i
theorem m8(n:Nat)(i:Int):max 0 (min (if i<0 then i+n else i) (n:Int))=(bound n i:Int):=by
 unfold bound
 by_cases h:i<0
 ·rw[if_pos h,decide_eq_true h]
  show _=((i+(n:Int)).toNat:Int);rw[Int.min_eq_left ⋯,Int.max_comm,Int.ofNat_toNat]
 ·rw[if_neg h,decide_eq_false h]
  obtain⟨k,rfl⟩:=Int.eq_ofNat_of_zero_le (Int.not_lt.mp h);show _=((min k n:Nat):Int)
  rcases Nat.le_total k n with e|e
  ·rw[Nat.min_eq_left e,Int.min_eq_left (Int.ofNat_le.mpr e)];exact Int.max_eq_right (Int.natCast_nonneg _)
  ·rw[Nat.min_eq_right e,Int.min_eq_right (Int.ofNat_le.mpr e)];exact Int.max_eq_right (Int.natCast_nonneg _)
theorem m9(l:List α)(lo hi:Option Int):md l lo hi=(l.drop (fj l.length lo 0)).take (fj l.length hi l.length-fj l.length lo 0):=by
 unfold md fj;induction lo using Option.casesOn<;>injections hi<;>rfl
theorem pL(n:Nat)(lo hi:Option Int):strSliceIndices lo hi 1 n=(List.range (fj n hi n-fj n lo 0)).map λj=>fj n lo 0+j:=by
 rw[<-m7];unfold strSliceIndices fj
 induction lo using Option.casesOn<;>injections hi<;>simp only[show(1:Int)>0 by decide,if_true,m8]<;>rfl
theorem pM(l:List α)(lo hi:Option Int):(strSliceIndices lo hi 1 l.length).filterMap (l[·]?)=md l lo hi:=by
 rw[pL,kG,m9]
theorem pN(n:Nat)(lo:Option Int){d:Nat}(h:d<=n):fj n lo d<=n:=by
 induction lo using Option.casesOn with
 |none=>exact h
 |some i=>
  show bound n i<=n;have:=m8 n i
  omega
theorem wZ(l:List α)(lo hi:Option Int)(h:(strSliceIndices lo hi 1 l.length).length=l.length):md l lo hi=l:=by
 rw[pL,List.length_map,List.length_range]at h;have h1:=pN l.length lo (Nat.zero_le _);have h2:=pN l.length hi (Nat.le_refl _);rw[m9]
 by_cases e:l.length=0
 ·rw[List.eq_nil_of_length_eq_zero e];simp
 ·rw[show fj l.length lo 0=0 by omega,show fj l.length hi l.length=l.length by omega];simp
theorem lY(lo hi:Option Int)(n:Nat):sliceRange (sliceBounds lo hi none n).1 (sliceBounds lo hi none n).2.1 (sliceBounds lo hi none n).2.2=strSliceIndices lo hi 1 n:=by
 unfold sliceBounds strSliceIndices
 induction lo using Option.casesOn<;>injections hi<;>rfl
theorem pg(vs:Array Value)(lo hi:Option Int):slicePick vs lo hi none=(md vs.toList lo hi).toArray:=by
 unfold slicePick;rw[lY,<-pM];simp
theorem lZ(vs:Array Value)(a k:Int)(h0:0<=a)(h1:1<=k):slicePick vs (some a) none (some k)=(cJ k a vs.toList).toArray:=by
 unfold slicePick cJ sliceBounds;have hk:k>0:=⋯;have ha:¬a<0:=⋯;simp only[Option.getD_some,hk,if_true,if_neg ha];simp
theorem w0(l:List Nat):(strSliceIndices none none (-1) l.length).filterMap (l[·]?)=l.reverse:=by
 have e:strSliceIndices none none (-1) l.length=(List.range l.length).map λk=>l.length-1-k:=by
  unfold strSliceIndices sliceRange;simp only[show ¬((-1:Int)>0)by decide,if_false];have e:(if((l.length:Int)-1) > -1 then((l.length:Int)-1 - -1 - -1-1) / - -1 else 0).toNat=l.length:=by
   split
   ·rw[show(- -1:Int)=1 by decide,Int.ediv_one];omega
   ·omega
  rw[e];apply List.map_congr_left;intro k _
  omega
 rw[e];have p:=kG l.reverse l.length 0;rw[List.drop_zero,List.take_of_length_le (by simp)]at p;rw[<-p,List.filterMap_map,List.filterMap_map];have cg:∀(f g:Nat->Option Nat) (ks:List Nat),(∀k∈ks,f k=g k)->ks.filterMap f=ks.filterMap g:=by
  intro f g ks
  induction ks with
  |nil=>intro _;rfl
  |cons k ks ih=>intro h;rw[List.filterMap_cons,List.filterMap_cons,h k (List.mem_cons_self ..),ih λj hj=>h j (List.mem_cons_of_mem _ hj)]
 refine cg _ _ _ λk hk => ?_
 have hk':=List.mem_range.mp hk;simp only[Function.comp,Nat.zero_add];rw[List.getElem?_reverse ⋯]
end
section
variable {G:Cfg} {A:Around} {X:Addr->Prop} {s:Shared}
theorem yP{h:Heap}{l:List V}{vs:List Value}(r:Reps G X h l vs)(k:Nat):(l[k]? = none/\vs[k]? = none)\/∃x u,l[k]? = some x/\vs[k]? = some u/\am G X h x u:=by
 have hl:=r.length
 by_cases hk:k<l.length
 ·obtain⟨u,e,q⟩:=Reps.at r hk
  refine .inr ⟨l[k],u,by simp[hk],e, ?_⟩;have e2:l.getD k .none=l[k]:=by simp[hk]
  rw[<-e2];exact q
 ·exact .inl ⟨List.getElem?_eq_none ⋯,List.getElem?_eq_none ⋯⟩
theorem pO{h:Heap}{l:List V}{vs:List Value}(r:Reps G X h l vs):∀ks:List Nat,Reps G X h (ks.filterMap (l[·]?)) (ks.filterMap (vs[·]?))
 |[]=>Reps.nil
 |k::ks=>by
  have ih:=pO r ks;rw[List.filterMap_cons,List.filterMap_cons]
  rcases yP r k with⟨e1,e2⟩|⟨x,u,e1,e2,q⟩
  ·rw[e1,e2];exact ih
  ·rw[e1,e2];exact Reps.cons q ih
theorem yQ{f:Option Int->R}{v:V}{u:Value}{P:R->Prop}(r:am G X s.heap v u)(ok:(vZ f v).1=true)(k:∀k,(f k).1=true->IsPart u k->(∃l:Option (Int×Tok),u=partValue l/\l.map (·.1)=k)->P (f k)):P (vZ f v):=by
 induction v using V.casesOn with
 |none=>rw[am.none_iff.mp r]at k;exact k _ ok .none ⟨none,rfl,rfl⟩
 |int i=>obtain⟨t,rfl⟩:=am.int_iff.mp r;exact k _ ok (.int i t) ⟨some (i,t),rfl,rfl⟩
 |_=>exact ad ok
theorem uP{v:V}{u:Value}(h:uF v=true)(r:am G X s.heap v u):u = .none:=by
 induction v using V.casesOn with
 |none=>exact am.none_iff.mp r
 |_=>exact ad h
theorem nc{f:Int->R}{v:V}{u:Value}{P:R->Prop}(r:am G X s.heap v u)(ok:(kt f v).1=true)(k:∀i t,u = .int i t->(f i).1=true->P (f i)):P (kt f v):=by
 induction v using V.casesOn with
 |int i=>obtain⟨t,e⟩:=am.int_iff.mp r;exact k i t e ok
 |_=>exact ad ok
theorem w5 {x:List Nat} {t:Tok} {va vb vc:Value} {lo hi:Option Int} {sl:Addr} (hl:s.heap.IsSliceOf sl va vb vc) (hn:x.length<=cap)
 (pa:∃l:Option (Int×Tok),va=partValue l/\l.map (·.1)=lo) (pb:∃l:Option (Int×Tok),vb=partValue l/\l.map (·.1)=hi) (pc:vc = .none):
 aA G A X (.str (tx x) t) (.ref sl) (.str (md x lo hi)) s:=by
 intro E Q q;obtain⟨l,rfl,e1⟩:=pa;obtain⟨u,rfl,e2⟩:=pb;subst pc;have hs:s.heap.IsSlice sl l u none:=hl;refine⟨"str",_,PySem.F.slot_str_getitem.lookup,typeIs_str _ _ _,wpAny_getItem_str_slice hs rfl ?_⟩;unfold sliceMade slicePicked;have e3:((Option.map (λx=>x.fst) (none:Option (Int×Tok))).getD 1)=(1:Int):=rfl;rw[e1,e2,e3,aL]
 split
 ·rename_i h
  rw[Bool.and_eq_true]at h;have e:=wZ x lo hi (by simpa using h.2);exact q _ _ (Kp.refl _) (am.str_iff.mpr ⟨t,by rw[e]⟩)
 ·have e:(⟨((strSliceIndices lo hi 1 x.length).filterMap ((tx x).cps[·]?)).toArray⟩:Str)=tx (md x lo hi):=by
   rw[<-pM];unfold tx;simp
  rw[e];refine⟨?_,q _ _ (Kp.toks s (s.toks+1)) (am.str_iff.mpr ⟨s.toks,rfl⟩)⟩;have hle:(md x lo hi).length<=x.length:=by rw[m9,List.length_take,List.length_drop];omega
  rw[aL];exact dD ⋯
theorem ph{x:List Nat}{t:Tok}{t':Tok}{sl:Addr}(hl:s.heap.IsSliceOf sl .none .none (.int (-1) t'))(hn:x.length<=cap):
 aA G A X (.str (tx x) t) (.ref sl) (.str x.reverse) s:=by
 intro E Q q;have hs:s.heap.IsSlice sl none none (some (-1,t')):=hl;refine⟨"str",_,PySem.F.slot_str_getitem.lookup,typeIs_str _ _ _,wpAny_getItem_str_slice hs rfl ?_⟩;unfold sliceMade slicePicked;rw[if_neg (by intro h;rw[Bool.and_eq_true]at h;exact Bool.false_ne_true h.1),aL];have e:(⟨((strSliceIndices none none (-1) x.length).filterMap ((tx x).cps[·]?)).toArray⟩:Str)=tx x.reverse:=by
  rw[<-w0];unfold tx;simp
 show(Made.str ⟨((strSliceIndices none none (-1) x.length).filterMap ((tx x).cps[·]?)).toArray⟩).post Q s;rw[e];exact⟨by rw[aL,List.length_reverse];exact dD hn,q _ _ (Kp.toks s (s.toks+1)) (am.str_iff.mpr ⟨s.toks,rfl⟩)⟩
theorem nf {l:List V} {u va vb vc:Value} {lo hi st:Option Int} {sl:Addr} {r:List V} (al:aS X s.heap) (hl:s.heap.IsSliceOf sl va vb vc) (hn:l.length<=cap)
 (h1:am G X s.heap (.list l) u) (pa:IsPart va lo) (pb:IsPart vb hi) (pc:IsPart vc st) (h0:st≠some 0)
 (hr:∀vs:Array Value,Reps G X s.heap l vs.toList->Reps G X s.heap r (slicePick vs lo hi st).toList):
 aA G A X u (.ref sl) (.list r) s:=by
 intro E Q q;obtain⟨a,vs,rfl,n,hls,rr⟩:=am.list_iff.mp h1;have hsz:vs.size=l.length:=by rw[<-Array.length_toList,<-Reps.length rr]
 refine⟨"list",_,PySem.F.slot_list_getitem.lookup,hls.typeIs,wpAny_getItem_list_slice hls hl pa pb pc h0 ?_ (by rw[hsz];exact dD hn)⟩;have:=cu al (hr vs rr);exact q _ _ (Kp.push s _ s.toks) this
theorem ng {a b:V} {u va vb:Value} {sl:Addr} {f:Option Int->Option Int->R} (h2:am G X s.heap a va) (h3:am G X s.heap b vb) (ok:(vZ (λa=>vZ (λb=>f a b) b) a).1=true)
 (k:∀x y,(f x y).1=true->IsPart va x->IsPart vb y->(∃l:Option (Int×Tok),va=partValue l/\l.map (·.1)=x)->(∃l:Option (Int×Tok),vb=partValue l/\l.map (·.1)=y)->aA G A X u (.ref sl) (f x y).2 s):
 aA G A X u (.ref sl) (vZ (λa=>vZ (λb=>f a b) b) a).2 s:=
 yQ (P:=λr=>aA G A X u (.ref sl) r.2 s) h2 ok λx ok p p'=>yQ (P:=λr=>aA G A X u (.ref sl) r.2 s) h3 ok λy ok q q'=>k x y ok p q p' q'
theorem uQ {l:List V} {a b c:V} {u va vb vc:Value} {sl:Addr} (al:aS X s.heap) (ok:(kt (λk=>kt (λa=>(uF b&&(decide (l.length<=cap)&&decide (0<=a)&&decide (1<=k)), .list (cJ k a l))) a) c).1=true) (hl:s.heap.IsSliceOf sl va vb vc)
 (h1:am G X s.heap (.list l) u) (h2:am G X s.heap a va) (h3:am G X s.heap b vb) (h4:am G X s.heap c vc):aA G A X u (.ref sl) (kt (λk=>kt (λa=>(uF b&&(decide (l.length<=cap)&&decide (0<=a)&&decide (1<=k)), .list (cJ k a l))) a) c).2 s:=
 nc (P:=λr=>aA G A X u (.ref sl) r.2 s) h4 ok λk t e ok=>nc (P:=λr=>aA G A X u (.ref sl) r.2 s) h2 ok λi t' e' ok=>by
  have ok:=aG ok;have o2:=sK ok.2;rw[uP ok.1 h3,e,e']at hl;refine nf al hl o2.1 h1 (.int _ _) .none (.int _ _) (by intro e;injections e;exact absurd o2.2.2 nofun) λvs rr => ?_
  rw[lZ vs _ _ o2.2.1 o2.2.2];unfold cJ;rw[<-Reps.length rr];exact pO rr _
theorem uR {l:List V} {a b:V} {u va vb:Value} {sl:Addr} (al:aS X s.heap) (ok:(vZ (λa=>vZ (λb=>(decide (l.length<=cap), .list (md l a b))) b) a).1=true) (hl:s.heap.IsSliceOf sl va vb .none)
 (h1:am G X s.heap (.list l) u) (h2:am G X s.heap a va) (h3:am G X s.heap b vb):aA G A X u (.ref sl) (vZ (λa=>vZ (λb=>(decide (l.length<=cap), .list (md l a b))) b) a).2 s:=
 ng h2 h3 ok λx y ok p q _ _=>nf al hl (of_decide_eq_true ok) h1 p q .none nofun λvs rr=>by
  rw[pg,m9,m9,<-Reps.length rr];exact Reps.take _ (Reps.drop _ rr)
theorem yR {o a b c:V} {u va vb vc:Value} {sl:Addr} (al:aS X s.heap) (ok:(eC o a b c).1=true) (hl:s.heap.IsSliceOf sl va vb vc)
 (h1:am G X s.heap o u) (h2:am G X s.heap a va) (h3:am G X s.heap b vb) (h4:am G X s.heap c vc):aA G A X u (.ref sl) (eC o a b c).2 s:=by
 induction o using V.casesOn with
 |str x=>
  obtain⟨t,rfl⟩:=am.str_iff.mp h1
  induction c using V.casesOn with
  |none=>exact ng h2 h3 ok λx y ok _ _ p q=>w5 hl (of_decide_eq_true ok) p q (am.none_iff.mp h4)
  |int k=>
   obtain⟨t',rfl⟩:=am.int_iff.mp h4;have ok:=aG ok;have o1:=aG ok.1;have o2:=aG ok.2;rw[uP o1.1 h2,uP o1.2 h3,of_decide_eq_true o2.2]at hl;exact ph hl (of_decide_eq_true o2.1)
  |_=>exact ad ok
 |list l=>
  induction c using V.casesOn with
  |none=>rw[am.none_iff.mp h4]at hl;exact uR al ok hl h1 h2 h3
  |int k=>exact uQ (c := .int k) al ok hl h1 h2 h3 h4
  |_=>exact ad ok
 |_=>exact ad ok
theorem yS{ty:Nat}{l:List V}{i:Int}{u v:Value}(ok:(D5 ty l i).1=true)(h:l.length<=cap->aZ l.length i=true->aA G A X u v (l.getD (place l.length i) .none) s):aA G A X u v (D5 ty l i).2 s:=by
 unfold D5 at ok |-;generalize Nat.beq ty 1=b at ok |-
 induction b using Bool.casesOn with
 |true=>
  have ok:=aG ok;have o1:=aG ok.1;have:=h (of_decide_eq_true o1.2) o1.1;rw[<-qZ ok.2]at this;exact this
 |false=>
  generalize Nat.beq ty 2=b at ok |-
  induction b using Bool.casesOn with
  |true=>
   have ok:=aG ok;have o1:=aG ok.1;have:=h (of_decide_eq_true o1.2) o1.1;rw[<-uN ok.2]at this;exact this
  |false=>
   have ok:=aG ok;have:=h (of_decide_eq_true ok.2) ok.1;rw[<-m6 (ic ok.1).1]at this;exact this
theorem CS{ty:Nat}{o i:V}{u v:Value}(ok:(gV ty o i).1=true)(h1:Seen G X s.heap o u)(h2:am G X s.heap i v):aA G A X u v (gV ty o i).2 s:=by
 induction o using V.casesOn with
 |list l=>exact nc (P:=λr=>aA G A X u v r.2 s) h2 ok λi t e ok=>yS ok λo1 o2=>by rw[e];exact wY o1 o2 h1
 |tup l=>exact nc (P:=λr=>aA G A X u v r.2 s) h2 ok λi t e ok=>yS ok λo1 o2=>by rw[e];exact yN o1 o2 (show am G X s.heap (.tup _) u from h1)
 |str x=>
  obtain⟨t',rfl⟩:=h1.str;exact nc (P:=λr=>aA G A X (.str (tx x) t') v r.2 s) h2 ok λi t e ok=>by
   have ok:=aG ok;rw[e];exact yO (of_decide_eq_true ok.2) ok.1
 |_=>exact ad ok
end
end
section
open PySem PySem.W PySem.Calls PyProof.Rows
noncomputable def wj(v:Value):Prop:=(∃id,v = .builtin id)\/∃id,v = .type id
section
variable {G:Cfg} {A:Around} {X:Addr->Prop} {s:Shared}
theorem cO{t:Sem Value}{v:V}(h:∀(E:Value->Shared->Prop) (Q:Value->Shared->Prop),(∀u h' tk,(∀b o,s.heap.get? b=some o->h'.get? b=some o)->am G X h' v u->Q u { s with heap:=h',toks:=tk })->wpAny (model G.p G.w) A t Q E s):aw G A X t v s:=
 λE Q q=>h E Q λu h' tk k r=>q u _ (Kp.heap tk k) r
theorem mi{h:Heap}:∀{l:List V} {vs:List Value},l.all mK=true->Reps G X h l vs->(∀v,v∈vs->∃a t,v = .int a t)/\numsOf vs=l.map getI
 |[],vs,_,r=>by rw[Reps.nil_iff.mp r];exact⟨λv hv=>absurd hv (by simp),rfl⟩
 |x::l,vs,a,r=>by
  obtain⟨v,r',rfl,h1,h2⟩:=Reps.cons_iff.mp r;rw[List.all_cons,Bool.and_eq_true]at a;have ih:=mi a.2 h2;rw[<-qZ a.1]at h1;obtain⟨t,rfl⟩:=am.int_iff.mp h1;exact⟨λw hw=>by
   rcases List.mem_cons.mp hw with rfl|hw
   ·exact⟨_,_,rfl⟩
   ·exact ih.1 w hw,by rw[numsOf,ih.2];rfl⟩
theorem pP:∀(l:List Int) (a:Int),l.foldl (· + ·) a=a+l.sum
 |[],a=>by simp
 |x::l,a=>by rw[List.foldl_cons,pP l,List.sum_cons];omega
theorem AW(l:List V):sC l=(l.map getI).sum:=by unfold sC;rw[pP];omega
theorem pQ:∀(l:List Int) (a:Int),(l.foldl (λa b=>bif decide (a<b)then b else a) a∈a::l)/\∀b∈a::l,b<=l.foldl (λa b=>bif decide (a<b)then b else a) a
 |[],a=>⟨by simp,by simp⟩
 |x::l,a=>by
  rw[List.foldl_cons];have ih:=pQ l (bif decide (a<x)then x else a)
  by_cases h:a<x
  ·rw[decide_eq_true h]at ih |-
   simp only[cond_true]at ih |-;refine⟨List.mem_cons_of_mem _ ih.1,λb hb => ?_⟩
   rcases List.mem_cons.mp hb with rfl|hb
   ·have:=ih.2 x (List.mem_cons_self ..);omega
   ·exact ih.2 b hb
  ·rw[decide_eq_false h]at ih |-
   simp only[cond_false]at ih |-;refine⟨?_,λb hb => ?_⟩
   ·rcases List.mem_cons.mp ih.1 with e|e
    ·rw[e];exact List.mem_cons_self ..
    ·exact List.mem_cons_of_mem _ (List.mem_cons_of_mem _ e)
   ·rcases List.mem_cons.mp hb with rfl|hb
    ·exact ih.2 _ (List.mem_cons_self ..)
    ·rcases List.mem_cons.mp hb with rfl|hb
     ·have:=ih.2 a (List.mem_cons_self ..);omega
     ·exact ih.2 b (List.mem_cons_of_mem _ hb)
theorem pR:∀(l:List Int) (a:Int),(l.foldl (λa b=>bif decide (b<a)then b else a) a∈a::l)/\∀b∈a::l,l.foldl (λa b=>bif decide (b<a)then b else a) a<=b
 |[],a=>⟨by simp,by simp⟩
 |x::l,a=>by
  rw[List.foldl_cons];have ih:=pR l (bif decide (x<a)then x else a)
  by_cases h:x<a
  ·rw[decide_eq_true h]at ih |-
   simp only[cond_true]at ih |-;refine⟨List.mem_cons_of_mem _ ih.1,λb hb => ?_⟩
   rcases List.mem_cons.mp hb with rfl|hb
   ·have:=ih.2 x (List.mem_cons_self ..);omega
   ·exact ih.2 b hb
  ·rw[decide_eq_false h]at ih |-
   simp only[cond_false]at ih |-;refine⟨?_,λb hb => ?_⟩
   ·rcases List.mem_cons.mp ih.1 with e|e
    ·rw[e];exact List.mem_cons_self ..
    ·exact List.mem_cons_of_mem _ (List.mem_cons_of_mem _ e)
   ·rcases List.mem_cons.mp hb with rfl|hb
    ·exact ih.2 _ (List.mem_cons_self ..)
    ·rcases List.mem_cons.mp hb with rfl|hb
     ·have:=ih.2 a (List.mem_cons_self ..);omega
     ·exact ih.2 b (List.mem_cons_of_mem _ hb)
theorem Eg{l:List V}{u:Value}(hh:A.handled=none)(ok:l.all mK=true)(r:am G X s.heap (.list l) u):aw G A X (call (.builtin "sum") [u]) (.int (sC l)) s:=by
 obtain⟨a,vs,rfl,n,hl,rr⟩:=am.list_iff.mp r;obtain⟨h1,h2⟩:=mi ok rr;obtain⟨xs,rfl⟩:=AllInts.items (vs:=vs) λv hv=>h1 v (Array.mem_toList_iff.mpr hv)
 refine cO λE Q q=>sum_intListG hh hl λh' tk t' hk => ?_
 rw[preSum_eq,List.take_of_length_le (by simp)];rw[nums_intItems]at h2;refine q _ h' tk hk (am.int_iff.mpr ⟨t', ?_⟩);rw[AW,<-h2]
theorem Eh{l:List V}{u:Value}(hh:A.handled=none)(ok:l.all mK=true)(hne:l≠[])(r:am G X s.heap (.list l) u):aw G A X (call (.builtin "max") [u]) (.int (uG (l.map getI))) s:=by
 obtain⟨a,vs,rfl,n,hl,rr⟩:=am.list_iff.mp r;obtain⟨h1,h2⟩:=mi ok rr;have hlen:=Reps.length rr;obtain⟨xs,rfl⟩:=AllInts.items (vs:=vs) λv hv=>h1 v (Array.mem_toList_iff.mpr hv)
 rw[nums_intItems]at h2;have hsz:0<xs.size:=by
  have:xs.toList.length=l.length:=by simpa using congrArg List.length h2
  rw[Array.length_toList]at this;have:l.length≠0:=λe=>hne (List.eq_nil_of_length_eq_zero e)
  omega
 refine cO λE Q q=>max_intList hh hl hsz λv h' tk hv hk => ?_
 obtain⟨t,rfl⟩:=intItems_at hv;obtain⟨g1,g2⟩:=argBest_gt (numAt xs) (xs.size-1);refine q _ h' tk hk (am.int_iff.mpr ⟨t, ?_⟩)
 congr 1
 have m1:numAt xs (argBest (λi j=>decide (numAt xs i>numAt xs j)) (xs.size-1))∈l.map getI:=by
  rw[numAt_eq,<-h2];exact getD_mem (by rw[List.length_map,Array.length_toList];omega)
 have m2:∀b∈l.map getI,b<=numAt xs (argBest (λi j=>decide (numAt xs i>numAt xs j)) (xs.size-1)):=λb hb=>by
  rw[<-h2]at hb;obtain⟨j,hj,rfl⟩:=mem_getD hb;rw[List.length_map,Array.length_toList]at hj;rw[<-numAt_eq];exact g2 j ⋯
 cases hm:l.map getI with
 |nil=>rw[hm]at m1;cases m1
 |cons x r=>
  rw[hm]at m1 m2;obtain⟨f1,f2⟩:=pQ r x;have:=m2 _ f1;have:=f2 _ m1;show _=r.foldl _ x
  omega
theorem Ei{l:List V}{u:Value}(hh:A.handled=none)(ok:l.all mK=true)(hne:l≠[])(r:am G X s.heap (.list l) u):aw G A X (call (.builtin "min") [u]) (.int (D6 (l.map getI))) s:=by
 obtain⟨a,vs,rfl,n,hl,rr⟩:=am.list_iff.mp r;obtain⟨h1,h2⟩:=mi ok rr;have hlen:=Reps.length rr;obtain⟨xs,rfl⟩:=AllInts.items (vs:=vs) λv hv=>h1 v (Array.mem_toList_iff.mpr hv)
 rw[nums_intItems]at h2;have hsz:0<xs.size:=by
  have:xs.toList.length=l.length:=by simpa using congrArg List.length h2
  rw[Array.length_toList]at this;have:l.length≠0:=λe=>hne (List.eq_nil_of_length_eq_zero e)
  omega
 refine cO λE Q q=>min_intList hh hl hsz λv h' tk hv hk => ?_
 obtain⟨t,rfl⟩:=intItems_at hv;obtain⟨g1,g2⟩:=argBest_lt (numAt xs) (xs.size-1);refine q _ h' tk hk (am.int_iff.mpr ⟨t, ?_⟩)
 congr 1
 have m1:numAt xs (argBest (λi j=>decide (numAt xs i<numAt xs j)) (xs.size-1))∈l.map getI:=by
  rw[numAt_eq,<-h2];exact getD_mem (by rw[List.length_map,Array.length_toList];omega)
 have m2:∀b∈l.map getI,numAt xs (argBest (λi j=>decide (numAt xs i<numAt xs j)) (xs.size-1))<=b:=λb hb=>by
  rw[<-h2]at hb;obtain⟨j,hj,rfl⟩:=mem_getD hb;rw[List.length_map,Array.length_toList]at hj;rw[<-numAt_eq];exact g2 j ⋯
 cases hm:l.map getI with
 |nil=>rw[hm]at m1;cases m1
 |cons x r=>
  rw[hm]at m1 m2;obtain⟨f1,f2⟩:=pR r x;have:=m2 _ f1;have:=f2 _ m1;show _=r.foldl _ x
  omega
theorem yT{h:Heap}{l:List V}{vs:List Value}(a:l.all Ca=true)(r:Reps G X h l vs)(k:Nat)(hk:k<l.length):vs[k]? = some (.bool ((l.map pd).getD k false)):=by
 obtain⟨u,e,q⟩:=Reps.at r hk;rw[<-yL (fY hk a)]at q;rw[e,am.bool_iff.mp q];simp[hk]
theorem Ej{l:List V}{u:Value}(hh:A.handled=none)(ok:l.all Ca=true)(r:am G X s.heap (.list l) u):aw G A X (call (.builtin "all") [u]) (.bool ((l.map pd).all id)) s:=by
 obtain⟨a,vs,rfl,n,hl,rr⟩:=am.list_iff.mp r;have hsz:vs.size=l.length:=by rw[<-Array.length_toList,<-Reps.length rr]
 have hlt:a<s.heap.objs.size:=by obtain⟨_,e,_⟩:=hl;exact Heap.lt_size e
 refine cO λE Q q=>call_all_walk (wpAny_pyIter_list hl ?_)
 refine⟨_,_,_,_,_,_,λk=>(l.map pd).getD k false,rfl,Walks.list (A:=A.in1) hh _ a (Nat.ne_of_lt hlt) vs,⟨⟨_,Heap.get?_push_size _ rfl,rfl,rfl⟩,hl.push _⟩, ?_,λh' tk hk => ?_⟩
 ·intro i v s' Q' E' hv hq
  have hi:i<vs.size:=by
   rcases Nat.lt_or_ge i vs.size with h|h
   ·exact h
   ·rw[Array.getElem?_eq_none h]at hv;injections hv
  have:=yT ok rr i ⋯;rw[Array.getElem?_toList,hv]at this
  injection this with this
  rw[this];exact wpAny_truthy_bool hq
 ·have e:(List.range vs.size).all (λk=>(l.map pd).getD k false)=(l.map pd).all id:=by
   rw[hsz,show l.length=(l.map pd).length by simp,Bool.eq_iff_iff,List.all_eq_true,List.all_eq_true]
   constructor
   ·intro h b hb
    obtain⟨j,hj,e⟩:=List.getElem_of_mem hb;have:=h j (List.mem_range.mpr hj);rw[List.getD_eq_getElem?_getD,List.getElem?_eq_getElem hj,e]at this;exact this
   ·intro h j hj
    have hj:=List.mem_range.mp hj;rw[List.getD_eq_getElem?_getD,List.getElem?_eq_getElem hj];exact h _ (List.getElem_mem hj)
  rw[e];exact q _ h' tk (λb o g=>hk b o (λhm=>absurd (List.mem_singleton.mp hm▸Heap.lt_size g) (Nat.lt_irrefl _)) (Heap.get?_push_of_some _ g)) (am.bool_iff.mpr rfl)
theorem AX{l:List V}{u:Value}(al:aS X s.heap)(hn:l.length<=cap)(r:am G X s.heap (.list l) u):aw G A X (call (.type "tuple") [u]) (.tup l) s:=by
 obtain⟨a,vs,rfl,n,hl,rr⟩:=am.list_iff.mp r;have hsz:vs.size=l.length:=by rw[<-Array.length_toList,<-Reps.length rr]
 refine cO λE Q q=>call_tuple_list hl (λh' hk => ?_) (by rw[hsz];exact dD hn)
 have:=jO (s:={ s with heap:=h' }) (aS.keeps al hk) (Reps.on (On.of_keeps hk) rr);exact q _ _ s.toks (λb o g=>Heap.get?_push_of_some _ (hk b o g)) (by simpa using this)
theorem ig{f c:Str}(h:ag (nm f) (nm c)=true):f=c:=cy (au.mp h)
theorem sL{x:V}{u:Value}(ok:(lW x).1=true)(h1:Seen G X s.heap x u):aw G A X (call (.builtin "len") [u]) (lW x).2 s:=by
 induction x using V.casesOn with
 |str x=>
  obtain⟨t,rfl⟩:=h1.str;have ok':x.length<=1000000:=of_decide_eq_true ok;refine a9 λE Q q=>PySem.P.len_str (by rw[aL];omega) ?_
  rw[aL];exact q _ _
 |list l=>
  obtain⟨a,vs,rfl,hl,rr⟩:=h1;have hsz:l.length=vs.size:=rr.length.trans Array.length_toList;have ok':l.length<=1000000:=of_decide_eq_true ok;refine a9 λE Q q=>len_list hl ⋯ ?_
  rw[<-hsz];exact q _ _
 |tup l=>
  obtain⟨a,vs,rfl,n,hl,rr⟩:=am.tup_iff.mp (show am G X s.heap (.tup l) u from h1);have hsz:l.length=vs.size:=rr.length.trans Array.length_toList;have ok':l.length<=1000000:=of_decide_eq_true ok;refine a9 λE Q q=>PyProof.Rows.len_tuple hl ⋯ ?_
  rw[<-hsz];exact q _ _
 |_=>exact ad ok
theorem d6{f:V->R}{as:List V}{us:List Value}{c:List Value->Sem Value}{h:Heap}(r:Reps G X h as us)(ok:(fU f as).1=true)(k:∀x u,am G X h x u->(f x).1=true->aw G A X (c [u]) (f x).2 s):aw G A X (c us) (fU f as).2 s:=by
 induction as using List.casesOn with
 |nil=>exact ad ok
 |cons x as=>induction as using List.casesOn with
  |nil=>
   obtain⟨v,r',rfl,h1,h2⟩:=Reps.cons_iff.mp r;rw[Reps.nil_iff.mp h2];exact k x v h1 ok
  |cons _ _=>exact ad ok
theorem AY{f:V->V->R}{as:List V}{us:List Value}{c:List Value->Sem Value}{h:Heap}(r:Reps G X h as us)(ok:(qP f as).1=true)(k:∀x y u v,am G X h x u->am G X h y v->(f x y).1=true->aw G A X (c [u,v]) (f x y).2 s):aw G A X (c us) (qP f as).2 s:=by
 induction as using List.casesOn with
 |nil=>exact ad ok
 |cons x as=>
  obtain⟨v,r',rfl,h1,h2⟩:=Reps.cons_iff.mp r
  induction as using List.casesOn with
  |nil=>exact ad ok
  |cons y as=>induction as using List.casesOn with
   |nil=>
    obtain⟨w,r2,rfl,h3,h4⟩:=Reps.cons_iff.mp h2;rw[Reps.nil_iff.mp h4];exact k x y v w h1 h3 ok
   |cons _ _=>exact ad ok
end
noncomputable abbrev CT(f:Str):Prop:=f∈(["len","ord","chr","min","max","sum","all","list","tuple","range","enumerate","zip"]:List Str)
noncomputable def Ek(G:Cfg)(A:Around)(x:Str×(List V->R)):Prop:=
 CT x.1/\∃v,wj v/\bootBuiltins x.1=some v/\∀(X:Addr->Prop) (s:Shared) (as:List V) (us:List Value),(x.2 as).1=true->aS X s.heap->Reps G X s.heap as us->aw G A X (call v us) (x.2 as).2 s
section
variable {G:Cfg} {A:Around}
theorem nh{f:Str}{F:List V->R}{id:String}(hn:CT f)(hb:bootBuiltins f=some (.builtin id))(h:∀(X:Addr->Prop) (s:Shared) (as:List V) (us:List Value),(F as).1=true->aS X s.heap->Reps G X s.heap as us->aw G A X (call (.builtin id) us) (F as).2 s):Ek G A (f,F):=
 ⟨hn,_, .inl ⟨_,rfl⟩,hb,h⟩
theorem wk {g:List Int->Int} {h:Int->Int->Int} {b:Value}
 (h1:∀(X:Addr->Prop) (s:Shared) (l:List V) (u:Value),l.all mK=true->l≠[]->am G X s.heap (.list l) u->aw G A X (call b [u]) (.int (g (l.map getI))) s)
 (h2:∀(X:Addr->Prop) (s:Shared) (i j:Int) (t t':Tok),aw G A X (call b [.int i t, .int j t']) (.int (h i j)) s)
 (X:Addr->Prop) (s:Shared) (as:List V) (us:List Value) (ok:(v5 g h as).1=true) (r:Reps G X s.heap as us):aw G A X (call b us) (v5 g h as).2 s:=by
 have two:∀as,Reps G X s.heap as us->(qP (λx y=>kt (λa=>kt (λb=>(true, .int (h a b))) y) x) as).1=true->aw G A X (call b us) (qP (λx y=>kt (λa=>kt (λb=>(true, .int (h a b))) y) x) as).2 s:=λas r ok=>
  AY (c:=λus=>call b us) r ok λx y u v r1 r2 ok=>ib (c:=λu=>call b [u,v]) r1 ok λi t ok=>ib (c:=λv=>call b [.int i t,v]) r2 ok λj t' _=>h2 X s i j t t'
 induction as using List.casesOn with
 |nil=>exact ad ok
 |cons x as=>induction as using List.casesOn with
  |nil=>
   obtain⟨v,r',rfl,r1,r2⟩:=Reps.cons_iff.mp r;rw[Reps.nil_iff.mp r2];refine kF (c:=λu=>call b [u]) r1 ok λl rl ok => ?_
   have ok:=aG (aG ok).1;exact h1 X s l v ok.1 (λe=>by rw[e]at ok;exact ad ok.2) rl
  |cons y as=>exact two _ r ok
theorem CU(hh:A.handled=none):∀x∈FZ,Ek G A x:=
 List.forall_mem_cons.mpr ⟨nh nofun boot_len λX s as us ok al r=>d6 (c:=λus=>call (.builtin "len") us) r ok λx u h ok=>sL ok (Seen.of h),
 List.forall_mem_cons.mpr ⟨nh nofun boot_ord λX s as us ok al r=>d6 (c:=λus=>call (.builtin "ord") us) r ok λx u h ok=>m0 (c:=λu=>call (.builtin "ord") [u]) h ok λx t ok=>a9 λE Q q=>ord_of_one (by rw[aL];exact Nat.eq_of_beq_eq_true ok) (by
  have e:(tx x).cps.getD 0 0=x.getD 0 0:=by simp[tx]
  rw[e];exact q _ _),
 List.forall_mem_cons.mpr ⟨nh nofun boot_chr λX s as us ok al r=>d6 (c:=λus=>call (.builtin "chr") us) r ok λx u h ok=>ib (c:=λu=>call (.builtin "chr") [u]) h ok λi t ok=>
  have ok:=aG ok
  fh λE Q q=>chr_of_range (of_decide_eq_true ok.1) (by have:=of_decide_eq_true ok.2;omega) (q _ _),
 List.forall_mem_cons.mpr ⟨nh nofun boot_min λX s as us ok al r=>wk (λX s l u o1 o2 r=>Ei hh o1 o2 r) (λX s i j t t'=>cO λE Q q=>min_two_ints hh λh' tk hk=>by
  by_cases h:j<i
  ·rw[if_pos h];exact q _ h' tk hk (am.int_iff.mpr ⟨t',by unfold CI;rw[decide_eq_true h];rfl⟩)
  ·rw[if_neg h];exact q _ h' tk hk (am.int_iff.mpr ⟨t,by unfold CI;rw[decide_eq_false h];rfl⟩)) X s as us ok r,
 List.forall_mem_cons.mpr ⟨nh nofun boot_max λX s as us ok al r=>wk (λX s l u o1 o2 r=>Eh hh o1 o2 r) (λX s i j t t'=>cO λE Q q=>max_two_ints hh λh' tk hk=>by
  by_cases h:i<j
  ·rw[if_pos h];exact q _ h' tk hk (am.int_iff.mpr ⟨t',by unfold CJ;rw[decide_eq_true h];rfl⟩)
  ·rw[if_neg h];exact q _ h' tk hk (am.int_iff.mpr ⟨t,by unfold CJ;rw[decide_eq_false h];rfl⟩)) X s as us ok r,
 List.forall_mem_cons.mpr ⟨nh nofun boot_sum λX s as us ok al r=>d6 (c:=λus=>call (.builtin "sum") us) r ok λx u h ok=>kF (c:=λu=>call (.builtin "sum") [u]) h ok λl h ok=>Eg hh (aG ok).1 h,
 List.forall_mem_cons.mpr ⟨nh nofun boot_all λX s as us ok al r=>d6 (c:=λus=>call (.builtin "all") us) r ok λx u h ok=>kF (c:=λu=>call (.builtin "all") [u]) h ok λl h ok=>Ej hh (aG ok).1 h,
 List.forall_mem_cons.mpr ⟨⟨nofun,_, .inr ⟨_,rfl⟩,PyProof.Rows.boot_tuple,λX s as us ok al r=>d6 (c:=λus=>call (.type "tuple") us) r ok λx u h ok=>kF (c:=λu=>call (.type "tuple") [u]) h ok λl h ok=>AX al (of_decide_eq_true ok) h⟩,
 λ_ h=>nomatch h⟩⟩⟩⟩⟩⟩⟩⟩
theorem q8{α:Type}{x:Str}{v:α}:∀{l:List (Str×α)},Eb l (nm x)=some v->(x,v)∈l
 |[],h=>av h
 |(y,w)::r,h=>by
  have h':(bif ag (nm x) (nm y)then some w else Eb r (nm x))=some v:=h;generalize c:ag (nm x) (nm y)=b at h'
  induction b using Bool.casesOn with
  |true=>rw[ig c,Option.some.inj h'];exact List.mem_cons_self ..
  |false=>exact List.mem_cons_of_mem _ (q8 h')
theorem yU{o:Option (List V->R)}{as:List V}(ok:(Fu o as).1=true):∃F,o=some F/\(F as).1=true:=by
 induction o using Option.casesOn with
 |none=>exact ad ok
 |some F=>exact⟨F,rfl,ok⟩
theorem El(hh:A.handled=none){f:Str}{as:List V}(ok:(dA (nm f) as).1=true):
 CT f/\∃v,wj v/\bootBuiltins f=some v/\∀(X:Addr->Prop) (s:Shared) (us:List Value),aS X s.heap->Reps G X s.heap as us->aw G A X (call v us) (dA (nm f) as).2 s:=by
 obtain⟨F,e,o⟩:=yU ok;obtain⟨hn,v,hp,hb,hy⟩:=CU (G:=G) hh _ (q8 e);refine⟨hn,v,hp,hb,λX s us al r => ?_⟩;unfold dA;rw[e];exact hy X s as us o al r
end
end
section
open PySem PySem.W PySem.Calls PyProof.Rows
noncomputable def pi(G:Cfg)(h:Heap):Prop:=∀b o,G.h0.get? b=some o->h.get? b=some o
noncomputable def w6(G:Cfg)(X:Addr->Prop):Prop:=∀b,X b->G.h0.get? b=none
noncomputable def AZ(G:Cfg)(A:Around)(v:Value):Prop:=∀(pos:Pos) (trees:List (Bool×Sem Value)) (s:Shared) (E:Value->Shared->Prop) (Q:Value->Shared->Prop),trees.any (·.1)=false ->
 wpAny (model G.p G.w) A (evalArgs v true trees []) (λa s₁=>pi G s₁.heap/\wpAny (model G.p G.w) A (call v a.pos a.kw) Q E s₁) E s->wpAny (model G.p G.w) A (callWith pos v [] trees []) Q E s
structure aB(G:Cfg)(A:Around)(Φ:Fns):Prop where
 none:A.handled=none
 units:A.units+200<cLine
 names:∃mg mb,G.h0.Ns mainGlobals mg/\G.h0.Ns builtinsNs mb /\
  (∀x v,me Φ.glob (nm x)=some v->∃u,mg x=some u/\∀X h,pi G h->w6 G X->am G X h v u) /\
  (∀f F,me Φ.fn (nm f)=some F->∃a,mg f=some (.ref a)/\AZ G A (.ref a) /\
    ∀X s as us,pi G s.heap->w6 G X->aS X s.heap->Reps G X s.heap as us->(F as).1=true->aw G A X (call (.ref a) us) (F as).2 s) /\
  ∀f v,CT f->bootBuiltins f=some v->mg f=Option.none/\mb f=some v
 attr:∀X s (x:V) (u:Value) (name:Str) (v:V),pi G s.heap->am G X s.heap x u->yF (nm name) x=(true,v)->aw G A X (getAttr u name true) v s
 meth:∀X s raw n nt cnt b sm a (name:Str) F (as:List V) (o:Expr) (apos pos:Pos) (env:Env) (trees:List (Bool×Sem Value)),me Φ.meth (nm name)=some F->pi G s.heap->w6 G X->aS X s.heap ->
  ¬X a->qW G X s.heap a raw n nt cnt b sm->(F (.ws raw n nt cnt b sm::as)).1=true->trees.any (·.1)=false->trees.length<30->apos.endLine=pos.line ->
  ∀(E:Value->Shared->Prop) (Q:Value->Shared->Prop),
   wpAny (model G.p G.w) A (spliced trees) (λus s₁=>Keeps s s₁/\Reps G X s₁.heap as us/\∀u s',Keeps s₁ s'->am G X s'.heap (F (.ws raw n nt cnt b sm::as)).2 u->Q u s') E s ->
   wpAny (model G.p G.w) A (methodCall o name apos pos env (.ref a) trees.length trees []) Q E s
section
variable {G:Cfg} {A:Around} {env:Env} {X:Addr->Prop} {κ:List (Str×NameKind)} {ρ:Rho} {Φ:Fns}
noncomputable def Fb(G:Cfg)(A:Around)(env:Env)(X:Addr->Prop)(ρ:Rho)(t:Sem Value)(v:V):Prop:=
 ∀O s,cq G env X O ρ s.heap->∀(E:Value->Shared->Prop) (Q:Value->Shared->Prop),(∀u s',Keeps s s'->Seen G (ak env X O) s'.heap v u->Q u s')->wpAny (model G.p G.w) A t Q E s
theorem iN.seen{t:Sem Value}{v:V}(h:iN G A env X ρ t v):Fb G A env X ρ t v:=λO s S E Q q=>h O s S E Q λu s' k r=>q u s' k (Seen.of r)
theorem cq.full{O}{h:Heap}(S:cq G env X O ρ h):aS (ak env X O) h:=S.alive
theorem cq.off{O}{h:Heap}(S:cq G env X O ρ h):w6 G (ak env X O):=S.new
structure az(G:Cfg)(A:Around)(env:Env)(X:Addr->Prop)(ρ:Rho)(E:Expr->R):Prop where
 ok:∀e,(E e).1=true->iN G A env X ρ (eval e env) (E e).2
 noSet:∀es k p,(E (.Set es k p)).1=false
 noStar:∀e p,(E (.Starred e p)).1=false
theorem Em(Fa:aB G A Φ)(En:ao env κ){x:Str}{pos:Pos}(ok:(rd κ Φ ρ (nm x)).1=true):iN G A env X ρ (eval (.Name x pos) env) (rd κ Φ ρ (nm x)).2:=by
 intro O s S E Q q;unfold rd at ok q;cases c1:af (kd κ (nm x))with
 |true=>
  rw[c1]at ok q;simp only[cond_true]at ok q;have hx:af (env.kindOf x)=true:=(En.names x).trans c1;obtain⟨g,F,hg⟩:=S.look;have hs:=hg x hx;have pl:=En.plain x (by rw[hx];rfl);cases e:lk ρ (nm x)with
  |val v=>
   rw[e]at q hs;obtain⟨u,e1,r⟩:=hs;exact wpAny_Name (cM En.kind F hx pl.2 e1 (q u s (Kp.refl s) r)) pl.1
  |_=>rw[e]at ok;exact ad ok
 |false=>
  rw[c1]at ok q;simp only[cond_false]at ok q;cases c2:aO (kd κ (nm x))with
  |true=>
   rw[c2]at ok q;simp only[cond_true]at ok q;have hx:aO (env.kindOf x)=true:=(En.glob x).trans c2;have pl:=En.plain x (by rw[hx,Bool.or_true]);obtain⟨mg,mb,h1,h2,h3,_⟩:=Fa.names;cases e:me Φ.glob (nm x)with
   |none=>rw[e]at ok;exact ad ok
   |some v=>
    rw[e]at q;obtain⟨u,e1,r⟩:=h3 x v e;have hk:env.kindOf x=some .globalImplicit:=by
     cases k:env.kindOf x with
     |none=>rw[k]at hx;injections hx
     |some k'=>induction k' using NameKind.casesOn<;>first|rfl|(rw[k]at hx;injections hx)
    refine Name_function_global En.kind hk (loadGlobal_global (mg:=mg) ?_ e1 (q u s (Kp.refl s) (r _ _ S.old S.new))) pl.1;rw[En.globals];exact h1.keeps S.old
  |false=>rw[c2]at ok;injections ok
theorem sM{E:Expr->R}{e:Expr}(he:dg e=false):look κ ρ E e=E e:=by
 induction e using Expr.casesOn with
 |Name x p=>exact ad he.symm
 |_=>rfl
theorem A0{e:Expr}(he:dg e=true):∃x p,e = .Name x p:=by
 induction e using Expr.casesOn with
 |Name x p=>exact⟨x,p,rfl⟩
 |_=>exact ad he
theorem mj(Fa:aB G A Φ)(En:ao env κ){E:Expr->R}(GE:az G A env X ρ E){e:Expr}(ok:(look κ ρ E e).1=true):Fb G A env X ρ (eval e env) (look κ ρ E e).2:=by
 cases c:dg e with
 |false=>rw[sM c]at ok |-;exact(GE.ok _ ok).seen
 |true=>
  obtain⟨x,p,rfl⟩:=A0 c;have ok:(sE (af (kd κ (nm x))) (E (.Name x p)) (lk ρ (nm x))).1=true:=ok;show Fb G A env X ρ _ (sE (af (kd κ (nm x))) (E (.Name x p)) (lk ρ (nm x))).2;cases e:lk ρ (nm x)with
  |own l=>
   rw[e]at ok;intro O s S E' Q q;have hx:af (env.kindOf x)=true:=(En.names x).trans ok;have pl:=En.plain x (by rw[hx];rfl);obtain⟨g,F,hg⟩:=S.look;have hs:=hg x hx;rw[e]at hs;obtain⟨a,vs,e1,e2,⟨n,e3⟩,r⟩:=hs;refine wpAny_Name (cM En.kind F hx pl.2 e1 (q _ s (Kp.refl s) ?_)) pl.1;show ∃a' vs,_;exact⟨a,vs,rfl,⟨_,e3,rfl,_,rfl⟩,r⟩
  |_=>rw[e]at ok;exact(GE.ok _ ok).seen
theorem yV{c:Const}{k:Nat}{pos:Pos}(ok:(qU c).1=true):iN G A env X ρ (eval (.Constant c k pos) env) (qU c).2:=by
 intro O s S E Q q
 induction c using Const.casesOn with
 |none=>exact λΓ p hΓ=>q .none s (Kp.refl s) (am.none_iff.mpr rfl)
 |bool b=>exact λΓ p hΓ=>q (.bool b) s (Kp.refl s) (am.bool_iff.mpr rfl)
 |int i=>exact wpAny_Constant_int (q _ _ (Kp.toks s _) (am.int_iff.mpr ⟨_,rfl⟩))
 |str x=>exact Constant_str (q _ _ (Kp.toks s _) (am.str_iff.mpr ⟨_,by rw[Cc]⟩))
 |_=>injections ok
theorem yW(Fa:aB G A Φ)(En:ao env κ){E:Ev}(GE:az G A env X ρ (E κ ρ)){a b:Expr}{op:Operator}{pos:Pos}(ok:(pC E κ ρ a op b).1=true):
 iN G A env X ρ (eval (.BinOp a op b pos) env) (pC E κ ρ a op b).2:=by
 have key:∀x:R,(x.1=true->Fb G A env X ρ (eval a env) x.2)->((x.1&&(E κ ρ b).1&&(de op x.2 (E κ ρ b).2).1,(de op x.2 (E κ ρ b).2).2):R).1=true ->
  iN G A env X ρ (eval (.BinOp a op b pos) env) (de op x.2 (E κ ρ b).2).2:=by
  intro x hx ok;simp only[Bool.and_eq_true]at ok;obtain⟨⟨o1,o2⟩,o3⟩:=ok;intro O s S E' Q q;exact wpAny_BinOp (hx o1 O s S _ _ λu s1 k1 r1=>GE.ok b o2 O s1 (S.keeps (Kp.keep k1)) _ _ λv s2 k2 r2=>
   CR ((S.keeps (Kp.keep k1)).keeps (Kp.keep k2)).full o3 (r1.keeps (Kp.keep k2)) r2 _ _ λw s3 k3 r3=>q w s3 (Kp.trans k1 (Kp.trans k2 k3)) r3)
 unfold pC at ok |-
 induction op using Operator.casesOn with
 |Add=>exact key (look κ ρ (E κ ρ) a) (λh=>mj Fa En GE h) ok
 |_=>exact key (E κ ρ a) (λh=>(GE.ok a h).seen) ok
theorem A3{E:Expr->R}(GE:az G A env X ρ E){a:Expr}{op:UnaryOp}{pos:Pos}(ok:(AL E op a).1=true):iN G A env X ρ (eval (.UnaryOp op a pos) env) (AL E op a).2:=by
 unfold AL at ok |-;simp only[Bool.and_eq_true]at ok;intro O s S E' Q q;exact wpAny_UnaryOp (GE.ok a ok.1 O s S _ _ λu s1 k1 r1=>Ef ok.2 r1 _ _ λw s2 k2 r2=>q w s2 (Kp.trans k1 k2) r2)
theorem yX{E:Expr->R}(GE:az G A env X ρ E){e:Expr}(ok:(E e).1=true)(op:CmpOp):behindInMarks op e=false:=by
 induction e using Expr.casesOn with
 |Set es k p=>rw[GE.noSet]at ok;injections ok
 |_=>rfl
theorem gB{E:Expr->R}(GE:az G A env X ρ E){e:Expr}(ok:(E e).1=true)(rest:List Expr):starEach (e::rest) env=(false,eval e env)::starEach rest env:=by
 induction e using Expr.casesOn with
 |Starred e p=>rw[GE.noStar]at ok;injections ok
 |_=>rfl
theorem sN{E:Expr->R}{e:Expr}{es:List Expr}(ok:(dz E (e::es)).1=true):(E e).1=true/\(dz E es).1=true:=by
 exact aG ok
theorem cT{E:Expr->R}(GE:az G A env X ρ E)(pos:Pos):∀{es:List Expr},(dz E es).1=true->∀O s,cq G env X O ρ s.heap->∀(E':Value->Shared->Prop) (Q:List Value->Shared->Prop),
 (∀us s',Keeps s s'->Reps G (ak env X O) s'.heap (dz E es).2 us->Q us s')->wpAny (model G.p G.w) A (spliced (backTo pos (starEach es env))) Q E' s
 |[],_,O,s,S,E',Q,q=>spliced_nil (q [] s (Kp.refl s) Reps.nil)
 |e::es,ok,O,s,S,E',Q,q=>by
  obtain⟨o1,o2⟩:=sN ok;rw[gB GE o1];show wpAny _ A (spliced ((false,eval e env)::backTo pos (starEach es env))) Q E' s;exact spliced_cons (GE.ok e o1 O s S _ _ λu s1 k1 r1=>cT GE pos o2 O s1 (S.keeps (Kp.keep k1)) _ _ λus s2 k2 r2=>
   q (u::us) s2 (Kp.trans k1 k2) (Reps.cons (r1.on (On.of_keeps (Kp.keep k2))) r2))
theorem bU{E:Expr->R}(GE:az G A env X ρ E)(pos:Pos):∀{es:List Expr},(dz E es).1=true->(backTo pos (starEach es env)).any (·.1)=false/\(backTo pos (starEach es env)).length=es.length
 |[],_=>⟨rfl,rfl⟩
 |e::es,ok=>by
  obtain⟨o1,o2⟩:=sN ok;rw[gB GE o1];have ih:=bU GE pos o2;show(((false,eval e env)::backTo pos (starEach es env)).any (·.1))=false/\((false,eval e env)::backTo pos (starEach es env)).length=_;rw[List.any_cons,ih.1,List.length_cons,ih.2];exact⟨rfl,rfl⟩
theorem A4{E:Expr->R}(GE:az G A env X ρ E){es:List Expr}{pos:Pos}(ok:jj (dz E es)=true):iN G A env X ρ (eval (.List es pos) env) (.list (dz E es).2):=by
 unfold jj at ok;simp only[Bool.and_eq_true,decide_eq_true_eq]at ok;intro O s S E' Q q;refine wpAny_List_spliced (cT GE pos ok.1 O s S _ _ λus s1 k1 r1=>⟨by rw[<-r1.length];exact dD ok.2, ?_⟩);exact q _ _ (Kp.trans k1 (Kp.push s1 _ s1.toks)) (cu (S.keeps (Kp.keep k1)).full r1)
theorem CV{E:Expr->R}(GE:az G A env X ρ E){es:List Expr}{k:Nat}{pos:Pos}(ok:jj (dz E es)=true):iN G A env X ρ (eval (.Tuple es k pos) env) (.tup (dz E es).2):=by
 unfold jj at ok;simp only[Bool.and_eq_true,decide_eq_true_eq]at ok;intro O s S E' Q q;refine wpAny_Tuple_spliced (cT GE pos ok.1 O s S _ _ λus s1 k1 r1=>⟨by rw[<-r1.length];exact dD ok.2, ?_⟩);exact q _ _ (Kp.trans k1 (Kp.push s1 _ s1.toks)) (jO (S.keeps (Kp.keep k1)).full r1)
noncomputable def CW(G:Cfg)(A:Around)(env:Env)(X:Addr->Prop)(ρ:Rho)(t:Sem Bool)(b:Bool):Prop:=
 ∀O s,cq G env X O ρ s.heap->∀(E:Value->Shared->Prop) (Q:Bool->Shared->Prop),(∀s',Keeps s s'->Q b s')->wpAny (model G.p G.w) A t Q E s
structure i7(G:Cfg)(A:Around)(env:Env)(X:Addr->Prop)(ρ:Rho)(E:Expr->R):Prop where
 ok:∀e,(E e).1=true->(aa (E e).2).1=true->CW G A env X ρ (isTrue e env (eval e env)) (aa (E e).2).2
theorem A5{E:Expr->R}(GE:az G A env X ρ E)(GT:i7 G A env X ρ E){t a b:Expr}{pos:Pos}(ok:(pf E t a b).1=true):iN G A env X ρ (eval (.IfExp t a b pos) env) (pf E t a b).2:=by
 unfold pf at ok |-;simp only[Bool.and_eq_true]at ok;obtain⟨⟨o1,o2⟩,o3⟩:=ok;intro O s S E' Q q;refine wpAny_IfExp (GT.ok t o1 o2 O s S _ _ λs1 k1 => ?_);simp only[bD]at q;cases c:(aa (E t).2).2 with
 |true=>
  rw[c]at o3 q;simp only[cond_true]at o3 q;exact GE.ok a o3 O s1 (S.keeps (Kp.keep k1)) _ _ λu s2 k2 r2=>q u s2 (Kp.trans k1 k2) r2
 |false=>
  rw[c]at o3 q;simp only[cond_false]at o3 q;exact GE.ok b o3 O s1 (S.keeps (Kp.keep k1)) _ _ λu s2 k2 r2=>q u s2 (Kp.trans k1 k2) r2
theorem kH {v:V} {u:Value} {O} {s:Shared} (ok:(aa v).1=true) (r:am G (ak env X O) s.heap v u) {E:Value->Shared->Prop} {Q:Bool->Shared->Prop}
 (q:∀s',Keeps s s'->Q (aa v).2 s'):wpAny (model G.p G.w) A (truthy u) Q E s:=pK ok r E Q λtk=>q _ (Kp.toks s tk)
theorem yY{E:Expr->R}(GE:az G A env X ρ E)(pos:Pos):∀{es:List Expr},(fT E es).1=true->iN G A env X ρ (boolOp pos .And (evalEach es env)) (fT E es).2
 |[],ok=>by injections ok
 |[e],ok=>GE.ok e ok
 |e::f::es,ok=>by
  have ok':(E e).1=true/\(aa (E e).2).1=true/\(bif (aa (E e).2).2 then(fT E (f::es)).1 else true)=true:=by
   exact⟨(aG (aG ok).1).1,(aG (aG ok).1).2,(aG ok).2⟩
  obtain⟨o1,o2,o3⟩:=ok';have ev:(fT E (e::f::es)).2=dy (aa (E e).2).2 (fT E (f::es)).2 (E e).2:=rfl;rw[ev,bD];intro O s S E' Q q;show wpAny _ A (boolOp pos .And (eval e env::evalEach (f::es) env)) Q E' s;have un:boolOp pos .And (eval e env::evalEach (f::es) env)=(do
   let v <-eval e env
   standAt pos
   let t <-holding [v] (truthy v)
   match BoolOp.And,t with
   | .And,false| .Or,true=>pure v
   |_,_=>boolOp pos .And (evalEach (f::es) env)):=rfl
  rw[un];refine wpAny_bind (GE.ok e o1 O s S _ _ λu s1 k1 r1=>wpAny_bind (wpAny_standAt (wpAny_bind (wpAny_holding (kH o2 r1 λs2 k2 => ?_)))));cases c:(aa (E e).2).2 with
  |true=>
   rw[c]at o3 q;simp only[cond_true]at o3 q;exact yY GE pos o3 O s2 ((S.keeps (Kp.keep k1)).keeps (Kp.keep k2)) _ _ λw s3 k3 r3=>q w s3 (Kp.trans k1 (Kp.trans k2 k3)) r3
  |false=>
   rw[c]at q;simp only[cond_false]at q;exact wpAny_pure (q u s2 (Kp.trans k1 k2) (r1.on (On.of_keeps (Kp.keep k2))))
theorem Ce{E:Expr->R}(GE:az G A env X ρ E)(pos:Pos):∀{es:List Expr},(pe E es).1=true->iN G A env X ρ (boolOp pos .Or (evalEach es env)) (pe E es).2
 |[],ok=>by injections ok
 |[e],ok=>GE.ok e ok
 |e::f::es,ok=>by
  have ok':(E e).1=true/\(aa (E e).2).1=true/\(bif (aa (E e).2).2 then true else(pe E (f::es)).1)=true:=by
   exact⟨(aG (aG ok).1).1,(aG (aG ok).1).2,(aG ok).2⟩
  obtain⟨o1,o2,o3⟩:=ok';have ev:(pe E (e::f::es)).2=dy (aa (E e).2).2 (E e).2 (pe E (f::es)).2:=rfl;rw[ev,bD];intro O s S E' Q q;have un:boolOp pos .Or (evalEach (e::f::es) env)=(do
   let v <-eval e env
   standAt pos
   let t <-holding [v] (truthy v)
   match BoolOp.Or,t with
   | .And,false| .Or,true=>pure v
   |_,_=>boolOp pos .Or (evalEach (f::es) env)):=rfl
  rw[un];refine wpAny_bind (GE.ok e o1 O s S _ _ λu s1 k1 r1=>wpAny_bind (wpAny_standAt (wpAny_bind (wpAny_holding (kH o2 r1 λs2 k2 => ?_)))));cases c:(aa (E e).2).2 with
  |false=>
   rw[c]at o3 q;simp only[cond_false]at o3 q;exact Ce GE pos o3 O s2 ((S.keeps (Kp.keep k1)).keeps (Kp.keep k2)) _ _ λw s3 k3 r3=>q w s3 (Kp.trans k1 (Kp.trans k2 k3)) r3
  |true=>
   rw[c]at q;simp only[cond_true]at q;exact wpAny_pure (q u s2 (Kp.trans k1 k2) (r1.on (On.of_keeps (Kp.keep k2))))
theorem wl{E:Expr->R}(GT:i7 G A env X ρ E):∀{es:List Expr},(fT E es).1=true->(aa (fT E es).2).1=true->CW G A env X ρ (allTrue .And es env) (aa (fT E es).2).2
 |[],ok,_=>by injections ok
 |[e],ok,tr=>λO s S E' Q q=>by
  rw[arm_allTrue_cons];refine wpAny_bind (GT.ok e ok tr O s S _ _ λs1 k1 => ?_);have:=q s1 k1
  change Q (aa (E e).2).2 s1 at this
  cases c:(aa (E e).2).2 with
  |true=>rw[c]at this;exact wpAny_pure this
  |false=>rw[c]at this;exact wpAny_pure this
 |e::f::es,ok,tr=>by
  have ok':(E e).1=true/\(aa (E e).2).1=true/\(bif (aa (E e).2).2 then(fT E (f::es)).1 else true)=true:=by
   exact⟨(aG (aG ok).1).1,(aG (aG ok).1).2,(aG ok).2⟩
  obtain⟨o1,o2,o3⟩:=ok';have ev:(fT E (e::f::es)).2=dy (aa (E e).2).2 (fT E (f::es)).2 (E e).2:=rfl;rw[ev,bD]at tr |-;intro O s S E' Q q;rw[arm_allTrue_cons];refine wpAny_bind (GT.ok e o1 o2 O s S _ _ λs1 k1 => ?_);cases c:(aa (E e).2).2 with
  |true=>
   rw[c]at o3 q tr;simp only[cond_true]at o3 q tr;exact wl GT o3 tr O s1 (S.keeps (Kp.keep k1)) _ _ λs2 k2=>q s2 (Kp.trans k1 k2)
  |false=>
   rw[c]at q;simp only[cond_false]at q;have:=q s1 k1;rw[c]at this;exact wpAny_pure this
theorem yZ{E:Expr->R}(GT:i7 G A env X ρ E):∀{es:List Expr},(pe E es).1=true->(aa (pe E es).2).1=true->CW G A env X ρ (allTrue .Or es env) (aa (pe E es).2).2
 |[],ok,_=>by injections ok
 |[e],ok,tr=>λO s S E' Q q=>by
  rw[arm_allTrue_cons];refine wpAny_bind (GT.ok e ok tr O s S _ _ λs1 k1 => ?_);have:=q s1 k1
  change Q (aa (E e).2).2 s1 at this
  cases c:(aa (E e).2).2 with
  |true=>rw[c]at this;exact wpAny_pure this
  |false=>rw[c]at this;exact wpAny_pure this
 |e::f::es,ok,tr=>by
  have ok':(E e).1=true/\(aa (E e).2).1=true/\(bif (aa (E e).2).2 then true else(pe E (f::es)).1)=true:=by
   exact⟨(aG (aG ok).1).1,(aG (aG ok).1).2,(aG ok).2⟩
  obtain⟨o1,o2,o3⟩:=ok';have ev:(pe E (e::f::es)).2=dy (aa (E e).2).2 (E e).2 (pe E (f::es)).2:=rfl;rw[ev,bD]at tr |-;intro O s S E' Q q;rw[arm_allTrue_cons];refine wpAny_bind (GT.ok e o1 o2 O s S _ _ λs1 k1 => ?_);cases c:(aa (E e).2).2 with
  |false=>
   rw[c]at o3 q tr;simp only[cond_false]at o3 q tr;exact yZ GT o3 tr O s1 (S.keeps (Kp.keep k1)) _ _ λs2 k2=>q s2 (Kp.trans k1 k2)
  |true=>
   rw[c]at q;simp only[cond_true]at q;have:=q s1 k1;rw[c]at this;exact wpAny_pure this
end
end
section
open PySem PySem.W PySem.Calls PyProof.Rows
open PySem.Builtin PySem.Builtin.Str
section
variable {G:Cfg} {A:Around} {env:Env} {X:Addr->Prop} {κ:List (Str×NameKind)} {ρ:Rho} {Φ:Fns} {s:Shared}
theorem wm{h:Heap}:∀{l:List V} {vs:List Value},l.all Ax=true->Reps G X h l vs->StrsAre vs ((l.map lV).map tx)
 |[],vs,_,r=>by rw[Reps.nil_iff.mp r];exact .nil
 |x::l,vs,a,r=>by
  obtain⟨v,r',rfl,h1,h2⟩:=Reps.cons_iff.mp r;rw[List.all_cons,Bool.and_eq_true]at a;rw[<-uN a.1]at h1;obtain⟨t,rfl⟩:=am.str_iff.mp h1;exact .cons _ t (wm a.2 h2)
theorem pS{h:Heap}:∀{ys:List Str} {n:Nat},Reps G X h ((ys.map λx=>x.cps.toList).map .str) (strsFrom n ys)
 |[],n=>Reps.nil
 |y::ys,n=>Reps.cons (am.str_iff.mpr ⟨n,by cases y;simp[tx]⟩) pS
theorem ni(sep:List Nat):∀(l:List (List Nat)) (acc:List Nat),(l.map tx).foldl (λ(a:Array Nat) (p:Str)=>a++(tx sep).cps++p.cps) acc.toArray=(acc++l.flatMap λx=>sep++x).toArray
 |[],acc=>by simp
 |x::l,acc=>by
  rw[List.map_cons,List.foldl_cons];have e:acc.toArray++(tx sep).cps++(tx x).cps=(acc++sep++x).toArray:=by simp[tx]
  rw[e,ni sep l];simp
theorem jm(sep x:List Nat):∀l:List (List Nat),fc sep (x::l)=x++l.flatMap λy=>sep++y
 |[]=>(List.append_nil x).symm
 |y::l=>by rw[AI,jm sep y l];simp
theorem A6(sep:List Nat)(l:List (List Nat)):Txt.join (tx sep) (l.map tx)=tx (fc sep l):=by
 unfold Txt.join glued
 induction l using List.casesOn with
 |nil=>rfl
 |cons x l=>
  rw[jm];simp only[List.map_cons,List.drop_succ_cons,List.drop_zero,List.headD_cons];have:=ni sep l x;have e:(tx x).cps=x.toArray:=rfl;rw[e,this];rfl
theorem w7(l:List (List Nat)):((l.map tx).map (·.length)).sum=(l.map List.length).sum:=by
 congr 1
 rw[List.map_map];apply List.map_congr_left;intro x _;exact aL x
theorem w8(x:Str)(cuts:List Nat)(w:Nat):(partsBetween x cuts w).length=cuts.length+1:=by
 unfold partsBetween;simp
theorem w9(x:Str):tx x.cps.toList=x:=by cases x;simp[tx]
theorem A7{n:Nat}(h:n<=3*cap):tooLong n=false:=by
 unfold tooLong sizeLine;unfold cap at h;exact decide_eq_false ⋯
theorem uS(x:Str)(f:Nat->Nat->List Nat)(h:∀i c,(f i c).length<=3):(placed x f).size<=3*x.length:=by
 unfold placed;refine Nat.le_trans (StrLaws.flatten_le3 _ λa ha => ?_) (by simp[Str.length]);obtain⟨i,hi,e⟩:=Array.getElem_of_mem ha;rw[<-e,Array.getElem_mapIdx]
 simpa using h _ _
theorem A8{x:List Nat}{t:Tok}(h:x.length<=cap):aw G A X (call (.builtin "str.lower") [.str (tx x) t]) (.str (bW x)) s:=
 fh λE Q q=>SC.lower (by
  have:=uS (tx x) (λi _=>Unicode.lowerAt (tx x).cps i) λi _=>StrLaws.lowerAt_le3 _ _
  rw[aL]at this;exact A7 (n:=(Txt.lower (tx x)).length) (by show(placed (tx x) _).size<=_;omega)) (by
   have e:tx (bW x)=Txt.lower (tx x):=w9 _;rw[<-e];exact q _ _)
theorem y1{x:List Nat}{t:Tok}{l:List V}{u:Value}(h1:l.all Ax=true)(h2:((l.map lV).map List.length).sum+l.length*x.length<=cap)(r:am G X s.heap (.list l) u):
 aw G A X (call (.builtin "str.join") [.str (tx x) t,u]) (.str (fc x (l.map lV))) s:=by
 obtain⟨a,vs,rfl,n,hl,rr⟩:=am.list_iff.mp r;refine fh λE Q q=>join_list hl (wm h1 rr) ?_ λt' k => ?_
 ·rw[w7,List.length_map,List.length_map,aL];unfold cap at h2;omega
 ·rw[A6];exact q _ _
theorem A9{x y:List Nat}{t u:Tok}(al:aS X s.heap)(h1:x.length<=cap)(h2:y.isEmpty=false):
 aw G A X (call (.builtin "str.split") [.str (tx x) t, .str (tx y) u]) (.list ((dS x y).map .str)) s:=by
 intro E Q q;have hy:((tx y).length==0)=false:=by
  rw[aL];induction y using List.casesOn with
  |nil=>injections h2
  |cons c y=>rfl
 have one:∀{Q:Value->Shared->Prop},dS x y=[x]->(∀u s',Keeps s s'->am G X s'.heap (.list ((dS x y).map .str)) u->Q u s') ->
  Q (.ref s.heap.objs.size) { s with heap:=s.heap.push { cls := .type "list",data := .seq #[.str (tx x) t] } }:=λ{Q} e q=>
  q _ _ (Kp.push s _ s.toks) (by rw[e];exact cu al (Reps.cons (am.str_iff.mpr ⟨t,rfl⟩) Reps.nil))
 have single:Txt.split (tx x) (tx y)=[tx x]->dS x y=[x]:=λe=>by unfold dS;rw[e];simp[tx]
 have hx:(tx x).length<=sizeLine:=by rw[aL];exact dD h1
 cases h1:(decide ((tx x).length<(tx y).length)||decide (Builtin.Str.strKind (tx x)<Builtin.Str.strKind (tx y)))
 ·cases hf:(occurrences (tx x) (tx y) 0 (tx x).length ((tx x).length+1)).isEmpty
  ·have hn:(partsBetween (tx x) (occurrences (tx x) (tx y) 0 (tx x).length ((tx x).length+1)) (tx y).length).length<=sizeLine:=by
    rw[w8];have:=StrLaws.occ_length_le (tx x) (tx y) 0 (tx x).length ((tx x).length+1);rename_i h1';rw[aL]at this |-;unfold cap at h1';rw[sizeLine_eq];omega
   refine call_meets F.slot_str_split (typeIs_str _ _ _) F.entry_str_split (F.args_str_split_2 _ _) (meets_str_split_sep (tx x) (tx y) t u h1 hy hf hx hn) ?_;refine q _ _ (Kp.push s _ _) ?_;have e:dS x y=(partsBetween (tx x) (occurrences (tx x) (tx y) 0 (tx x).length ((tx x).length+1)) (tx y).length).map λx=>x.cps.toList:=by
    unfold dS Txt.split;rw[h1,hf];rfl
   rw[e];exact cu al pS
  ·exact call_meets F.slot_str_split (typeIs_str _ _ _) F.entry_str_split (F.args_str_split_2 _ _) (meets_str_split_not_found (tx x) (tx y) t u h1 hy hf)
    (one (single ((if_neg (ne_true_of_eq_false h1)).trans (if_pos hf))) q)
 ·exact call_meets F.slot_str_split (typeIs_str _ _ _) F.entry_str_split (F.args_str_split_2 _ _) (meets_str_split_cannot_occur (tx x) (tx y) t u h1)
   (one (single (if_pos h1)) q)
noncomputable def Eo(G:Cfg)(A:Around)(x:Str×(List Nat->List V->R)):Prop:=
 ∃id,PySem.Slot "str" x.1 id/\typeOf (.builtin id)=pure (.type "method_descriptor")/\∀(X:Addr->Prop) (s:Shared) (y:List Nat) (t:Tok) (as:List V) (us:List Value),(x.2 y as).1=true->aS X s.heap->Reps G X s.heap as us ->
    aw G A X (call (.builtin id) (.str (tx y) t::us)) (x.2 y as).2 s
theorem Ba:∀x∈Ea,Eo G A x:=
 List.forall_mem_cons.mpr ⟨⟨_,F.slot_str_join,F.type_str_join,λX s y t as us ok al r=>d6 (c:=λus=>call (.builtin "str.join") (.str (tx y) t::us)) r ok λx u h ok=>kF (c:=λu=>call (.builtin "str.join") [.str (tx y) t,u]) h ok λl h ok=>
  have ok:=aG ok
  y1 (aG ok.1).1 (of_decide_eq_true ok.2) h⟩,
 List.forall_mem_cons.mpr ⟨⟨_,F.slot_str_lower,F.type_str_lower,λX s y t as us ok al r=>by
  have ok:=aG (show(as.isEmpty&&decide (y.length<=cap))=true from ok)
  induction as using List.casesOn with
  |nil=>rw[Reps.nil_iff.mp r];exact A8 (of_decide_eq_true ok.2)
  |cons _ _=>exact ad ok.1⟩,
 List.forall_mem_cons.mpr ⟨⟨_,F.slot_str_split,F.type_str_split,λX s y t as us ok al r=>d6 (c:=λus=>call (.builtin "str.split") (.str (tx y) t::us)) r ok λx u h ok=>m0 (c:=λu=>call (.builtin "str.split") [.str (tx y) t,u]) h ok λx t' ok=>
  have ok:=aG ok
  A9 al (of_decide_eq_true ok.1) ((Bool.not_eq_true' _).mp ok.2)⟩,
 List.forall_mem_cons.mpr ⟨⟨_,F.slot_str_count,F.type_str_count,λX s y t as us ok al r=>d6 (c:=λus=>call (.builtin "str.count") (.str (tx y) t::us)) r ok λx u h ok=>m0 (c:=λu=>call (.builtin "str.count") [.str (tx y) t,u]) h ok λx t' ok=>
  a9 λE Q q=>SC.count (q _ _)⟩,
 λ_ h=>nomatch h⟩⟩⟩⟩
theorem Bb{m:Str}{x:List Nat}{as:List V}(ok:(wV (nm m) x as).1=true):
 ∃id,PySem.Slot "str" m id/\typeOf (.builtin id)=pure (.type "method_descriptor")/\∀(X:Addr->Prop) (s:Shared) (t:Tok) (us:List Value),aS X s.heap->Reps G X s.heap as us ->
  aw G A X (call (.builtin id) (.str (tx x) t::us)) (wV (nm m) x as).2 s:=by
 obtain⟨F,e,o⟩:=yU ok;obtain⟨f,e1,e2⟩:=Option.map_eq_some_iff.mp e;obtain⟨id,h1,h2,hy⟩:=Ba (G:=G) (A:=A) _ (q8 e1);refine⟨id,h1,h2,λX s t us al r => ?_⟩;unfold wV;rw[e1];subst e2;exact hy X s x t as us o al r
end
end
section
open PySem PySem.W PySem.Calls PyProof.Rows
section
variable {G:Cfg} {A:Around} {env:Env} {X:Addr->Prop} {κ:List (Str×NameKind)} {ρ:Rho} {Φ:Fns}
theorem Bc(Fa:aB G A Φ){E:Expr->R}(GE:az G A env X ρ E){a b:Expr}{op:CmpOp}{pos:Pos}(ok:(gy E a op b).1=true):
 iN G A env X ρ (eval (.Compare a [op] [b] pos) env) (gy E a op b).2:=by
 unfold gy at ok |-;simp only[Bool.and_eq_true]at ok;obtain⟨⟨o1,o2⟩,o3⟩:=ok;intro O s S E' Q q;refine wpAny_Compare1 (GE.ok a o1 O s S _ _ λu s1 k1 r1=>GE.ok b o2 O s1 (S.keeps (Kp.keep k1)) _ _ λv s2 k2 r2 => ?_) (yX GE o2 op);exact yK Fa.units o3 (r1.on (On.of_keeps (Kp.keep k2))) r2 _ _ (q _ s2 (Kp.trans k1 k2) (am.bool_iff.mpr rfl))
theorem uT{E:Expr->R}(GE:az G A env X ρ E){b:Expr}(o:(E b).1=true)(op:CmpOp):markedEach [op] [b] (evalEach [b] env)=[eval b env]:=by
 show[markedBehindIn op b (eval b env)]=_;rw[markedBehindIn_of_false (yX GE o op)]
theorem xa(Fa:aB G A Φ){E:Expr->R}(GE:az G A env X ρ E){a b:Expr}{op:CmpOp}{pos:Pos}{m:Sem Value}(ok:(gy E a op b).1=true):
 CW G A env X ρ (isTrue (.Compare a [op] [b] pos) env m) (aa (gy E a op b).2).2:=by
 unfold gy at ok |-;simp only[Bool.and_eq_true]at ok;obtain⟨⟨o1,o2⟩,o3⟩:=ok;intro O s S E' Q q;rw[arm_isTrue_Compare,uT GE o2];refine wpAny_bind (GE.ok a o1 O s S _ _ λu s1 k1 r1 => ?_);show wpAny _ A (do
  let rv <-holding [u] (eval b env)
  standAt pos
  let c <-operate [u,rv] (compareOp op u rv)
  holding [c] (truthy c)) Q E' s1
 refine wpAny_bind (wpAny_holding (GE.ok b o2 O s1 (S.keeps (Kp.keep k1)) _ _ λv s2 k2 r2=>wpAny_bind (wpAny_standAt (wpAny_bind (wpAny_operating ?_)))));exact yK Fa.units o3 (r1.on (On.of_keeps (Kp.keep k2))) r2 _ _ (wpAny_holding (wpAny_truthy_bool (q s2 (Kp.trans k1 k2))))
theorem q9{E:Expr->R}(GE:az G A env X ρ E){e:Option Expr}(ok:(gR E e).1=true):iN G A env X ρ (evalPart e env) (gR E e).2:=by
 induction e using Option.casesOn with
 |none=>intro O s S E' Q q;exact wpAny_pure (q _ s (Kp.refl s) (am.none_iff.mpr rfl))
 |some e=>exact GE.ok e ok
theorem y2{E:Expr->R}(GE:az G A env X ρ E){o:Expr}{lo hi st:Option Expr}{p pos:Pos}(ok:(mf E o lo hi st).1=true):
 iN G A env X ρ (eval (.Subscript o (.Slice lo hi st p) pos) env) (mf E o lo hi st).2:=by
 unfold mf at ok |-;simp only[Bool.and_eq_true]at ok;obtain⟨⟨⟨⟨o1,o2⟩,o3⟩,o4⟩,o5⟩:=ok;intro O s S E' Q q;refine wh (GE.ok o o1 O s S _ _ λu s1 k1 r1=>wpAny_Slice ?_);have S1:=S.keeps (Kp.keep k1);refine q9 GE o2 O s1 S1 _ _ λva s2 k2 r2 => ?_
 have S2:=S1.keeps (Kp.keep k2);refine q9 GE o3 O s2 S2 _ _ λvb s3 k3 r3 => ?_
 have S3:=S2.keeps (Kp.keep k3);refine q9 GE o4 O s3 S3 _ _ λvc s4 k4 r4 => ?_
 have S4:=S3.keeps (Kp.keep k4);have up:=eV s4.heap { cls := .type "slice",data := .fields #[va,vb,vc] };refine yR (s:={ s4 with heap:=s4.heap.push { cls := .type "slice",data := .fields #[va,vb,vc] } }) (S4.keeps up).full o5 (Heap.IsSliceOf.new _ _ _ _)
  (r1.on (On.of_keeps λb o e=>up b o (Kp.keep k4 b o (Kp.keep k3 b o (Kp.keep k2 b o e))))) (r2.on (On.of_keeps λb o e=>up b o (Kp.keep k4 b o (Kp.keep k3 b o e))))
  (r3.on (On.of_keeps λb o e=>up b o (Kp.keep k4 b o e))) (r4.on (On.of_keeps up)) _ _ λw s5 k5 r5 => ?_
 exact q w s5 (Kp.trans k1 (Kp.trans k2 (Kp.trans k3 (Kp.trans k4 (Kp.trans (Kp.push s4 _ s4.toks) k5))))) r5
theorem Bd(Fa:aB G A Φ)(En:ao env κ){E:Ev}{τ:Tau}(GE:az G A env X ρ (E κ ρ)){o i:Expr}{pos:Pos}(ok:(mQ E τ κ ρ o i).1=true):
 iN G A env X ρ (eval (.Subscript o i pos) env) (mQ E τ κ ρ o i).2:=by
 have o4:=aG ok;have o1:=aG o4.1;intro O s S E' Q q;exact wh (mj Fa En GE o1.1 O s S _ _ λu s1 k1 r1=>GE.ok i o1.2 O s1 (S.keeps (Kp.keep k1)) _ _ λv s2 k2 r2=>
  CS o4.2 (r1.keeps (Kp.keep k2)) r2 _ _ λw s3 k3 r3=>q w s3 (Kp.trans k1 (Kp.trans k2 k3)) r3)
theorem iO{o:Expr}{a:Str}{m:Sem Value}(h:ff o=true):attributeBase o a env m=m:=by
 induction o using Expr.casesOn with
 |Call f as kw p=>exact ad h
 |_=>rfl
theorem y3(Fa:aB G A Φ){E:Expr->R}(GE:az G A env X ρ E){o:Expr}{a:Str}{pos:Pos}(ok:(iM E o (nm a)).1=true):
 iN G A env X ρ (eval (.Attribute o a pos) env) (iM E o (nm a)).2:=by
 unfold iM at ok |-;simp only[Bool.and_eq_true]at ok;obtain⟨⟨o1,o2⟩,o3⟩:=ok;intro O s S E' Q q;rw[arm_eval_Attribute,iO o3];refine wpAny_bind (GE.ok o o1 O s S _ _ λu s1 k1 r1=>wpAny_bind (wpAny_standAt (wpAny_bind (wpAny_holding ?_))));dsimp only at q;have e:yF (nm a) (E o).2=(true,(yF (nm a) (E o).2).2):=by rw[<-o2]
 exact Fa.attr _ s1 _ u a _ (S.keeps (Kp.keep k1)).old r1 e _ _ λw s2 k2 r2=>
  wpAny_bind (wpAny_letTemporaryGo (wpAny_pure (q w s2 (Kp.trans k1 k2) r2)))
theorem bZ {M:Model} {A:Around} {E:Value->Shared->Prop} {s:Shared} {f:Value} {trees:List (Bool×Sem Value)} {Q:Args->Shared->Prop} (hp:trees.any (·.1)=false)
 (h:wpAny M A (spliced trees) (λvs s'=>Q ⟨vs,[]⟩ s') E s):wpAny M A (evalArgs f true trees []) Q E s:=by
 induction trees using List.casesOn with
 |nil=>
  unfold evalArgs;show wpAny M A (spliced []>>=_) Q E s;refine wpAny_bind (wpAny_mono h (λvs s' h' => ?_) λ_ _ x=>x);refine wpAny_holding ?_;exact wpAny_bind (wpAny_pure (wpAny_bind (wpAny_pure (wpAny_pure h'))))
 |cons x r=>
  obtain⟨b,x⟩:=x
  induction b using Bool.casesOn with
  |true=>simp at hp
  |false=>
   unfold evalArgs;show wpAny M A (spliced ((false,x)::r)>>=_) Q E s;refine wpAny_bind (wpAny_mono h (λvs s' h' => ?_) λ_ _ x=>x);refine wpAny_holding ?_;exact wpAny_bind (wpAny_pure (wpAny_bind (wpAny_pure (wpAny_pure h'))))
theorem kI{k:Option NameKind}(h:aO k=true):k=some .globalImplicit:=by
 induction k using Option.casesOn with
 |none=>injections h
 |some k=>induction k using NameKind.casesOn<;>first|rfl|injections h
theorem cf (Fa:aB G A Φ) (En:ao env κ) {f:Str} {v:Value} {pos:Pos} (hg:aO (kd κ (nm f))=true) (hb:bootBuiltins f=some v) (hn:CT f) {O} {s:Shared} (S:cq G env X O ρ s.heap)
 {E':Value->Shared->Prop} {Q:Value->Shared->Prop} (q:Q v s):wpAny (model G.p G.w) A (eval (.Name f pos) env) Q E' s:=by
 have hx:aO (env.kindOf f)=true:=(En.glob f).trans hg;have pl:=En.plain f (by rw[hx,Bool.or_true]);obtain⟨mg,mb,h1,h2,_,_,h5⟩:=Fa.names;obtain⟨e1,e2⟩:=h5 f v hn hb;refine Name_function_global En.kind (kI hx) (loadGlobal_builtin (mg:=mg) (mb:=mb) ?_ e1 ?_ e2 q) pl.1
 ·rw[En.globals];exact h1.keeps S.old
 ·rw[En.builtins];exact h2.keeps S.old
theorem bx {M:Model} {A:Around} {E:Value->Shared->Prop} {s:Shared} {pos:Pos} {v:Value} {trees:List (Bool×Sem Value)} {Q:Value->Shared->Prop} (hp:wj v) (h1:trees.any (·.1)=false)
 (h:wpAny M A (spliced trees) (λvs s'=>wpAny M A (call v vs) Q E s') E s):wpAny M A (callWith pos v [] trees []) Q E s:=by
 rcases hp with⟨id,rfl⟩|⟨id,rfl⟩
 ·exact Calls.callWith_builtin h1 (bZ h1 h)
 ·exact PySem.callWith_type h1 (bZ h1 h)
theorem y4(Fa:aB G A Φ)(En:ao env κ){E:Expr->R}(GE:az G A env X ρ E){f:Str}{as:List Expr}{p pos:Pos}(ok:(fF Φ E κ (nm f) as).1=true):
 iN G A env X ρ (eval (.Call (.Name f p) as [] pos) env) (fF Φ E κ (nm f) as).2:=by
 unfold fF at ok |-;simp only[Bool.and_eq_true]at ok;obtain⟨⟨o1,o2⟩,o3⟩:=ok;intro O s S E' Q q;have pt:=bU GE pos o2;refine Call_Name rfl ?_;unfold mR at o3 q;cases hl:me Φ.fn (nm f)with
 |some F=>
  rw[hl]at o3 q;obtain⟨mg,mb,h1,h2,_,h4,_⟩:=Fa.names;obtain⟨a,e1,hd,hc⟩:=h4 f F hl;have hx:aO (env.kindOf f)=true:=(En.glob f).trans o1;have pl:=En.plain f (by rw[hx,Bool.or_true]);refine Name_function_global En.kind (kI hx) (loadGlobal_global (mg:=mg) (by rw[En.globals];exact h1.keeps S.old) e1 ?_) pl.1;refine hd pos _ s _ _ pt.1 (bZ pt.1 (cT GE pos o2 O s S _ _ λus s1 k1 r1 => ?_));have S1:=S.keeps (Kp.keep k1);exact⟨S1.old,hc _ s1 _ us S1.old S1.off S1.full r1 o3 _ _ λw s2 k2 r2=>q w s2 (Kp.trans k1 k2) r2⟩
 |none=>
  rw[hl]at o3 q;have key:CT f/\∃v,wj v/\bootBuiltins f=some v/\∀O s us,cq G env X O ρ s.heap->Reps G (ak env X O) s.heap (dz E as).2 us->aw G A (ak env X O) (call v us) (dA (nm f) (dz E as).2).2 s:=by
   obtain⟨hn,v,hp,hb,hy⟩:=El (G:=G) Fa.none o3;exact⟨hn,v,hp,hb,λO s us S r=>hy _ s us S.full r⟩
  obtain⟨hn,v,hp,hb,hy⟩:=key;refine cf Fa En o1 hb hn S (bx hp pt.1 (cT GE pos o2 O s S _ _ λus s1 k1 r1 => ?_));exact hy O s1 us (S.keeps (Kp.keep k1)) r1 _ _ λw s2 k2 r2=>q w s2 (Kp.trans k1 k2) r2
theorem xc{E:Ev}(GE:az G A env X ρ (E κ ρ)){a:Expr}(o:(look κ ρ (E κ ρ) a).1=true):starEach [a] env=[(false,eval a env)]:=by
 induction a using Expr.casesOn with
 |Starred e p=>exact ad ((GE.noStar e p).symm.trans o)
 |_=>rfl
theorem CX(Fa:aB G A Φ)(En:ao env κ){E:Ev}(GE:az G A env X ρ (E κ ρ)){a:Expr}{p pos:Pos}(ok:(pD E κ ρ (nm "len") a).1=true):
 iN G A env X ρ (eval (.Call (.Name "len" p) [a] [] pos) env) (pD E κ ρ (nm "len") a).2:=by
 unfold pD at ok |-;simp only[Bool.and_eq_true]at ok;obtain⟨⟨o1,o2⟩,o3⟩:=ok;intro O s S E' Q q;dsimp only at q;have hst:=xc GE o2;have ht:backTo pos (starEach [a] env)=[(false,eval a env)]:=by rw[hst];rfl
 refine Call_Name ht (cf Fa En o1 boot_len nofun S (bx (.inl ⟨_,rfl⟩) rfl (spliced_cons (mj Fa En GE o2 O s S _ _ λu s1 k1 r1=>spliced_nil ?_))));exact sL o3 r1 _ _ λw s2 k2 r2=>q w s2 (Kp.trans k1 k2) r2
theorem uU{m:Nm}{v:V}{ys:List V}(ok:(fg Φ m v ys).1=true):(∃x,v = .str x)\/∃raw n nt cnt b sm F,v = .ws raw n nt cnt b sm/\me Φ.meth m=some F:=by
 induction v using V.casesOn with
 |str x=>exact .inl ⟨x,rfl⟩
 |ws raw n nt cnt b sm=>
  unfold fg at ok;generalize h:me Φ.meth m=o at ok
  induction o using Option.casesOn with
  |none=>exact ad ok
  |some F=>exact .inr ⟨raw,n,nt,cnt,b,sm,F,rfl,rfl⟩
 |_=>exact ad ok
theorem xd{ts:List (Bool×Sem Value)}(h:ts.any (·.1)=false):ts.all (λx => !x.1)=true:=by
 rw[List.any_eq_false]at h;exact List.all_eq_true.mpr λx hx=>(Bool.not_eq_true' _).mpr ((Bool.not_eq_true _).mp (h x hx))
theorem y5{E:Expr->R}(GE:az G A env X ρ E){o:Expr}{m:Str}{as:List Expr}{apos pos:Pos}{x:List Nat}(hp:apos.endLine=pos.line)(hl:as.length<30)(o1:(E o).1=true)(o2:(dz E as).1=true)(o4:ff o=true)(hv:(E o).2 = .str x)(ok:(wV (nm m) x (dz E as).2).1=true):
 iN G A env X ρ (eval (.Call (.Attribute o m apos) as [] pos) env) (wV (nm m) x (dz E as).2).2:=by
 intro O s S E' Q q;have pt:=bU GE pos o2;refine wpAny_Call_method_lateS (iO o4) ?_ (by rw[hp];exact beq_self_eq_true _) (GE.ok o o1 O s S _ _ λu s1 k1 r1 => ?_)
 ·rw[xd pt.1]
  show(true&&decide (as.length+0+0<30))=true;rw[Bool.true_and,decide_eq_true_eq];exact hl
 ·rw[hv]at r1
  obtain⟨t,rfl⟩:=am.str_iff.mp r1;have S1:=S.keeps (Kp.keep k1);obtain⟨id,slot,ty,hy⟩:=Bb (G:=G) (A:=A) ok;refine⟨"str",id,F.plainAttrs_str,slot,ty,typeIs_str _ _ _,(λ_ e=>nomatch e),Calls.callWith_builtin pt.1 (bZ pt.1 (cT GE pos o2 O s1 S1 _ _ λus s2 k2 r2 => ?_))⟩;exact hy _ s2 t us (S1.keeps (Kp.keep k2)).full r2 _ _ λw s3 k3 r3=>q w s3 (Kp.trans k1 (Kp.trans k2 k3)) r3
theorem y6 (Fa:aB G A Φ) {E:Expr->R} (GE:az G A env X ρ E) {o:Expr} {m:Str} {as:List Expr} {apos pos:Pos} {raw n nt cnt b sm F} (hp:apos.endLine=pos.line) (hl:as.length<30) (o1:(E o).1=true) (o2:(dz E as).1=true) (o4:ff o=true)
 (hv:(E o).2 = .ws raw n nt cnt b sm) (hf:me Φ.meth (nm m)=some F) (ok:(F (.ws raw n nt cnt b sm::(dz E as).2)).1=true):iN G A env X ρ (eval (.Call (.Attribute o m apos) as [] pos) env) (F (.ws raw n nt cnt b sm::(dz E as).2)).2:=by
 intro O s S E' Q q;have pt:=bU GE pos o2;rw[arm_eval_Call,iO o4];refine wpAny_bind (GE.ok o o1 O s S _ _ λu s1 k1 r1=>wpAny_bind (wpAny_standAt ?_));rw[hv]at r1;obtain⟨c,rfl,nx,W⟩:=am.ws_iff.mp r1;have S1:=S.keeps (Kp.keep k1);have:=Fa.meth _ s1 raw n nt cnt b sm c m F (dz E as).2 o apos pos env (backTo pos (starEach as env)) hf S1.old S1.off S1.full nx W ok pt.1 (by rw[pt.2];exact hl) hp E' Q
  (cT GE pos o2 O s1 S1 _ _ λus s2 k2 r2=>⟨k2,r2,λu s3 k3 r3=>q u s3 (Kp.trans k1 (Kp.trans k2 k3)) r3⟩)
 rw[pt.2]at this;exact this
theorem Be(Fa:aB G A Φ){E:Expr->R}(GE:az G A env X ρ E){o:Expr}{m:Str}{as:List Expr}{apos pos:Pos}(hp:apos.endLine=pos.line)(hl:as.length<30)(ok:(ky Φ E o (nm m) as).1=true):
 iN G A env X ρ (eval (.Call (.Attribute o m apos) as [] pos) env) (ky Φ E o (nm m) as).2:=by
 have o4:=aG ok;have o3:=aG o4.1;have o2:=aG o3.1;have k:=o3.2;show iN G A env X ρ _ (fg Φ (nm m) (E o).2 (dz E as).2).2
 rcases uU k with⟨x,hv⟩|⟨raw,n,nt,cnt,b,sm,F,hv,hf⟩
 ·have:=y5 (pos:=pos) (m:=m) GE hp hl o2.1 o2.2 o4.2 hv
  rw[hv]at k |-;exact this k
 ·have:=y6 (pos:=pos) (m:=m) Fa GE hp hl o2.1 o2.2 o4.2 hv hf
  have e:fg Φ (nm m) (.ws raw n nt cnt b sm) (dz E as).2=F (.ws raw n nt cnt b sm::(dz E as).2):=by
   unfold fg;rw[hf]
  rw[hv,e]at k |-;exact this k
theorem wn{s:Shared}{X:Addr->Prop}:∀{as:List V} {us:List Value},as.all mK=true->Reps G X s.heap as us->∃ps:List (Int×Tok),us=ps.map (λp => .int p.1 p.2)/\as.map getI=ps.map (·.1)
 |[],us,_,r=>⟨[],Reps.nil_iff.mp r,rfl⟩
 |x::l,us,a,r=>by
  obtain⟨v,r',rfl,h1,h2⟩:=Reps.cons_iff.mp r;have a:=aG a;obtain⟨ps,e1,e2⟩:=wn a.2 h2;rw[<-qZ a.1]at h1;obtain⟨t,rfl⟩:=am.int_iff.mp h1;exact⟨(getI x,t)::ps,by rw[e1];rfl,by rw[List.map_cons,e2];rfl⟩
theorem rh{k:Int}(h : -1000<=k)(h':k<=1000):k.natAbs<1073741824:=⋯
theorem xe {s:Shared} {ps:List (Int×Tok)} (ok:(qS (ps.map (·.1))).1=true) {E:Value->Shared->Prop} {Q:Value->Shared->Prop}
 (q:∀c s' a b k t u v,Keeps s s'->IsRange s'.heap c a b k t u v->bX a b k=true->(qS (ps.map (·.1))).2=(df a b k).map .int->Q (.ref c) s'):
 wpAny (model G.p G.w) A (call (.type "range") (ps.map λp => .int p.1 p.2)) Q E s:=by
 generalize hw:(qS (ps.map (·.1))).2=w at q
 induction ps using List.casesOn with
 |nil=>exact ad ok
 |cons p ps=>induction ps using List.casesOn with
  |nil=>exact call_range_1 (q _ _ _ _ _ _ _ _ (Kp.push s _ _) (IsRange.new ..) ok hw.symm)
  |cons p' ps=>induction ps using List.casesOn with
   |nil=>exact call_range_2 (q _ _ _ _ _ _ _ _ (Kp.push s _ _) (IsRange.new ..) ok hw.symm)
   |cons p2 ps=>induction ps using List.casesOn with
    |nil=>
     have o1:=aG ok;have o2:=aG o1.1;have o3:=aG o2.1;exact call_range_3 (jl o3.2) (q _ _ _ _ _ _ _ _ (Kp.push s _ _) (IsRange.new ..) ok hw.symm) (.inl (PyProof.noPylong_small (rh (of_decide_eq_true o2.2) (of_decide_eq_true o1.2))))
    |cons _ _=>exact ad ok
theorem sO {s:Shared} {X:Addr->Prop} {as:List V} {us:List Value} (ok:(fe as).1=true) (r:Reps G X s.heap as us) {E:Value->Shared->Prop} {Q:Value->Shared->Prop}
 (q:∀c s' a b k t u v,Keeps s s'->IsRange s'.heap c a b k t u v->bX a b k=true->(fe as).2=(df a b k).map .int->Q (.ref c) s'):
 wpAny (model G.p G.w) A (call (.type "range") us) Q E s:=by
 unfold fe at ok q;generalize h:as.all mK=b at ok q
 induction b using Bool.casesOn with
 |false=>exact ad ok
 |true=>
  obtain⟨ps,rfl,e⟩:=wn h r;rw[e]at ok q;exact xe ok q
theorem jn(k:Int):∀(n:Nat) (a:Int) (j:Nat),(gw a k n)[j]? = if j<n then some (a+j*k)else none
 |0,a,j=>by rw[if_neg (Nat.not_lt_zero j)];exact List.getElem?_nil
 |n+1,a,j=>by
  induction j using Nat.casesOn with
  |zero=>rw[hV];simp
  |succ j=>
   rw[hV,List.getElem?_cons_succ,jn k n (a+k) j]
   by_cases h:j<n
   ·rw[if_pos h,if_pos ⋯]
    congr 1
    push_cast
    rw[Int.add_mul];omega
   ·rw[if_neg h,if_neg ⋯]
theorem jo(k:Int):∀(n:Nat) (a:Int),(gw a k n).length=n
 |0,a=>rfl
 |n+1,a=>by rw[hV,List.length_cons,jo k n]
theorem pT{h:Heap}{X:Addr->Prop}:∀{l:List Int} {vs:List Value},l.length=vs.length->(∀(j:Nat) (i:Int),l[j]? = some i->∃t,vs[j]? = some (Value.int i t))->Reps G X h (l.map V.int) vs
 |[],vs,hl,_=>by rw[List.eq_nil_of_length_eq_zero hl.symm];exact Reps.nil
 |i::l,[],hl,_=>by simp at hl
 |i::l,v::vs,hl,ha=>by
  obtain⟨t,e⟩:=ha 0 i rfl
  injection e with e
  subst e;exact Reps.cons (am.int_iff.mpr ⟨t,rfl⟩) (pT (by simpa using hl) λj i' hj=>by simpa using ha (j+1) i' (by simpa using hj))
theorem aX(h:Heap){b:Addr}(hb:h.objs.size<=b):h.get? b=none:=by
 cases e:h.get? b with
 |none=>rfl
 |some o=>exact absurd (Heap.lt_size e) (Nat.not_lt.mpr hb)
theorem lr{c:Prop}[Decidable c]{x y:Int}(h:c->0<=x/\0<=y):0<=(if c then x/y+1 else 0:Int):=by
 by_cases e:c
 ·rw[if_pos e];exact Int.add_nonneg (Int.ediv_nonneg (h e).1 (h e).2) nofun
 ·rw[if_neg e];exact Int.le_refl _
theorem fZ(a b k:Int):0<=Builtin.Range.rangeSize a b k:=by
 unfold Builtin.Range.rangeSize
 by_cases h:k>0
 ·rw[if_pos h];exact lr λh'=>⋯
 ·rw[if_neg h];exact lr λh'=>⋯
noncomputable def lu(G:Cfg)(A:Around)(env:Env)(X:Addr->Prop)(ρ:Rho)(t:Sem Value)(l:List V):Prop:=
 ∀O s,cq G env X O ρ s.heap->∀(E:Value->Shared->Prop) (Q:Value->Shared->Prop),
  (∀a vs m s',Keeps s s'->s.heap.get? a=none->s'.heap.get? a=some { cls := .type "list",data := .seq vs m }->Reps G (λb=>ak env X O b\/b=a) s'.heap l vs.toList->Q (.ref a) s')->wpAny (model G.p G.w) A t Q E s
theorem Reps.addNew{P:Addr->Prop}{h h':Heap}{a:Addr}{l:List V}{vs:List Value}(r:Reps G P h l vs)(k:∀b o,h.get? b=some o->h'.get? b=some o)(d:h.get? a=none):Reps G (λb=>P b\/b=a) h' l vs:=
 r.on ⟨λb o _ e=>k b o e,λb o e f=>by
  rcases f with f|f
  ·exact f
  ·rw[f,d]at e;cases e⟩
theorem lu.ev{t:Sem Value}{l:List V}(h:lu G A env X ρ t l):iN G A env X ρ t (.list l):=λO s S E Q q=>h O s S E Q λa vs m s' k d el rl=>by
 have na:¬ak env X O a:=λf=>by
  obtain⟨o,e⟩:=S.alive a f;rw[d]at e;exact av e
 exact q _ s' k (am.list_iff.mpr ⟨a,vs,rfl,na,⟨_,el,rfl,_,rfl⟩,Reps.on ⟨λ_ _ _ e=>e,λb o e f => .inl f⟩ rl⟩)
theorem sP{P:Addr->Prop}{h:Heap}{a k:Int}{n:Nat}{acc:List Value}(hs:acc.length=n)(ha:∀(j:Nat) (v:Value),acc[j]? = some v->∃t,v = .int (a+j*k) t):Reps G P h ((gw a k n).map V.int) acc:=
 pT (by rw[jo,hs]) λj i hj=>by
  rw[jn]at hj
  by_cases hlt:j<n
  ·rw[if_pos hlt]at hj
   rw[<-Option.some.inj hj];have e:=List.getElem?_eq_getElem (hs▸hlt);obtain⟨t',e'⟩:=ha j _ e;exact⟨t',e.trans (congrArg some e')⟩
  ·rw[if_neg hlt]at hj;exact av hj
theorem pU(Fa:aB G A Φ)(En:ao env κ){E:Expr->R}(GE:az G A env X ρ E){bs:List Expr}{p p' q' pos:Pos}(ok:(bH E κ (nm "list") (nm "range") bs).1=true):
 ∃l,(bH E κ (nm "list") (nm "range") bs).2 = .list l/\lu G A env X ρ (eval (.Call (.Name "list" p) [.Call (.Name "range" p') bs [] q'] [] pos) env) l:=by
 have o4:=aG ok;have o3:=aG o4.1;have o1:=aG o3.1;refine⟨_,rfl, ?_⟩;intro O s S E' Q q;have pt:=bU GE q' o3.2;refine Call_Name1 (cf Fa En o1.1 PyProof.Rows.boot_list nofun S (bx (.inr ⟨_,rfl⟩) rfl (spliced_cons ?_)));refine Call_Name rfl (cf Fa En o1.2 boot_range nofun S (bx (.inr ⟨_,rfl⟩) pt.1 (cT GE q' o3.2 O s S _ _ λus s1 k1 r1 => ?_)));refine sO o4.2 r1 λc s2 a b k t u v k2 hr hok hv=>spliced_nil ?_
 have g5:=aG (aG (aG (aG hok).1).1).1;have g2:=of_decide_eq_true g5.2;have pos':=fZ a b k;refine call_list_range (n:=(Builtin.Range.rangeSize a b k).toNat) Fa.none hr g5.1 (Int.toNat_of_nonneg pos').symm ⋯ λh' tk acc c' hk ho hi => ?_
 refine q _ acc c' _ (Kp.trans k1 (Kp.trans k2 (Kp.heap tk hk))) ?_ ho ?_
 ·cases e:s.heap.get? s2.heap.objs.size with
  |none=>rfl
  |some o=>exact absurd (Heap.lt_size (Kp.keep k2 _ o (Kp.keep k1 _ o e))) (Nat.lt_irrefl _)
 rw[hv];exact sP (by simpa using hi.1) λj v hj=>hi.2 j v (by simpa using hj)
theorem rj(Fa:aB G A Φ)(En:ao env κ){E:Expr->R}(GE:az G A env X ρ E){bs:List Expr}{p p' q' pos:Pos}(ok:(bH E κ (nm "list") (nm "range") bs).1=true):
 iN G A env X ρ (eval (.Call (.Name "list" p) [.Call (.Name "range" p') bs [] q'] [] pos) env) (bH E κ (nm "list") (nm "range") bs).2:=by
 obtain⟨l,e,h⟩:=pU (p:=p) (p':=p') (q':=q') (pos:=pos) Fa En GE ok;rw[e];exact h.ev
end
end
section
open PySem PySem.W PySem.Calls PyProof.Rows
section
variable {prog:Program} {w:World} {A:Around} {E:Value->Shared->Prop} {s:Shared}
theorem jQ {it l:Addr} {i:Nat} {items} {x:Value} {Q:Value->Shared->Prop} (hit:s.heap.IsTupleIter it l i) (hl:s.heap.IsTuple l items) (hx:items[i]? = some x)
 (hQ:∀h',h'.IsTupleIter it l (i+1)->Heap.SameBut it s.heap h'->Q x { s with heap:=h' }):
 wpAny (model prog w) A (Builtin.SmallTypes.nextOf (.ref it)) Q E s:=by
 obtain⟨o,ho,hc,hd⟩:=id hit;obtain⟨ol,hol,_,nl,hdl⟩:=hl;unfold Builtin.SmallTypes.nextOf;refine wpAny_bind (wpAny_callSpecial?_slot (name:=Str.ofString "__next__") hit.typeIs F.slot_tuple_iterator_next
  (wpAny_call_entry F.slot_tuple_iterator_next hit.typeIs F.entry_tuple_iterator_next ?_ (F.args_tuple_iterator_next_1 _)))
 show wpAny _ _ (field (.ref it) 0>>=_) _ _ s;refine wpAny_bind (wpAny_field ho hd (x := .ref l) rfl ?_);show wpAny _ _ (if(Value.ref l==Value.none)=true then _ else _) _ _ s;rw[if_neg (show ¬((Value.ref l==Value.none)=true)from Bool.false_ne_true)];show wpAny _ _ (field (.ref it) 1>>=_) _ _ s;refine wpAny_bind (wpAny_field ho hd (x := .int i 0) rfl ?_);show wpAny _ _ (seqItems? (.ref l)>>=_) _ _ s;refine wpAny_bind (wpAny_seqItems hol hdl ?_);simp only[Int.toNat_natCast,hx];refine wpAny_bind (wpAny_setField ho hd (by simp) (wpAny_pure ⟨x,rfl,wpAny_pure (hQ _ ?_ (Heap.SameBut.update ..))⟩));exact⟨_,Heap.get?_update_self _ ho (Obj.isFreed_of_fields (Obj.data_mapFields hd _)),(Obj.cls_mapFields ..).trans hc,by
  rw[Obj.data_mapFields hd];simp[rawInt]⟩
theorem kJ {it l:Addr} {i:Nat} {items} {Q:Value->Shared->Prop} (hh:A.handled=none) (hit:s.heap.IsTupleIter it l i) (hl:s.heap.IsTuple l items) (hx:items[i]? = none)
 (hE:∀h' e,Heap.ExtBut it s.heap h'->(∃o,h'.get? e=some o/\o.cls = .type "StopIteration")->E (.ref e) { s with heap:=h' }):
 wpAny (model prog w) A (Builtin.SmallTypes.nextOf (.ref it)) Q E s:=by
 obtain⟨o,ho,hc,hd⟩:=id hit;obtain⟨ol,hol,_,nl,hdl⟩:=hl;unfold Builtin.SmallTypes.nextOf;refine wpAny_bind (wpAny_callSpecial?_slot (name:=Str.ofString "__next__") hit.typeIs F.slot_tuple_iterator_next
  (wpAny_call_entry F.slot_tuple_iterator_next hit.typeIs F.entry_tuple_iterator_next ?_ (F.args_tuple_iterator_next_1 _)))
 show wpAny _ _ (field (.ref it) 0>>=_) _ _ s;refine wpAny_bind (wpAny_field ho hd (x := .ref l) rfl ?_);show wpAny _ _ (if(Value.ref l==Value.none)=true then _ else _) _ _ s;rw[if_neg (show ¬((Value.ref l==Value.none)=true)from Bool.false_ne_true)];show wpAny _ _ (field (.ref it) 1>>=_) _ _ s;refine wpAny_bind (wpAny_field ho hd (x := .int i 0) rfl ?_);show wpAny _ _ (seqItems? (.ref l)>>=_) _ _ s;refine wpAny_bind (wpAny_seqItems hol hdl ?_);simp only[Int.toNat_natCast,hx];refine wpAny_bind (wpAny_rule (wpAny_bind (wpAny_setField ho hd (by simp) ?_)));show wpAny _ _ (newExc (.type "StopIteration") []>>=_) _ _ _
 refine wpAny_bind ?_;simp only[newExc,newTuple];refine wpAny_bind (wpAny_newObj_type ?_ (by size_fits));refine wpAny_bind (m:=firstArgMember _ _) (wpAny_of_eq (a:=Value.none) (by first|rfl|(simp only[firstArgMember];rfl)) ?_);refine wpAny_newObj_type ?_ (by size_fits);unfold raiseNew;refine wpAny_bind (wpAny_handled ?_)
 first|rw[show A.in1.handled=none from hh]|rw[hh]
 refine wpAny_bind (wpAny_pure (wpAny_throw ?_));exact hE _ _ (((Heap.SameBut.update ..).extBut.push _).push _) ⟨_,Heap.get?_push_size _ rfl,rfl⟩
end
theorem uV{prog:Program}{w:World}{A:Around}(hh:A.handled=none)(it l:Addr)(hne:l≠it)(items:Array Value):
 Draws prog w A it [it,l] items.size (λi v=>items[i]? = some v) (λi h=>h.IsTupleIter it l i/\h.IsTuple l items) where
 live:=λ_ _ st=>let⟨o,ho,_⟩:=st.1;⟨o,ho⟩
 frame:=λ_ _ _ st hk=>⟨st.1.at λo e=>hk it (by simp) o e,st.2.at λo e=>hk l (by simp) o e⟩
 item:=λi s Q E hi st hQ=>by
  refine jQ st.1 st.2 (x:=items[i]) (by simp[hi]) λh' hit' hs' => ?_
  exact hQ _ h' s.toks (by simp[hi]) ⟨hit',st.2.extBut hs'.extBut hne⟩ hs'
 done:=λs Q E st hE=>kJ hh st.1 st.2 (by simp) hE
theorem uW{M:Model}{A:Around}{E:Value->Shared->Prop}{s:Shared}{b:Bool}{Q:Bool->Shared->Prop}(h:∀b,Q b s):wpAny M A (pure b) Q E s:=wpAny_pure (h b)
theorem ii(l:Addr)(items:Array Value):
 Meets (Builtin.«enumerate.__new__» ⟨[.type "enumerate", .ref l],[]⟩) (λ_ R s=>s.heap.IsTuple l items /\
  R (.ok (.ret (.ref (s.heap.push { cls := .type "tuple_iterator",data := .fields #[.ref l, .int 0 0] }).objs.size)))
    { s with heap:=(s.heap.push { cls := .type "tuple_iterator",data := .fields #[.ref l, .int 0 0] }).push { cls := .type "enumerate",data := .fields #[.none, .bool false, .ref s.heap.objs.size,rawInt 0, .none, .none] } }):=
 .of_wp λprog w A R s h=>by
   obtain⟨hp,g,d,tk,os⟩:=s;obtain⟨hL,h⟩:=h;have hsub:=sub_enumerate;have hL':Heap.IsTuple (Shared.heap ⟨hp,g,d,tk,os⟩) l items:=hL
   wp_walk
   refine wpAny_stack_any λst=>uW λb => ?_
   induction b using Bool.casesOn with
   |true=>
    wp_walk using wpAny_pyIter_tuple hL'
    exact⟨_,rfl,h⟩
   |false=>
    wp_walk using wpAny_pyIter_tuple hL'
    exact⟨_,rfl,h⟩
structure It(G:Cfg)(A:Around)(t:Expr)(X0:Addr->Prop)(hp:Heap)(it:Value)(fp wr:List Addr)(xs:List V)(St:Nat->Heap->Prop):Prop where
 sub:∀b∈wr,b∈fp
 frame:∀i h h',St i h->(∀b∈fp,∀o,h.get? b=some o->h'.get? b=some o)->St i h'
 live:∀i h,St i h->∀b∈fp,∃o,h.get? b=some o
 item:∀i (s:Shared) (Y:Addr->Prop),i<xs.length->St i s.heap->On X0 Y hp s.heap->aS Y s.heap->(∀b∈wr,Y b)->∀(E:Value->Shared->Prop) (Q:Value->Shared->Prop),
  (∀v h' tk,am G Y h' (xs.getD i .none) v->St (i+1) h'->(∀b o,b∉wr->s.heap.get? b=some o->h'.get? b=some o)->Q v { s with heap:=h',toks:=tk }) ->
  wpAny (model G.p G.w) A (pyNext it) (λr s₁=>∃v,r=some v/\wpAny (model G.p G.w) A (letOwnedTupleGo t it v) (λ_ s₂=>Q v s₂) E s₁) E s
 done:∀(s:Shared),St xs.length s.heap->∀(E:Value->Shared->Prop) (Q:Option Value->Shared->Prop),
  (∀h' tk,(∀b o,b∉wr->s.heap.get? b=some o->h'.get? b=some o)->Q none { s with heap:=h',toks:=tk })->wpAny (model G.p G.w) A (pyNext it) Q E s
 self:∀i (s:Shared) (E:Value->Shared->Prop) (Q:Value->Shared->Prop),St i s.heap->Q it s->wpAny (model G.p G.w) A (pyIter it) Q E s
section
variable {G:Cfg} {A:Around} {X0:Addr->Prop} {hp:Heap} {I:Addr} {fp wr:List Addr} {n:Nat} {St:Nat->Heap->Prop} {xs:List V} {t:Expr}
theorem jR{h h':Heap}{a:Addr}{vs:Array Value}(k:∀b o,h.get? b=some o->h'.get? b=some o)(x:h.IsList a vs):h'.IsList a vs:=let⟨o,e,r⟩:=x;⟨o,k _ _ e,r⟩
theorem pj{h h':Heap}{a:Addr}{vs:Array Value}(k:∀b o,h.get? b=some o->h'.get? b=some o)(x:h.IsTuple a vs):h'.IsTuple a vs:=let⟨o,e,r⟩:=x;⟨o,k _ _ e,r⟩
theorem Cf{Y:Addr->Prop}{h h':Heap}{wr:List Addr}(hw:∀b∈wr,Y b)(k:∀b o,b∉wr->h.get? b=some o->h'.get? b=some o):On Y Y h h':=
 ⟨λb o nb e=>k b o (λm=>nb (hw b m)) e,λ_ _ _ y=>y⟩
theorem It.ofW {P:Nat->Value->Prop} (W:Walks G.p G.w A I fp wr n P St) (hn:xs.length=n) (live:∀i h,St i h->∀b∈fp,∃o,h.get? b=some o)
 (hP:∀i v Y h,i<n->P i v->On X0 Y hp h->am G Y h (xs.getD i .none) v)
 (hgo:∀i v (s:Shared) (E:Value->Shared->Prop) (Q:Unit->Shared->Prop),St i s.heap->Q () s->wpAny (model G.p G.w) A (letOwnedTupleGo t (.ref I) v) Q E s):It G A t X0 hp (.ref I) fp wr xs St where
 sub:=W.sub
 frame:=W.frame
 live:=live
 item:=λi s Y hi st on al hw E Q q=>W.item i s _ E (hn▸hi) st λv h' tk hPv st' k=>⟨v,rfl,hgo (i+1) v _ _ _ st' (q v h' tk ((hP i v Y s.heap (hn▸hi) hPv on).on (Cf hw k)) st' k)⟩
 done:=λs st E Q q=>W.done s Q E (hn▸st) q
 self:=λi s E Q st q=>W.self i s Q E st q
theorem It.ofT {elts:List Expr} {k:Nat} {pos:Pos} {Pt:Nat->Array Value->Prop} {Mid:Nat->Addr->Heap->Prop} (W:WalksT G.p G.w A I fp wr n Pt St Mid) (hn:xs.length=n) (live:∀i h,St i h->∀b∈fp,∃o,h.get? b=some o)
 (hP:∀i vals Y h,i<n->Pt i vals->On X0 Y hp h->∃l,xs.getD i .none = .tup l/\Reps G Y h l vals.toList):It G A (.Tuple elts k pos) X0 hp (.ref I) fp wr xs St where
 sub:=W.sub
 frame:=W.frame
 live:=live
 item:=λi s Y hi st on al hw E Q q=>W.item i s _ E (hn▸hi) st λT vals h' tk hPv hsz hT mid k1=>⟨.ref T,rfl,W.go elts k pos i T _ _ _ mid λh'' st'' k2=>by
  have kk:∀b o,b∉wr->s.heap.get? b=some o->h''.get? b=some o:=λb o nb e=>k2 b o nb (k1 b o nb e)
  obtain⟨l,el,r⟩:=hP i vals Y s.heap (hn▸hi) hPv on;refine q (.ref T) h'' tk ?_ st'' kk;rw[el];have nT:¬Y T:=λy=>by
   obtain⟨o,e⟩:=al T y;exact Nat.lt_irrefl _ (Nat.lt_of_lt_of_le (Heap.lt_size e) hsz)
  obtain⟨o,ho,hr⟩:=hT;exact am.tup_iff.mpr ⟨T,vals,rfl,nT,⟨o,k2 T o (W.apart i T _ mid) ho,hr⟩,Reps.on (Cf hw kk) r⟩⟩
 done:=λs st E Q q=>W.done s Q E (hn▸st) q
 self:=λi s E Q st q=>W.self i s Q E st q
theorem wo{x:Str}{p:Pos}{it v:Value}{s:Shared}{E:Value->Shared->Prop}{Q:Unit->Shared->Prop}(q:Q () s):wpAny (model G.p G.w) A (letOwnedTupleGo (.Name x p) it v) Q E s:=wpAny_pure q
theorem kK{t:Expr}(h:dg t=true):∃x p,t = .Name x p:=by
 induction t using Expr.casesOn with
 |Name x p=>exact⟨x,p,rfl⟩
 |_=>exact ad h
theorem jp{t:Expr}(h:dB t=true):∃es k p,t = .Tuple es k p:=by
 induction t using Expr.casesOn with
 |Tuple es k p=>exact⟨es,k,p,rfl⟩
 |_=>exact ad h
theorem Bf{t:Expr}(ht:dg t=true\/dB t=true){l:Addr}{i:Nat}{v:Value}{s:Shared}{E:Value->Shared->Prop}{Q:Unit->Shared->Prop}(hit:s.heap.IsListIter I l i)(q:Q () s):
 wpAny (model G.p G.w) A (letOwnedTupleGo t (.ref I) v) Q E s:=by
 rcases ht with ht|ht
 ·obtain⟨x,p,rfl⟩:=kK ht;exact wpAny_pure q
 ·obtain⟨es,k,p,rfl⟩:=jp ht
  induction v using Value.casesOn with
  |ref a=>exact wpAny_letOwnedTupleGo_listiter hit q
  |_=>exact wpAny_pure q
inductive nj(G:Cfg)(A:Around)(t:Expr)(X0:Addr->Prop)(s0:Shared)(xs:List V)(it:Value)(s:Shared):Prop
 |mk (s1:Shared) (fp wr:List Addr) (St:Nat->Heap->Prop) (_:Keeps s0 s1) (_:Keeps s1 s) (_:It G A t X0 s1.heap it fp wr xs St) (_:St 0 s.heap) (_:∀b∈fp,¬X0 b) (_:∀b∈wr,s1.heap.get? b=none)
theorem aS.off{X:Addr->Prop}{h:Heap}(al:aS X h){b:Addr}(hb:h.objs.size<=b):¬X b:=λx=>by
 obtain⟨o,e⟩:=al b x;exact absurd (Heap.lt_size e) (Nat.not_lt.mpr hb)
theorem xf (hh:A.handled=none) {s:Shared} {l:List V} {u:Value} (al:aS X0 s.heap) (ht:dg t=true\/dB t=true) (r:am G X0 s.heap (.list l) u) {E:Value->Shared->Prop} {Q:Value->Shared->Prop}
 (q:∀it s',Keeps s s'->nj G A t X0 s l it s'->Q it s'):wpAny (model G.p G.w) A (pyIter u) Q E s:=by
 obtain⟨a,vs,rfl,nx,hl,rr⟩:=am.list_iff.mp r;have hlt:a<s.heap.objs.size:=by obtain⟨_,e,_⟩:=hl;exact Heap.lt_size e
 have hsz:vs.size=l.length:=by rw[<-Array.length_toList,<-Reps.length rr]
 refine wpAny_pyIter_list hl (q _ _ (Kp.push s _ s.toks) ⟨s,_,_,_,Kp.refl s,Kp.push s _ s.toks,
  It.ofW (Walks.list hh s.heap.objs.size a (Nat.ne_of_lt hlt) vs) hsz.symm (λi h st b hb => ?_) (λi v Y h hi hv on => ?_) (λi v s' E' Q' st q'=>Bf ht st.1 q'),
  ⟨⟨_,Heap.get?_push_size _ rfl,rfl,rfl⟩,hl.push _⟩,λb hb => ?_,λb hb => ?_⟩)
 ·rcases List.mem_cons.mp hb with rfl|hb
  ·obtain⟨o,e,_⟩:=st.1;exact⟨o,e⟩
  ·rw[List.mem_singleton.mp hb];obtain⟨o,e,_⟩:=st.2;exact⟨o,e⟩
 ·obtain⟨x,e,hx⟩:=Reps.at rr (k:=i) ⋯
  rw[Array.getElem?_toList]at e;rw[e]at hv;injection hv with hv;subst hv
  exact hx.on on
 ·rcases List.mem_cons.mp hb with rfl|hb
  ·exact al.fresh
  ·rw[List.mem_singleton.mp hb];exact nx
 ·rw[List.mem_singleton.mp hb];exact aX _ (Nat.le_refl _)
theorem y7{x:List Nat}{i:Nat}{v:Value}{Y:Addr->Prop}{h:Heap}(hv:SignAt (tx x) i v):am G Y h ((ya x).getD i .none) v:=by
 obtain⟨c,u,e,rfl⟩:=hv;have e':x[i]? = some c:=by simpa[tx]using e
 have:(ya x).getD i .none = .str [c]:=by
  unfold ya;rw[List.getD_eq_getElem?_getD,List.getElem?_map,e'];rfl
 rw[this];exact am.str_iff.mpr ⟨u,rfl⟩
theorem y8 (hh:A.handled=none) {s:Shared} {x:List Nat} {tk:Tok} (al:aS X0 s.heap) (ht:dg t=true) {E:Value->Shared->Prop} {Q:Value->Shared->Prop}
 (q:∀it s',Keeps s s'->nj G A t X0 s (ya x) it s'->Q it s'):wpAny (model G.p G.w) A (pyIter (.str (tx x) tk)) Q E s:=by
 obtain⟨_,_,rfl⟩:=kK ht;have hlen:(ya x).length=(tx x).cps.size:=by simp[ya,tx]
 have key:∀(o:Obj) (St:Nat->Heap->Prop),Walks G.p G.w A s.heap.objs.size [s.heap.objs.size] [s.heap.objs.size] (tx x).cps.size (SignAt (tx x)) St->St 0 (s.heap.push o)->(∀i h,St i h->∃o,h.get? s.heap.objs.size=some o) ->
  Q (.ref s.heap.objs.size) { s with heap:=s.heap.push o }:=λo St W st live=>
  q _ _ (Kp.push s _ s.toks) ⟨s,_,_,_,Kp.refl s,Kp.push s _ s.toks,It.ofW W hlen (λi h st b hb=>by rw[List.mem_singleton.mp hb];exact live i h st)
    (λi v Y h hi hv on=>y7 hv) (λi v s' E' Q' st q'=>wo q'),st,
    (λb hb=>by rw[List.mem_singleton.mp hb];exact al.fresh),λb hb=>by rw[List.mem_singleton.mp hb];exact aX _ (Nat.le_refl _)⟩
 cases ha:(tx x).cps.all (· < 128)
 ·exact wpAny_pyIter_wide ha (key _ _ (Walks.strWide hh _ _ tk) ⟨_,Heap.get?_push_size _ rfl,rfl,rfl⟩ λi h st=>let⟨o,e,_⟩:=st;⟨o,e⟩)
 ·exact wpAny_pyIter_ascii ha (key _ _ (Walks.strAscii hh _ _ tk) ⟨_,Heap.get?_push_size _ rfl,rfl,rfl⟩ λi h st=>let⟨o,e,_⟩:=st;⟨o,e⟩)
theorem uX (hh:A.handled=none) {s0 s:Shared} (k0:Keeps s0 s) {c:Addr} {a b k:Int} {tk u v:Tok} (al:aS X0 s0.heap) (ht:dg t=true) (hr:IsRange s.heap c a b k tk u v) (ok:bX a b k=true)
 {E:Value->Shared->Prop} {Q:Value->Shared->Prop} (q:∀it s',Keeps s s'->nj G A t X0 s0 ((df a b k).map .int) it s'->Q it s'):wpAny (model G.p G.w) A (pyIter (.ref c)) Q E s:=by
 obtain⟨_,_,rfl⟩:=kK ht;have ok':=aG (aG (aG (aG ok).1).1).1;have hnn:=fZ a b k;have al':aS X0 s.heap:=al.keeps (Kp.keep k0);refine wpAny_pyIter_range hr ok'.1 (q _ _ (Kp.push s _ s.toks) ⟨s,_,_,_,k0,Kp.push s _ s.toks,
  It.ofW (Walks.range hh s.heap.objs.size a k (Builtin.Range.rangeSize a b k).toNat) (by unfold df;rw[List.length_map,jo]) (λi h st b hb => ?_) (λi v Y h hi hv on => ?_)
   (λi v s' E' Q' st q'=>wo q'), ?_,λb hb => ?_,λb hb => ?_⟩)
 ·rw[List.mem_singleton.mp hb];exact⟨_,st⟩
 ·obtain⟨t',rfl⟩:=hv
  have:((df a b k).map V.int).getD i .none = .int (a+i*k):=by
   unfold df;rw[List.getD_eq_getElem?_getD,List.getElem?_map,jn,if_pos hi];rfl
  rw[this];exact am.int_iff.mpr ⟨t',rfl⟩
 ·show(s.heap.push _).get? s.heap.objs.size=some _
  rw[Heap.get?_push_size _ rfl];have e1:a+((0:Nat):Int)*k=a:=(congrArg (a + ·) (Int.zero_mul k)).trans (Int.add_zero a);have e2:(((Builtin.Range.rangeSize a b k).toNat:Int)-((0:Nat):Int))=Builtin.Range.rangeSize a b k:=(Int.sub_zero _).trans (Int.toNat_of_nonneg hnn);rw[e1,e2]
 ·rw[List.mem_singleton.mp hb];exact al'.fresh
 ·rw[List.mem_singleton.mp hb];exact aX _ (Nat.le_refl _)
theorem pV:∀(l:List V) (k:Int) (i:Nat),i<l.length->(mM k l).getD i .none = .tup [.int (k+i),l.getD i .none]
 |[],k,i,h=>by simp at h
 |x::l,k,0,_=>by rw[qT];simp
 |x::l,k,i+1,h=>by
  have ih:=pV l (k+1) i (by simpa using h);rw[qT,List.getD_cons_succ,List.getD_cons_succ];rw[ih];have:k+1+(i:Int)=k+((i+1:Nat):Int):=⋯;rw[this]
theorem pW:∀(l:List V) (k:Int),(mM k l).length=l.length
 |[],_=>rfl
 |x::l,k=>by rw[qT,List.length_cons,List.length_cons,pW l]
theorem xg (hh:A.handled=none) {s:Shared} {l:List V} {u:Value} (al:aS X0 s.heap) (ht:dB t=true) (r:am G X0 s.heap (.tup l) u) {E:Value->Shared->Prop} {Q:Value->Shared->Prop}
 (q:∀it s',Keeps s s'->nj G A t X0 s (mM 0 l) it s'->Q it s'):wpAny (model G.p G.w) A (call (.type "enumerate") [u]) (λx s1=>wpAny (model G.p G.w) A (pyIter x) Q E s1) E s:=by
 obtain⟨a,vs,rfl,nx,hl,rr⟩:=am.tup_iff.mp r;have hlt:a<s.heap.objs.size:=by obtain⟨_,e,_⟩:=hl;exact Heap.lt_size e
 have hsz:vs.size=l.length:=by rw[<-Array.length_toList,<-Reps.length rr]
 refine callType_new F.called_enumerate nofun (F.typeCall_enumerate_1 _) (F.newCall_enumerate_1 _) (λobj=>F.args_object_init_2 obj _) F.entry_enumerate_new (ii a vs) ⟨hl, ?_⟩;have hz:(s.heap.push { cls := .type "tuple_iterator",data := .fields #[.ref a, .int 0 0] }).objs.size=s.heap.objs.size+1:=Heap.size_push ..;show _/\_;rw[hz];have he:IsEnum ((s.heap.push { cls := .type "tuple_iterator",data := .fields #[.ref a, .int 0 0] }).push
  { cls := .type "enumerate",data := .fields #[.none, .bool false, .ref s.heap.objs.size,rawInt 0, .none, .none] }) (s.heap.objs.size+1) s.heap.objs.size 0 .none:=by
  have:=Heap.get?_push_size (s.heap.push { cls := .type "tuple_iterator",data := .fields #[.ref a, .int 0 0] })
   (o:={ cls := .type "enumerate",data := .fields #[.none, .bool false, .ref s.heap.objs.size,rawInt 0, .none, .none] }) rfl
  rw[hz]at this;exact this
 refine⟨⟨_,he,rfl⟩,wpAny_pyIter_enum he ?_⟩;have kk:Keeps s { s with heap:=(s.heap.push { cls := .type "tuple_iterator",data := .fields #[.ref a, .int 0 0] }).push { cls := .type "enumerate",data := .fields #[.none, .bool false, .ref s.heap.objs.size,rawInt 0, .none, .none] } }:=
  Kp.heap s.toks λb o e=>Heap.get?_push_of_some _ (Heap.get?_push_of_some _ e)
 obtain⟨es,k,p,rfl⟩:=jp ht;refine q _ _ kk ⟨s,_,_,_,Kp.refl s,kk,It.ofT (WalksT.enumerateD (uV (A:=A.in1) hh s.heap.objs.size a (Nat.ne_of_lt hlt) vs) (s.heap.objs.size+1) (Nat.succ_ne_self _) ?_ (by simp)) (by rw[pW,hsz]) (λi h st b hb => ?_)
  (λi vals Y h hi hv on => ?_),⟨⟨_,he⟩,⟨_,Heap.get?_push_of_some _ (Heap.get?_push_size _ rfl),rfl,rfl⟩,pj (Kp.keep kk) hl⟩,λb hb => ?_,λb hb => ?_⟩
 ·intro hm
  rcases List.mem_cons.mp hm with e|hm
  ·exact Nat.succ_ne_self _ e
  ·exact Nat.ne_of_gt (Nat.lt_succ_of_lt hlt) (List.mem_singleton.mp hm)
 ·obtain⟨⟨old,h1⟩,h2,h3⟩:=st
  rcases List.mem_cons.mp hb with rfl|hb
  ·exact⟨_,h1⟩
  ·rcases List.mem_cons.mp hb with rfl|hb
   ·obtain⟨o,e,_⟩:=h2;exact⟨o,e⟩
   ·rw[List.mem_singleton.mp hb];obtain⟨o,e,_⟩:=h3;exact⟨o,e⟩
 ·obtain⟨t',x,hx,rfl⟩:=hv
  refine⟨_,pV l 0 i ⋯, ?_⟩;obtain⟨x',e,hx'⟩:=Reps.at rr (k:=i) ⋯;rw[Array.getElem?_toList]at e;rw[e]at hx;injection hx with hx;subst hx
  exact Reps.cons (am.int_iff.mpr ⟨t',by rw[Int.zero_add]⟩) (Reps.cons (hx'.on on) Reps.nil)
 ·rcases List.mem_cons.mp hb with rfl|hb
  ·exact al.off (Nat.le_succ _)
  ·rcases List.mem_cons.mp hb with rfl|hb
   ·exact al.fresh
   ·rw[List.mem_singleton.mp hb];exact nx
 ·rcases List.mem_cons.mp hb with rfl|hb
  ·exact aX _ (Nat.le_succ _)
  ·rw[List.mem_singleton.mp hb];exact aX _ (Nat.le_refl _)
theorem sQ:∀(l r:List V) (i:Nat),i<l.length->i<r.length->(mO l r).getD i .none = .tup [l.getD i .none,r.getD i .none]
 |[],_,i,h,_=>by simp at h
 |_::_,[],i,_,h=>by simp at h
 |x::l,y::r,0,_,_=>rfl
 |x::l,y::r,i+1,h,h'=>by
  have ih:=sQ l r i (by simpa using h) (by simpa using h');exact ih
theorem sR:∀(l r:List V),(mO l r).length=min l.length r.length
 |[],_=>(Nat.zero_min _).symm
 |_::_,[]=>(Nat.min_zero _).symm
 |x::l,y::r=>by rw[CK,List.length_cons,List.length_cons,List.length_cons,sR l r,Nat.add_min_add_right]
theorem Cg{h:Heap}{it l:Addr}{i:Nat}(x:h.IsListIter it l i):∃o,h.get? it=some o:=let⟨o,e,_⟩:=x;⟨o,e⟩
theorem pX{h:Heap}{l:Addr}{vs:Array Value}(x:h.IsList l vs):∃o,h.get? l=some o:=let⟨o,e,_⟩:=x;⟨o,e⟩
theorem y9(n a b:Nat)(ha:a<n)(hb:b<n):ZipApart (n+4) (n+2) (n+3) n (n+1) a b:=by
 constructor<;>(intro e;have e':(_:Nat)=_:=e;omega)
theorem za (hh:A.handled=none) {s:Shared} {l l':List V} {u u':Value} (al:aS X0 s.heap) (ht:dB t=true) (r:am G X0 s.heap (.list l) u) (r':am G X0 s.heap (.list l') u') {E:Value->Shared->Prop} {Q:Value->Shared->Prop}
 (q:∀it s',Keeps s s'->nj G A t X0 s (mO l l') it s'->Q it s'):wpAny (model G.p G.w) A (call (.type "zip") [u,u']) (λx s1=>wpAny (model G.p G.w) A (pyIter x) Q E s1) E s:=by
 obtain⟨a,vs,rfl,nx,hl,rr⟩:=am.list_iff.mp r;obtain⟨a',vs',rfl,nx',hl',rr'⟩:=am.list_iff.mp r';have hlt:a<s.heap.objs.size:=by obtain⟨_,e,_⟩:=hl;exact Heap.lt_size e
 have hlt':a'<s.heap.objs.size:=by obtain⟨_,e,_⟩:=hl';exact Heap.lt_size e
 have hsz:vs.size=l.length:=by rw[<-Array.length_toList,<-Reps.length rr]
 have hsz':vs'.size=l'.length:=by rw[<-Array.length_toList,<-Reps.length rr']
 refine call_zip_2 hl hl' λh' hz hTI hTO h1 h2 hs hk=>wpAny_pyIter_zip hz ?_
 have kk:Keeps s { s with heap:=h' }:=Kp.heap s.toks hk;obtain⟨es,k,p,rfl⟩:=jp ht;refine q _ _ kk ⟨s,_,_,_,Kp.refl s,kk,It.ofT (WalksT.zip2 hh _ _ _ _ _ a a' (y9 _ a a' hlt hlt') vs vs') (by rw[sR,hsz,hsz']) (λi h st => ?_)
  (λi vals Y h hi hv on => ?_),⟨hz,hTI,⟨_,_,hTO⟩,h1,h2,jR hk hl,jR hk hl'⟩, ?_, ?_⟩
 ·exact List.forall_mem_cons.mpr ⟨⟨_,st.1⟩,List.forall_mem_cons.mpr ⟨⟨_,st.2.1⟩,List.forall_mem_cons.mpr ⟨let⟨_,_,g⟩:=st.2.2.1;⟨_,g⟩,List.forall_mem_cons.mpr ⟨Cg st.2.2.2.1,List.forall_mem_cons.mpr ⟨Cg st.2.2.2.2.1,List.forall_mem_cons.mpr ⟨pX st.2.2.2.2.2.1,List.forall_mem_cons.mpr ⟨pX st.2.2.2.2.2.2,λ_ h=>nomatch h⟩⟩⟩⟩⟩⟩⟩
 ·obtain⟨x,y,hx,hy,rfl⟩:=hv
  have hi1:i<vs.size:=⋯;have hi2:i<vs'.size:=⋯;refine⟨_,sQ l l' i ⋯ ⋯, ?_⟩;obtain⟨x',e,hx'⟩:=Reps.at rr (k:=i) ⋯;obtain⟨y',e',hy'⟩:=Reps.at rr' (k:=i) ⋯;rw[Array.getElem?_toList]at e e';rw[e]at hx;injection hx with hx;subst hx
  rw[e']at hy;injection hy with hy;subst hy
  exact Reps.cons (hx'.on on) (Reps.cons (hy'.on on) Reps.nil)
 ·exact List.forall_mem_cons.mpr ⟨al.off ⋯,List.forall_mem_cons.mpr ⟨al.off ⋯,List.forall_mem_cons.mpr ⟨al.off ⋯,List.forall_mem_cons.mpr ⟨al.off ⋯,List.forall_mem_cons.mpr ⟨al.off ⋯,List.forall_mem_cons.mpr ⟨nx,List.forall_mem_cons.mpr ⟨nx',λ_ h=>nomatch h⟩⟩⟩⟩⟩⟩⟩
 ·exact List.forall_mem_cons.mpr ⟨aX _ ⋯,List.forall_mem_cons.mpr ⟨aX _ ⋯,List.forall_mem_cons.mpr ⟨aX _ ⋯,List.forall_mem_cons.mpr ⟨aX _ ⋯,λ_ h=>nomatch h⟩⟩⟩⟩
variable {G:Cfg} {A:Around} {env:Env} {X:Addr->Prop} {κ:List (Str×NameKind)} {ρ:Rho} {Φ:Fns} {t:Expr}
theorem nj.from{X0:Addr->Prop}{s0 s1 s:Shared}{xs:List V}{it:Value}(k:Keeps s0 s1)(h:nj G A t X0 s1 xs it s):nj G A t X0 s0 xs it s:=by
 obtain⟨s2,fp,wr,St,h1,h2,h3,h4,h5,h6⟩:=h;exact⟨s2,fp,wr,St,Kp.trans k h1,h2,h3,h4,h5,h6⟩
noncomputable def DU(G:Cfg)(A:Around)(env:Env)(X:Addr->Prop)(ρ:Rho)(t e:Expr)(xs:List V):Prop:=
 ∀O s,cq G env X O ρ s.heap->∀(E':Value->Shared->Prop) (Q:Value->Shared->Prop),
  (∀it s',Keeps s s'->nj G A t (ak env X O) s xs it s'->Q it s')->wpAny (model G.p G.w) A (eval e env) (λx s1=>wpAny (model G.p G.w) A (pyIter x) Q E' s1) E' s
theorem sS(Fa:aB G A Φ){E:Expr->R}(GE:az G A env X ρ E){e:Expr}(ok:(lj κ E t e).1=true):DU G A env X ρ t e (lj κ E t e).2:=by
 have o3:=aG ok;have o1:=aG o3.1;have ht:=Bool.or_eq_true_iff.mp o3.2;have o2:=o1.2;intro O s S E' Q q;refine GE.ok e o1.1 O s S _ _ λu s1 k1 r1 => ?_
 have al:=(S.keeps (Kp.keep k1)).full
 change ∀it s',Keeps s s'->nj G A t (ak env X O) s (mL (E e).2).2 it s'->Q it s' at q
 generalize (E e).2=v at o2 ht q r1
 induction v using V.casesOn with
 |list l=>exact xf Fa.none al (ht.imp id λh=>(aG h).1) r1 λit s2 k2 h=>q it s2 (Kp.trans k1 k2) (h.from k1)
 |str x=>
  obtain⟨tk,rfl⟩:=am.str_iff.mp r1;exact y8 Fa.none al (ht.elim id λh=>ad (aG h).2) λit s2 k2 h=>q it s2 (Kp.trans k1 k2) (h.from k1)
 |_=>exact ad o2
theorem zb(Fa:aB G A Φ)(En:ao env κ){E:Expr->R}(GE:az G A env X ρ E){as:List Expr}{p pos:Pos}(ok:(yB κ E t (nm "range") as).1=true):DU G A env X ρ t (.Call (.Name "range" p) as [] pos) (yB κ E t (nm "range") as).2:=by
 have o4:=aG ok;have o3:=aG o4.1;have o1:=aG o3.1;intro O s S E' Q q;have pt:=bU GE pos o1.2;refine Call_Name rfl (cf Fa En o1.1 boot_range nofun S (bx (.inr ⟨_,rfl⟩) pt.1 (cT GE pos o1.2 O s S _ _ λus s1 k1 r1 => ?_)));refine sO o3.2 r1 λc s2 a b k t' u v k2 hr hok hv => ?_
 exact uX Fa.none k2 (S.keeps (Kp.keep k1)).full o4.2 hr hok λit s3 k3 h=>q it s3 (Kp.trans k1 (Kp.trans k2 k3)) ((congrArg (nj G A t (ak env X O) s · it s3) hv).mpr (h.from k1))
theorem wp{P:Addr->Prop}{h:Heap}{xs:List V}{us:List Value}(n:Nat.beq xs.length 1=true)(r:Reps G P h xs us):∃u,us=[u]/\am G P h (xs.getD 0 .none) u:=by
 induction xs using List.casesOn with
 |nil=>exact ad n
 |cons x xs=>induction xs using List.casesOn with
  |nil=>
   obtain⟨u,r',rfl,h1,h2⟩:=Reps.cons_iff.mp r;rw[Reps.nil_iff.mp h2];exact⟨u,rfl,h1⟩
  |cons _ _=>exact ad n
theorem zc{P:Addr->Prop}{h:Heap}{xs:List V}{us:List Value}(n:Nat.beq xs.length 2=true)(r:Reps G P h xs us):∃u v,us=[u,v]/\am G P h (xs.getD 0 .none) u/\am G P h (xs.getD 1 .none) v:=by
 induction xs using List.casesOn with
 |nil=>exact ad n
 |cons x xs=>
  obtain⟨u,r',rfl,h1,h2⟩:=Reps.cons_iff.mp r;obtain⟨v,rfl,h3⟩:=wp (xs:=xs) n h2;exact⟨u,v,rfl,h1,h3⟩
theorem zd(Fa:aB G A Φ)(En:ao env κ){E:Expr->R}(GE:az G A env X ρ E){as:List Expr}{p pos:Pos}(ok:(yC κ E t (nm "enumerate") as).1=true):DU G A env X ρ t (.Call (.Name "enumerate" p) as [] pos) (yC κ E t (nm "enumerate") as).2:=by
 have o5:=aG ok;have o4:=aG o5.1;have o3:=aG o4.1;have o1:=aG o3.1;intro O s S E' Q q;have pt:=bU GE pos o1.2;refine Call_Name rfl (cf Fa En o1.1 boot_enumerate nofun S (bx (.inr ⟨_,rfl⟩) pt.1 (cT GE pos o1.2 O s S _ _ λus s1 k1 r1 => ?_)));obtain⟨u,rfl,h1⟩:=wp o3.2 r1;rw[<-yM o4.2]at h1;exact xg Fa.none (S.keeps (Kp.keep k1)).full o5.2 h1 λit s2 k2 h=>q it s2 (Kp.trans k1 k2) (h.from k1)
theorem ze(Fa:aB G A Φ)(En:ao env κ){E:Expr->R}(GE:az G A env X ρ E){as:List Expr}{p pos:Pos}(ok:(sD κ E t (nm "zip") as).1=true):DU G A env X ρ t (.Call (.Name "zip" p) as [] pos) (sD κ E t (nm "zip") as).2:=by
 have o6:=aG ok;have o5:=aG o6.1;have o4:=aG o5.1;have o3:=aG o4.1;have o1:=aG o3.1;intro O s S E' Q q;have pt:=bU GE pos o1.2;refine Call_Name rfl (cf Fa En o1.1 boot_zip nofun S (bx (.inr ⟨_,rfl⟩) pt.1 (cT GE pos o1.2 O s S _ _ λus s1 k1 r1 => ?_)));obtain⟨u,v,rfl,h1,h2⟩:=zc o3.2 r1;rw[<-uO o4.2]at h1;rw[<-uO o5.2]at h2;exact za Fa.none (S.keeps (Kp.keep k1)).full o6.2 h1 h2 λit s2 k2 h=>q it s2 (Kp.trans k1 k2) (h.from k1)
noncomputable def CY(e:Expr)(x:Str×List Expr):Prop:=∃p pos,e = .Call (.Name x.1 p) x.2 [] pos
theorem ij{e:Expr}{x:Str×List Expr}(h:gx e=some x):CY e x:=by
 induction e using Expr.casesOn with
 |Call g bs kw pos=>induction g using Expr.casesOn with
  |Name g p=>induction kw using List.casesOn with
   |nil=>rw[<-Option.some.inj h];exact⟨p,pos,rfl⟩
   |cons _ _=>exact av h
  |_=>exact av h
 |_=>exact av h
theorem zf(Fa:aB G A Φ)(En:ao env κ){E:Expr->R}(GE:az G A env X ρ E){f:Str}{as:List Expr}{p pos:Pos}(ok:(v7 κ E t (.Call (.Name f p) as [] pos) (nm f) as).1=true):DU G A env X ρ t (.Call (.Name f p) as [] pos) (v7 κ E t (.Call (.Name f p) as [] pos) (nm f) as).2:=by
 unfold v7 at ok |-;generalize c1:ag (nm f) (nm "range")=b at ok |-
 induction b using Bool.casesOn with
 |true=>have ef:=ig c1;subst ef;exact zb Fa En GE ok
 |false=>
  generalize c2:ag (nm f) (nm "enumerate")=b at ok |-
  induction b using Bool.casesOn with
  |true=>have ef:=ig c2;subst ef;exact zd Fa En GE ok
  |false=>
   generalize c3:ag (nm f) (nm "zip")=b at ok |-
   induction b using Bool.casesOn with
   |true=>have ef:=ig c3;subst ef;exact ze Fa En GE ok
   |false=>exact sS (κ:=κ) Fa GE ok
theorem rk(Fa:aB G A Φ)(En:ao env κ){E:Expr->R}(GE:az G A env X ρ E){e:Expr}(ok:(aR κ E t e).1=true):DU G A env X ρ t e (aR κ E t e).2:=by
 unfold aR at ok |-;generalize h:gx e=o at ok |-
 induction o using Option.casesOn with
 |none=>exact sS (κ:=κ) Fa GE ok
 |some x=>
  obtain⟨f,as⟩:=x;obtain⟨p,pos,rfl⟩:=ij h;exact zf Fa En GE ok
end
end
section
open PySem PySem.W PySem.Calls PyProof.Rows
theorem fk(t:Slot)(x:Nm):∀(ρ:Rho) (y:Nm),(y=x->lk (put ρ x t) y=t\/lk (put ρ x t) y = .un)/\(y≠x->lk (put ρ x t) y=lk ρ y)
 |[],y=>⟨λ_ => .inr rfl,λ_=>rfl⟩
 |(z,s)::r,y=>by
  have ih:=fk t x r y;rw[yy];cases c:ag x z with
  |true=>
   have ez:=au.mp c;subst ez;simp only[cond_true];refine⟨λe => ?_,λe => ?_⟩
   ·subst e;left;rw[jg,au.mpr rfl];rfl
   ·have:ag y x=false:=by cases h:ag y x with
     |true=>exact absurd (au.mp h) e
     |false=>rfl
    rw[jg,jg,this];rfl
  |false=>
   simp only[cond_false];have hxz:x≠z:=λe=>by rw[au.mpr e]at c;cases c
   refine⟨λe => ?_,λe => ?_⟩
   ·subst e;rw[jg,c];exact ih.1 rfl
   ·rw[jg,jg]
    cases ag y z with
    |true=>rfl
    |false=>exact ih.2 e
noncomputable def upd(O:Nm->Option Addr)(x:Nm)(a:Option Addr):Nm->Option Addr:=λy=>if y=x then a else O y
section
variable {G:Cfg} {A:Around} {env:Env} {X:Addr->Prop} {κ:List (Str×NameKind)} {ρ:Rho} {O:Nm->Option Addr}
theorem cq.weaken{ρ':Rho}{h:Heap}(S:cq G env X O ρ h)(w:∀x,lk ρ' x = .un\/lk ρ' x=lk ρ x):cq G env X O ρ' h where
 old:=S.old
 new:=S.new
 alive:=S.alive
 look:=let⟨g,F,hg⟩:=S.look;⟨g,F,λx hx=>by
  rcases w (nm x)with e|e
  ·rw[e];trivial
  ·rw[e];exact hg x hx⟩
 inj:=S.inj
 apart:=S.apart
theorem uY {h0:Heap} {s:Shared} (S:cq G env X O ρ h0) (k:∀b o,h0.get? b=some o->s.heap.get? b=some o) (En:ao env κ) {x:Str} (hx:af (kd κ (nm x))=true) {t:Slot} {u:Value} {ox:Option Addr}
 (ha:∀a,ox=some a->h0.get? a=none/\∃o,s.heap.get? a=some o) (hs:gS G (ak env X (upd O (nm x) ox)) s.heap ox t (some u)) {E:Value->Shared->Prop} {Q:Unit->Shared->Prop}
 (q:∀h' tk,cq G env X (upd O (nm x) ox) (put ρ (nm x) t) h'->(∀b o,¬fX env x b->s.heap.get? b=some o->h'.get? b=some o)->(∀b o,s.heap.get? b=some o->∃o',h'.get? b=some o')->Q () { s with heap:=h',toks:=tk }):
 wpAny (model G.p G.w) A (storeName env x u) Q E s:=by
 obtain⟨g,F,hg⟩:=S.look;have hx':af (env.kindOf x)=true:=(En.names x).trans hx;have dead:∀a,ox=some a->∀b,ak env X O b->b≠a:=λa e b fb eb=>by
  subst eb;obtain⟨o,eo⟩:=S.alive b fb;rw[(ha b e).1]at eo;cases eo
 have full:∀b,ak env X (upd O (nm x) ox) b->ak env X O b\/ox=some b:=λb fb=>by
  rcases fb with h|h|⟨y,h⟩
  ·exact .inl (.inl h)
  ·exact .inl (.inr (.inl h))
  ·unfold upd at h
   split at h
   ·exact .inr h
   ·exact .inl (.inr (.inr ⟨y,h⟩))
 have sub:∀b,(∃o,h0.get? b=some o)->ak env X (upd O (nm x) ox) b->ak env X O b:=λb ⟨o,e⟩ fb=>by
  rcases full b fb with h|h
  ·exact h
  ·rw[(ha b h).1]at e;injections e
 refine lm En.kind (F.keeps k) hx' λh' tk c hc F' kc al=>q h' tk ?_ (λb o nb e=>kc b o (λe'=>nb (e'▸hc)) e) al
 have hcO:eF env c:=hc.own;have onAll:On (ak env X O) (ak env X (upd O (nm x) ox)) h0 h':=⟨λb o nb e=>kc b o (λe'=>nb (.inr (.inl (e'▸hcO)))) (k b o e),λb o e fb=>sub b ⟨o,e⟩ fb⟩;have vX:On (ak env X (upd O (nm x) ox)) (ak env X (upd O (nm x) ox)) s.heap h':=⟨λb o nb e=>kc b o (λe'=>nb (.inr (.inl (e'▸hcO)))) e,λ_ _ _ y=>y⟩;have cOld:∃o,h0.get? c=some o:=S.alive c (.inr (.inl hcO));refine⟨λb o e => ?_,λb fb => ?_,λb fb => ?_,⟨_,F',λy hy => ?_⟩,λy z a e e' => ?_,λy a e => ?_⟩
 ·refine kc b o (λe' => ?_) (k b o (S.old b o e))
  have:=S.new b (.inr (.inl (e'▸hcO)));rw[this]at e;injections e
 ·rcases full b fb with h|h
  ·exact S.new b h
  ·cases e:G.h0.get? b with
   |none=>rfl
   |some o=>have:=S.old b o e;rw[(ha b h).1]at this;injections this
 ·rcases full b fb with h|h
  ·obtain⟨o,e⟩:=S.alive b h;exact al b o (k b o e)
  ·obtain⟨o,e⟩:=(ha b h).2;exact al b o e
 ·by_cases ey:y=x
  ·subst ey
   rcases(fk t (nm y) ρ (nm y)).1 rfl with e|e
   ·rw[e,if_pos rfl]
    have:upd O (nm y) ox (nm y)=ox:=by unfold upd;rw[if_pos rfl]
    rw[this];refine hs.on vX λa ea o eo=>kc a o (λe' => ?_) eo
    obtain⟨o',e''⟩:=cOld;rw[<-e',(ha a ea).1]at e'';cases e''
   ·rw[e];trivial
  ·have ny:nm y≠nm x:=λe=>ey (cy e)
   rw[(fk t (nm x) ρ (nm y)).2 ny,if_neg ey];have:upd O (nm x) ox (nm y)=O (nm y):=by unfold upd;rw[if_neg ny]
   rw[this];refine(hg y hy).on onAll λa ea o eo=>kc a o (λe' => ?_) (k a o eo)
   exact(S.apart (nm y) a ea).2 (e'▸hcO)
 ·unfold upd at e e'
  by_cases e1:y=nm x<;>by_cases e2:z=nm x
  ·rw[e1,e2]
  ·rw[if_pos e1]at e;rw[if_neg e2]at e'
   exact absurd rfl (dead a e a (.inr (.inr ⟨z,e'⟩)))
  ·rw[if_neg e1]at e;rw[if_pos e2]at e'
   exact absurd rfl (dead a e' a (.inr (.inr ⟨y,e⟩)))
  ·rw[if_neg e1]at e;rw[if_neg e2]at e'
   exact S.inj y z a e e'
 ·unfold upd at e
  split at e
  ·exact⟨λh=>dead a e a (.inl h) rfl,λh=>dead a e a (.inr (.inl h)) rfl⟩
  ·exact S.apart y a e
theorem bE {s:Shared} (S:cq G env X O ρ s.heap) (En:ao env κ) {x:Str} (hx:af (kd κ (nm x))=true) {v:V} {u:Value} (r:am G (ak env X O) s.heap v u) {E:Value->Shared->Prop} {Q:Unit->Shared->Prop}
 (q:∀h' tk,cq G env X (upd O (nm x) none) (put ρ (nm x) (.val v)) h'->(∀b o,¬fX env x b->s.heap.get? b=some o->h'.get? b=some o)->(∀b o,s.heap.get? b=some o->∃o',h'.get? b=some o')->Q () { s with heap:=h',toks:=tk }):
 wpAny (model G.p G.w) A (storeName env x u) Q E s:=by
 refine uY (t := .val v) (ox:=none) S (λ_ _ e=>e) En hx (λa e=>by injections e) ⟨u,rfl,r.on ⟨λ_ _ _ e=>e,λb o _ fb => ?_⟩⟩ q
 rcases fb with h|h|⟨y,h⟩
 ·exact .inl h
 ·exact .inr (.inl h)
 ·unfold upd at h
  split at h
  ·injections h
  ·exact .inr (.inr ⟨y,h⟩)
noncomputable def dF(env:Env)(ns:List Nm)(s s':Shared):Prop:=
 ∃h tk,s'={ s with heap:=h,toks:=tk }/\(∀b o,(∀x,nm x∈ns->¬fX env x b)->s.heap.get? b=some o->h.get? b=some o)/\∀b o,s.heap.get? b=some o->∃o',h.get? b=some o'
theorem dF.refl(ns:List Nm)(s:Shared):dF env ns s s:=⟨s.heap,s.toks,rfl,λ_ _ _ e=>e,λb o e=>⟨o,e⟩⟩
theorem dF.of_keeps{ns:List Nm}{s s':Shared}(k:Keeps s s'):dF env ns s s':=by
 obtain⟨h,t,rfl,k⟩:=k;exact⟨h,t,rfl,λb o _ e=>k b o e,λb o e=>⟨o,k b o e⟩⟩
theorem dF.trans{ns ms ls:List Nm}{a b c:Shared}(x:dF env ns a b)(y:dF env ms b c)(h1:∀z,z∈ns->z∈ls)(h2:∀z,z∈ms->z∈ls):dF env ls a c:=by
 obtain⟨h,t,rfl,k,l⟩:=x;obtain⟨h',t',rfl,k',l'⟩:=y;refine⟨h',t',rfl,λb o n e=>k' b o (λz hz=>n z (h2 _ hz)) (k b o (λz hz=>n z (h1 _ hz)) e),λb o e => ?_⟩;obtain⟨o',e'⟩:=l b o e;exact l' b o' e'
noncomputable def jS(O:Nm->Option Addr)(ns:List Nm):Nm->Option Addr:=λy=>if y∈ns then none else O y
theorem sT(O:Nm->Option Addr):jS O []=O:=by funext y;simp[jS]
theorem pY(O:Nm->Option Addr)(x:Nm)(ns:List Nm):jS (upd O x none) ns=jS O (x::ns):=by
 funext y
 unfold jS upd
 by_cases h1:y∈ns
 ·simp[h1]
 ·by_cases h2:y=x
  ·simp[h2]
  ·simp[h1,h2]
theorem ak.upd{b:Addr}{ns:List Nm}(h:ak env X (jS O ns) b):ak env X O b:=by
 rcases h with h|h|⟨y,h⟩
 ·exact .inl h
 ·exact .inr (.inl h)
 ·unfold jS at h
  split at h
  ·injections h
  ·exact .inr (.inr ⟨y,h⟩)
theorem lw:∀{ts:List Expr} {vs:List V} {us:List Value} {O:Nm->Option Addr} {ρ:Rho} {s:Shared},(eU ts vs ρ).1=true->(∀x∈ts.filterMap nmT,af (kd κ x)=true) ->
 ao env κ->cq G env X O ρ s.heap->Reps G (ak env X O) s.heap vs us->∀(E:Value->Shared->Prop) (Q:Unit->Shared->Prop),
 (∀s',cq G env X (jS O (ts.filterMap nmT)) (eU ts vs ρ).2 s'.heap->dF env (ts.filterMap nmT) s s'->Q () s') ->
 wpAny (model G.p G.w) A (assignInOrder ((assignEach ts env).map (·.2)) us) Q E s
 |[],vs,us,O,ρ,s,ok,hx,En,S,r,E,Q,q=>by
  induction vs using List.casesOn with
  |nil=>
   rw[Reps.nil_iff.mp r];have:=q s (by rw[List.filterMap_nil,sT];exact S) (dF.refl _ s);exact wpAny_pure this
  |cons v vs=>injections ok
 |t::ts,vs,us,O,ρ,s,ok,hx,En,S,r,E,Q,q=>by
  induction t using Expr.casesOn with
  |Name x p=>
   induction vs using List.casesOn with
   |nil=>injections ok
   |cons v vs=>
    obtain⟨u,us',rfl,h1,h2⟩:=Reps.cons_iff.mp r;have ok':(eU ts vs (put ρ (nm x) (.val v))).1=true:=ok;have hx1:af (kd κ (nm x))=true:=hx _ (List.mem_cons_self ..);show wpAny _ A (assignInOrder (assign (.Name x p) env::(assignEach ts env).map (·.2)) (u::us')) Q E s;refine wpAny_assignInOrder_more (wpAny_assign_Name (bE S En hx1 h1 λh' tk S' k' al => ?_));have on:On (ak env X O) (ak env X (Mine.upd O (nm x) none)) s.heap h':=⟨λb o nb e=>k' b o (λpl=>nb (.inr (.inl pl.own))) e,λb o _ fb=>by
     rcases fb with h|h|⟨y,h⟩
     ·exact .inl h
     ·exact .inr (.inl h)
     ·unfold Mine.upd at h
      split at h
      ·injections h
      ·exact .inr (.inr ⟨y,h⟩)⟩
    refine lw (s:={ s with heap:=h',toks:=tk }) ok' (λy hy=>hx y (List.mem_cons_of_mem _ hy)) En S' (Reps.on on h2) E Q λs' S'' mv=>q s' ?_ ?_
    ·rw[mP]
     rw[pY]at S'';exact S''
    ·rw[mP]
     refine dF.trans (ns:=[nm x]) ⟨h',tk,rfl,λb o n e=>k' b o (n x (by simp)) e,al⟩ mv (λz hz => ?_) λz hz=>List.mem_cons_of_mem _ hz
     rw[List.mem_singleton.mp hz];exact List.mem_cons_self ..
  |_=>injections ok
theorem i8:∀{ts:List Expr} {vs:List V} {ρ:Rho},(eU ts vs ρ).1=true->(assignEach ts env).length=ts.length/\ts.length=vs.length/\(assignEach ts env).findIdx? (·.1)=none
 |[],vs,ρ,ok=>by
  induction vs using List.casesOn with
  |nil=>exact⟨rfl,rfl,rfl⟩
  |cons v vs=>injections ok
 |t::ts,vs,ρ,ok=>by
  induction t using Expr.casesOn with
  |Name x p=>
   induction vs using List.casesOn with
   |nil=>injections ok
   |cons v vs=>
    have ih:=i8 (ts:=ts) (vs:=vs) (ρ:=put ρ (nm x) (.val v)) ok;have e:assignEach (.Name x p::ts) env=(false,assign (.Name x p) env)::assignEach ts env:=rfl;rw[e];refine⟨by simp[ih.1],by simp[ih.2.1], ?_⟩;rw[List.findIdx?_cons,ih.2.2];rfl
  |_=>injections ok
theorem uZ (Fh:A.handled=none) (En:ao env κ) {t:Expr} {v:V} {u:Value} {s:Shared} (ok:(bh t v ρ).1=true) (hx:∀x∈aC t,af (kd κ x)=true) (S:cq G env X O ρ s.heap) (r:am G (ak env X O) s.heap v u)
 (E:Value->Shared->Prop) (Q:Unit->Shared->Prop) (q:∀s',cq G env X (jS O (aC t)) (bh t v ρ).2 s'.heap->dF env (aC t) s s'->Q () s'):wpAny (model G.p G.w) A (assign t env u) Q E s:=by
 induction t using Expr.casesOn with
 |Name x p=>
  refine wpAny_assign_Name (bE S En (hx _ (List.mem_cons_self ..)) r λh' tk S' k' al=>q _ ?_ ⟨h',tk,rfl,λb o n e=>k' b o (n x (List.mem_cons_self ..)) e,al⟩);have:jS O (aC (.Name x p))=upd O (nm x) none:=by
   rw[show aC (.Name x p)=[nm x]from rfl,<-pY,sT]
  rw[this];exact S'
 |Tuple ts k p=>
  induction v using V.casesOn with
  |tup vs=>
   have ok':(eU ts vs ρ).1=true:=ok;obtain⟨a,us,rfl,na,ht,rr⟩:=am.tup_iff.mp r;have pt:=i8 (env:=env) ok';refine wpAny_assign_Tuple Fh ht (by rw[pt.1,pt.2.1,rr.length,Array.length_toList]) pt.2.2 λh' he => ?_
   have kp:∀b o,s.heap.get? b=some o->h'.get? b=some o:=λb o e=>he b o (Nat.ne_of_lt (Heap.lt_size e)) e
   refine lw (s:={ s with heap:=h' }) ok' hx En (S.keeps kp) (Reps.on (On.of_keeps kp) rr) E Q λs' S' mv=>q s' S' ?_
   exact dF.trans (ns:=aC (.Tuple ts k p)) (dF.of_keeps (Kp.heap s.toks kp)) mv (λ_ h=>h) λ_ h=>h
  |_=>injections ok
 |_=>injections ok
end
end
section
open PySem PySem.W PySem.Calls PyProof.Rows
theorem bF:∀(κ:List (Str×NameKind)) (x:Str),kd κ (nm x)=κ.lookup x
 |[],x=>rfl
 |(y,k)::r,x=>by
  have ih:=bF r x;rw[Ft,List.lookup_cons,qN];cases x==y with
  |true=>rfl
  |false=>exact ih
theorem mem_iff:∀{l:List Nm} {x:Nm},Mine.jI x l=true↔x∈l
 |[],x=>⟨λh=>ad h,λh=>(List.not_mem_nil h).elim⟩
 |y::r,x=>by
  rw[D3,Bool.or_eq_true,au,mem_iff (l:=r),List.mem_cons]
theorem nodup_iff:∀{l:List Nm},dT l=true↔l.Nodup
 |[]=>⟨λ_ => .nil,λ_=>rfl⟩
 |y::r=>by
  rw[yE,Bool.and_eq_true,nodup_iff (l:=r),List.nodup_cons,Bool.not_eq_true',<-mem_iff,Bool.not_eq_true]
noncomputable def jq(names:List (Str×NameKind)):Prop:=(names.map λx=>nm x.1).Nodup
theorem jq.same{names:List (Str×NameKind)}(h:jq names){x:Str}{k k':NameKind}(h1:(x,k)∈names)(h2:(x,k')∈names):k=k':=by
 induction names with
 |nil=>injections h1
 |cons y r ih=>
  unfold jq at h;rw[List.map_cons,List.nodup_cons]at h
  rcases List.mem_cons.mp h1 with e1|h1<;>rcases List.mem_cons.mp h2 with e2|h2
  ·rw[<-e1]at e2;exact(Prod.mk.inj e2).2.symm
  ·exact absurd (List.mem_map.mpr ⟨_,h2,by rw[<-e1]⟩) h.1
  ·exact absurd (List.mem_map.mpr ⟨_,h1,by rw[<-e2]⟩) h.1
  ·exact ih h.2 h1 h2
theorem jq.lookup{names:List (Str×NameKind)}(h:jq names){x:Str}{k:NameKind}(h1:(x,k)∈names):names.lookup x=some k:=by
 have:∃k',names.lookup x=some k':=by
  clear h
  induction names with
  |nil=>injections h1
  |cons y r ih=>
   obtain⟨y,k0⟩:=y;rw[List.lookup_cons];cases e:x==y with
   |true=>exact⟨_,rfl⟩
   |false=>
    rcases List.mem_cons.mp h1 with e1|h1
    ·injection e1 with e1 e2;subst e1;simp at e
    ·exact ih h1
 obtain⟨k',e⟩:=this;rw[e,h.same (mem_of_lookup e) h1]
theorem dk{α:Type}:∀{l:List (Str×α)} {x:Str} {c:α},(x,c)∈l->∃c',l.lookup x=some c'
 |(y,d)::r,x,c,h=>by
  rw[List.lookup_cons];cases e:x==y with
  |true=>exact⟨_,rfl⟩
  |false=>
   rcases List.mem_cons.mp h with e1|h
   ·injection e1 with e1 e2;subst e1;simp at e
   ·exact dk h
noncomputable def gX(env:Env):List (Str×NameKind)->List (Str×Addr)->List (Str×Addr)
 |[],acc=>acc
 |(n,k)::r,acc=>if k == .free then gX env r ((n,(env.cells.lookup n).getD 0)::acc)else gX env r acc
theorem nk{env:Env}{n:Str}{k:NameKind}{r:List (Str×NameKind)}{acc:List (Str×Addr)}:gX env ((n,k)::r) acc=if k == .free then gX env r ((n,(env.cells.lookup n).getD 0)::acc)else gX env r acc:=rfl
theorem jr {env:Env} (f:Str×NameKind->List (Str×Addr)->Sem (ForInStep (List (Str×Addr))))
 (hf:∀name kind cs,f (name,kind) cs=if kind == .free then(do let a <-cellOf env name;pure (.yield ((name,a)::cs)))else pure (.yield cs)):
 ∀(names:List (Str×NameKind)) (acc:List (Str×Addr)),(∀n,(n,NameKind.free)∈names->∃c,env.cells.lookup n=some c)->forIn names acc f=pure (gX env names acc)
 |[],acc,_=>by rw[List.forIn_nil];rfl
 |(n,k)::r,acc,h=>by
  rw[List.forIn_cons,hf];rw[nk];cases hk:k==NameKind.free with
  |true=>
   simp only[if_true];have ek:k = .free:=eq_of_beq hk;subst ek;obtain⟨c,hc⟩:=h n (List.mem_cons_self ..);unfold cellOf;rw[hc];have:=jr f hf r ((n,c)::acc) (λm hm=>h m (List.mem_cons_of_mem _ hm));exact this
  |false=>
   simp only[Bool.false_eq_true,if_false];exact jr f hf r acc (λm hm=>h m (List.mem_cons_of_mem _ hm))
theorem u3{env:Env}{scope:Scope}(h:∀n,(n,NameKind.free)∈scope.names->∃c,env.cells.lookup n=some c):closureFor scope env=pure (gX env scope.names []):=by
 simp only[closureFor];rw[jr (env:=env) _ (λname kind cs=>by cases hk:kind==NameKind.free<;>simp) scope.names [] h]
 rfl
theorem et{env:Env}:∀{names:List (Str×NameKind)} {acc:List (Str×Addr)} {n:Str} {c:Addr},(∀n,(n,NameKind.free)∈names->∃c,env.cells.lookup n=some c)->(n,c)∈gX env names acc ->
 (n,c)∈acc\/((n,NameKind.free)∈names/\env.cells.lookup n=some c)
 |[],acc,n,c,_,h => .inl h
 |(m,k)::r,acc,n,c,hc,h=>by
  rw[nk]at h;cases hk:k==NameKind.free with
  |true=>
   rw[hk]at h;simp only[if_true]at h;have ek:k = .free:=eq_of_beq hk;subst ek
   rcases et (λm hm=>hc m (List.mem_cons_of_mem _ hm)) h with h|⟨h1,h2⟩
   ·rcases List.mem_cons.mp h with e|h
    ·injection e with e1 e2;subst e1
     obtain⟨d,hd⟩:=hc n (List.mem_cons_self ..);rw[hd]at e2;exact .inr ⟨List.mem_cons_self ..,by rw[hd,e2];rfl⟩
    ·exact .inl h
   ·exact .inr ⟨List.mem_cons_of_mem _ h1,h2⟩
  |false=>
   rw[hk]at h;simp only[Bool.false_eq_true,if_false]at h
   rcases et (λm hm=>hc m (List.mem_cons_of_mem _ hm)) h with h|⟨h1,h2⟩
   ·exact .inl h
   ·exact .inr ⟨List.mem_cons_of_mem _ h1,h2⟩
theorem kL{env:Env}:∀{names:List (Str×NameKind)} {acc:List (Str×Addr)} {x:Str×Addr},x∈acc->x∈gX env names acc
 |[],acc,x,h=>h
 |(m,k)::r,acc,x,h=>by
  rw[nk]
  split
  ·exact kL (List.mem_cons_of_mem _ h)
  ·exact kL h
theorem nn{env:Env}:∀{names:List (Str×NameKind)} {acc:List (Str×Addr)} {n:Str},(n,NameKind.free)∈names->∃c,(n,c)∈gX env names acc
 |(m,k)::r,acc,n,h=>by
  rw[nk]
  rcases List.mem_cons.mp h with e|h
  ·injection e with e1 e2;subst e1;subst e2
   exact⟨_,by rw[if_pos (by rfl)];exact kL (List.mem_cons_self ..)⟩
  ·split
   ·exact nn h
   ·exact nn h
theorem js{env:Env}(hp:env.cells.Pairwise λx y=>x.2≠y.2):∀{names:List (Str×NameKind)} {acc:List (Str×Addr)},(∀n,(n,NameKind.free)∈names->∃c,env.cells.lookup n=some c)->jq names ->
 (∀n c,(n,c)∈acc->env.cells.lookup n=some c/\∀k,(n,k)∉names)->acc.Pairwise (λx y=>x.2≠y.2)->(gX env names acc).Pairwise λx y=>x.2≠y.2
 |[],acc,_,_,_,h=>h
 |(m,k)::r,acc,hc,ho,ha,h=>by
  have ho':nm m∉r.map (λx=>nm x.1)/\jq r:=by
   unfold jq at ho;rw[List.map_cons,List.nodup_cons]at ho;exact ho
  rw[nk];cases hk:k==NameKind.free with
  |true=>
   simp only[if_true];have ek:k = .free:=eq_of_beq hk;subst ek;obtain⟨d,hd⟩:=hc m (List.mem_cons_self ..);rw[hd];refine js hp (λm hm=>hc m (List.mem_cons_of_mem _ hm)) ho'.2 (λn c hn => ?_) (List.pairwise_cons.mpr ⟨λy hy e => ?_,h⟩)
   ·rcases List.mem_cons.mp hn with e|hn
    ·injection e with e1 e2;subst e1
     exact⟨by rw[hd,e2];rfl,λk hk=>ho'.1 (List.mem_map.mpr ⟨_,hk,rfl⟩)⟩
    ·exact⟨(ha n c hn).1,λk hk=>(ha n c hn).2 k (List.mem_cons_of_mem _ hk)⟩
   ·obtain⟨n,c⟩:=y
    have e:d=c:=e;have:=name_of_addr hp (mem_of_lookup hd) (e▸mem_of_lookup (ha n c hy).1);subst this;exact(ha m c hy).2 _ (List.mem_cons_self ..)
  |false=>
   simp only[Bool.false_eq_true,if_false];exact js hp (λm hm=>hc m (List.mem_cons_of_mem _ hm)) ho'.2 (λn c hn=>⟨(ha n c hn).1,λk hk=>(ha n c hn).2 k (List.mem_cons_of_mem _ hk)⟩) h
theorem bO:∀{names:List (Str×NameKind)} {h:Heap} {acc:List (Str×Addr)} {n:Str} {c:Addr},(n,c)∈cellsFrom h.objs.size names acc ->
 (n,c)∈acc\/((n,NameKind.cell)∈names/\h.objs.size<=c/\(pushCells h names).IsCell c none)
 |[],h,acc,n,c,m => .inl m
 |(x,k)::r,h,acc,n,c,m=>by
  unfold cellsFrom at m;cases hk:k==NameKind.cell with
  |true=>
   rw[hk]at m;simp only[if_true]at m;have ek:k = .cell:=eq_of_beq hk;subst ek;have e1:h.objs.size+1=(h.push { cls := .type "cell",data := .cell none }).objs.size:=(Heap.size_push ..).symm;rw[e1]at m;have pc:pushCells h ((x, .cell)::r)=pushCells (h.push { cls := .type "cell",data := .cell none }) r:=rfl
   rcases bO m with m|⟨m1,m2,m3⟩
   ·rcases List.mem_cons.mp m with e|m
    ·injection e with e1 e2;subst e1;subst e2
     refine .inr ⟨List.mem_cons_self ..,Nat.le_refl _, ?_⟩;rw[pc];exact⟨_,pushCells_keeps _ _ _ _ (Heap.get?_push_size _ rfl),rfl⟩
    ·exact .inl m
   ·exact .inr ⟨List.mem_cons_of_mem _ m1,by rw[<-e1]at m2;omega,by rw[pc];exact m3⟩
  |false=>
   rw[hk]at m;simp only[Bool.false_eq_true,if_false]at m;have pc:pushCells h ((x,k)::r)=pushCells h r:=by
    show(if(k==NameKind.cell)=true then pushCells (h.push { cls := .type "cell",data := .cell none }) r else pushCells h r)=_;rw[if_neg (by rw[hk];exact Bool.false_ne_true)]
   rcases bO m with m|⟨m1,m2,m3⟩
   ·exact .inl m
   ·exact .inr ⟨List.mem_cons_of_mem _ m1,m2,by rw[pc];exact m3⟩
theorem dG:∀{names:List (Str×NameKind)} {n:Nat} {acc:List (Str×Addr)} {x:Str×Addr},x∈acc->x∈cellsFrom n names acc
 |[],n,acc,x,h=>h
 |(m,k)::r,n,acc,x,h=>by
  unfold cellsFrom
  split
  ·exact dG (List.mem_cons_of_mem _ h)
  ·exact dG h
theorem bP:∀{names:List (Str×NameKind)} {n:Nat} {acc:List (Str×Addr)} {x:Str},(x,NameKind.cell)∈names->∃c,(x,c)∈cellsFrom n names acc
 |(m,k)::r,n,acc,x,h=>by
  unfold cellsFrom
  rcases List.mem_cons.mp h with e|h
  ·injection e with e1 e2;subst e1;subst e2
   exact⟨n,by rw[if_pos (by rfl)];exact dG (List.mem_cons_self ..)⟩
  ·split
   ·exact bP h
   ·exact bP h
theorem eG:∀{names:List (Str×NameKind)} {n:Nat} {acc:List (Str×Addr)},(∀x∈acc,x.2<n)->acc.Pairwise (λx y=>x.2≠y.2)->(cellsFrom n names acc).Pairwise λx y=>x.2≠y.2
 |[],n,acc,_,h=>h
 |(m,k)::r,n,acc,ha,h=>by
  unfold cellsFrom
  split
  ·refine eG (λx hx => ?_) (List.pairwise_cons.mpr ⟨λy hy e => ?_,h⟩)
   ·rcases List.mem_cons.mp hx with e|hx
    ·rw[e];exact Nat.lt_succ_self n
    ·exact Nat.lt_succ_of_lt (ha x hx)
   ·have e:n=y.2:=e
    exact Nat.lt_irrefl _ (e▸ha y hy:n<n)
  ·exact eG ha h
theorem ik{env:Env}:∀{names:List (Str×NameKind)} {x:Str},
 (names.map λ(n,k)=>if(k==NameKind.free&&env.scope.kind == .function&&env.kindOf n==some .cell)then(n,NameKind.cell)else(n,k)).lookup x =
   (names.lookup x).map λk=>if(k==NameKind.free&&env.scope.kind == .function&&env.kindOf x==some .cell)then NameKind.cell else k
 |[],x=>rfl
 |(n,k)::r,x=>by
  have ih := @ik env r x;show List.lookup x ((if(k==NameKind.free&&env.scope.kind == .function&&env.kindOf n==some .cell)=true then(n,NameKind.cell)else(n,k))::_)=_
  by_cases hc:(k==NameKind.free&&env.scope.kind == .function&&env.kindOf n==some .cell)=true
  ·rw[if_pos hc,List.lookup_cons,List.lookup_cons]
   cases e:x==n with
   |true=>
    have en:x=n:=eq_of_beq e;subst en;simp only[Option.map_some,if_pos hc]
   |false=>exact ih
  ·rw[if_neg hc,List.lookup_cons,List.lookup_cons]
   cases e:x==n with
   |true=>
    have en:x=n:=eq_of_beq e;subst en;simp only[Option.map_some,if_neg hc]
   |false=>exact ih
section
variable {G:Cfg} {A:Around} {env:Env} {X:Addr->Prop} {κ:List (Str×NameKind)} {ρ:Rho} {O:Nm->Option Addr} {scope:Scope}
structure iP(κ:List (Str×NameKind))(scope:Scope):Prop where
 kind:scope.kind = .function
 once:jq scope.names
 plain:∀x k,(x,k)∈scope.names->(x==("__debug__":Str))=false/\(x==("__classdict__":Str))=false
 free:∀x,(x,NameKind.free)∈scope.names->jh (kd κ (nm x))=true
theorem nq(h:d5 κ scope=true):iP κ scope:=by
 unfold d5 at h;simp only[Bool.and_eq_true]at h;obtain⟨⟨⟨h1,h2⟩,h3⟩,h4⟩:=h;refine⟨?_,nodup_iff.mp h2,λx k hx => ?_,λx hx => ?_⟩
 ·cases hk:scope.kind<;>first|rfl|(rw[hk]at h1;injections h1)
 ·have:=List.all_eq_true.mp h3 _ hx
  simp only[Bool.and_eq_true,Bool.not_eq_true',qN]at this;exact this
 ·have:=List.all_eq_true.mp h4 _ hx
  exact this
theorem u4{names:List (Str×NameKind)}{f:NameKind->Nm->Slot}:∀{x:Str},lk (names.map λy=>(nm y.1,f y.2 (nm y.1))) (nm x)=match names.lookup x with|some k=>f k (nm x)|none => .un:=by
 induction names with
 |nil=>intro x;rfl
 |cons y r ih=>
  obtain⟨y,k⟩:=y;intro x;rw[List.map_cons];rw[jg,List.lookup_cons,qN];cases e:x==y with
  |true=>rw[eq_of_beq e];rfl
  |false=>exact ih
theorem nr{x:Str}:lk (bA scope ρ) (nm x)=match scope.names.lookup x with|some .free=>v8 (lk ρ (nm x))|_ => .un:=by
 have:=u4 (names:=scope.names) (f:=λk n=>match k with| .free=>v8 (lk ρ n)|_ => .un) (x:=x);unfold bA;refine(congrArg (λl=>lk l (nm x)) (List.map_congr_left λy _ => ?_)).trans (this.trans ?_)
 ·rfl
 ·cases scope.names.lookup x with
  |none=>rfl
  |some k=>induction k using NameKind.casesOn<;>rfl
theorem zg{env:Env}{x:Str}(k:NameKind):∃k',(if(k==NameKind.free&&env.scope.kind == .function&&env.kindOf x==some .cell)then NameKind.cell else k)=k'/\af (some k')=af (some k)/\jh (some k')=jh (some k)/\aO (some k')=aO (some k):=by
 by_cases hc:(k==NameKind.free&&env.scope.kind == .function&&env.kindOf x==some .cell)=true
 ·rw[if_pos hc]
  simp only[Bool.and_eq_true]at hc;have ek:k = .free:=eq_of_beq hc.1.1;subst ek;exact⟨_,rfl,rfl,rfl,rfl⟩
 ·rw[if_neg hc]
  exact⟨_,rfl,rfl,rfl,rfl⟩
noncomputable def f0(scope:Scope)(env:Env)(C:Addr):Env:=compEnvC scope (cellsFrom (C+1) scope.names (gX env scope.names [])) C env
theorem dU(x:Str):(f0 scope env C).kindOf x=(scope.names.lookup x).map λk=>if(k==NameKind.free&&env.scope.kind == .function&&env.kindOf x==some .cell)then NameKind.cell else k:=ik
theorem zh(Ok:iP κ scope)(En:ao env κ)(C:Addr):ao (f0 scope env C) scope.names where
 kind:=Ok.kind
 names:=λx=>by
  rw[dU,bF];cases scope.names.lookup x with
  |none=>rfl
  |some k=>obtain⟨k',e,h1,h2,h3⟩:=zg (env:=env) (x:=x) k;simp only[Option.map_some];rw[e];exact h1
 free:=λx=>by
  rw[dU,bF];cases scope.names.lookup x with
  |none=>rfl
  |some k=>obtain⟨k',e,h1,h2,h3⟩:=zg (env:=env) (x:=x) k;simp only[Option.map_some];rw[e];exact h2
 glob:=λx=>by
  rw[dU,bF];cases scope.names.lookup x with
  |none=>rfl
  |some k=>obtain⟨k',e,h1,h2,h3⟩:=zg (env:=env) (x:=x) k;simp only[Option.map_some];rw[e];exact h3
 plain:=λx h=>by
  rw[dU]at h;cases e:scope.names.lookup x with
  |none=>rw[e]at h;injections h
  |some k=>exact Ok.plain x k (mem_of_lookup e)
 globals:=En.globals
 builtins:=En.builtins
theorem nu(Ok:iP κ scope)(En:ao env κ){g:Str->Option Value}{h:Heap}(F:cG env h g):∀n,(n,NameKind.free)∈scope.names->∃c,env.cells.lookup n=some c/\h.IsCell c (g n):=
 λn hn=>F.cell n ((En.free n).trans (Ok.free n hn))
theorem kM(hc:∀n,(n,NameKind.free)∈scope.names->∃c,env.cells.lookup n=some c){h:Heap}{b:Addr}(hb:eF (f0 scope env h.objs.size) b):
 b=h.objs.size\/h.objs.size+1<=b\/eF env b:=by
 rcases hb with e|⟨x,m⟩
 ·exact .inl e
 ·have e1:h.objs.size+1=(h.push { cls := .type "dict",data := .dict #[] }).objs.size:=(Heap.size_push ..).symm
  change (x,b)∈cellsFrom (h.objs.size+1) scope.names (gX env scope.names [])at m
  rw[e1]at m
  rcases bO m with m|⟨_,m2,_⟩
  ·rcases et hc m with m|⟨_,m⟩
   ·cases m
   ·exact .inr (.inr (.inr ⟨x,mem_of_lookup m⟩))
  ·exact .inr (.inl (by rw[e1];exact m2))
theorem CZ(Ok:iP κ scope)(En:ao env κ){h0 h:Heap}(S:cq G env X O ρ h0)(k:∀b o,h0.get? b=some o->h.get? b=some o){Z:Addr->Prop}(hz:∀b,Z b->h0.get? b=none/\∃o,h.get? b=some o):
 cq G (f0 scope env h.objs.size) (λb=>ak env X O b\/Z b) (λ_=>none) (bA scope ρ) (pushCells (h.push { cls := .type "dict",data := .dict #[] }) scope.names):=by
 obtain⟨g,F,hg⟩:=S.look;have hc':=nu Ok En F;have hc:∀n,(n,NameKind.free)∈scope.names->∃c,env.cells.lookup n=some c:=λn hn=>let⟨c,e,_⟩:=hc' n hn;⟨c,e⟩
 have kp:∀b o,h.get? b=some o->(pushCells (h.push { cls := .type "dict",data := .dict #[] }) scope.names).get? b=some o:=λb o e=>pushCells_keeps _ _ _ _ (Heap.get?_push_of_some _ e)
 have e1:h.objs.size+1=(h.push { cls := .type "dict",data := .dict #[] }).objs.size:=(Heap.size_push ..).symm;have full:∀b,ak (f0 scope env h.objs.size) (λb=>ak env X O b\/Z b) (λ_=>none) b->ak env X O b\/Z b\/(h.objs.size<=b):=λb fb=>by
  rcases fb with(fb|fb)|fb|⟨y,fb⟩
  ·exact .inl fb
  ·exact .inr (.inl fb)
  ·rcases kM hc fb with e|e|e
   ·exact .inr (.inr (by rw[e];exact Nat.le_refl _))
   ·exact .inr (.inr ⋯)
   ·exact .inl (.inr (.inl e))
  ·cases fb
 have none0:∀b,h0.get? b=none->G.h0.get? b=none:=λb e=>by
  cases e':G.h0.get? b with
  |none=>rfl
  |some o=>have:=S.old b o e';rw[e]at this;injections this
 have above:∀b,h.objs.size<=b->h0.get? b=none:=λb hb=>by
  cases e:h0.get? b with
  |none=>rfl
  |some o=>exact absurd (Heap.lt_size (k b o e)) (Nat.not_lt.mpr hb)
 have on:On (ak env X O) (ak (f0 scope env h.objs.size) (λb=>ak env X O b\/Z b) (λ_=>none)) h0 (pushCells (h.push { cls := .type "dict",data := .dict #[] }) scope.names):=
  ⟨λb o _ e=>kp b o (k b o e),λb o e fb=>by
    rcases full b fb with h1|h1|h1
    ·exact h1
    ·rw[(hz b h1).1]at e;injections e
    ·rw[above b h1]at e;cases e⟩
 refine⟨λb o e=>kp b o (k b o (S.old b o e)),λb fb => ?_,λb fb => ?_,⟨λx=>if scope.names.lookup x=some .free then g x else none,⟨⟨_,(Heap.Ns.new h (.type "dict")).keeps (pushCells_keeps _ _),λx hx => ?_⟩,λx hx => ?_, ?_⟩,λx hx => ?_⟩,λx y a e _=>(nomatch e),λx a e=>(nomatch e)⟩
 ·rcases full b fb with h1|h1|h1
  ·exact S.new b h1
  ·exact none0 b (hz b h1).1
  ·exact none0 b (above b h1)
 ·rcases fb with(fb|fb)|fb|⟨y,fb⟩
  ·obtain⟨o,e⟩:=S.alive b fb;exact⟨o,kp b o (k b o e)⟩
  ·obtain⟨o,e⟩:=(hz b fb).2;exact⟨o,kp b o e⟩
  ·rcases fb with e|⟨x,m⟩
   ·exact⟨_,by rw[e];exact pushCells_keeps _ _ _ _ (Heap.get?_push_size _ rfl)⟩
   ·change (x,b)∈cellsFrom (h.objs.size+1) scope.names (gX env scope.names [])at m
    rw[e1]at m
    rcases bO m with m|⟨_,_,o,e,_⟩
    ·rcases et hc m with m|⟨_,m⟩
     ·cases m
     ·obtain⟨o,e⟩:=S.alive b (.inr (.inl (.inr ⟨x,mem_of_lookup m⟩)))
      exact⟨o,kp b o (k b o e)⟩
    ·exact⟨o,e⟩
  ·cases fb
 ·rw[dU]at hx
  split
  ·rename_i e
   rw[e]at hx;simp only[Option.map_some,Option.some.injEq]at hx
   split at hx<;>injections hx
  ·rfl
 ·rw[dU]at hx
  cases e:scope.names.lookup x with
  |none=>rw[e]at hx;injections hx
  |some kk=>
   rw[e]at hx;simp only[Option.map_some]at hx;have hmem:=mem_of_lookup e;have look:∀c,(x,c)∈cellsFrom (h.objs.size+1) scope.names (gX env scope.names [])->∃c',(f0 scope env h.objs.size).cells.lookup x=some c'/\(x,c')∈cellsFrom (h.objs.size+1) scope.names (gX env scope.names []):=λc hcm=>by
    obtain⟨c',ec⟩:=dk hcm;exact⟨c',ec,mem_of_lookup ec⟩
   have cases2:kk = .free\/kk = .cell:=by
    induction kk using NameKind.casesOn<;>first|exact .inl rfl|exact .inr rfl|exact ad hx
   rcases cases2 with rfl|rfl
   ·obtain⟨c,hcm⟩:=nn (env:=env) (acc:=[]) hmem
    obtain⟨c',l1,l2⟩:=look c (dG hcm);refine⟨c',l1, ?_⟩;rw[if_pos rfl];rw[e1]at l2
    rcases bO l2 with m|⟨m,_⟩
    ·rcases et hc m with m|⟨_,m⟩
     ·cases m
     ·obtain⟨c2,e2,hv⟩:=hc' x hmem
      rw[m]at e2;injections e2;exact(hv.keeps k).keeps kp
    ·have:=Ok.once.same hmem m;injections this
   ·obtain⟨c,hcm⟩:=bP (n:=h.objs.size+1) (acc:=gX env scope.names []) hmem
    obtain⟨c',l1,l2⟩:=look c hcm;refine⟨c',l1, ?_⟩;rw[if_neg (by rintro⟨⟩)];rw[e1]at l2
    rcases bO l2 with m|⟨_,_,m⟩
    ·rcases et hc m with m|⟨m,_⟩
     ·cases m
     ·have:=Ok.once.same hmem m;injections this
    ·exact m
 ·refine eG (λx hx => ?_) (js F.apart hc Ok.once (λn c hn=>by injections hn) List.Pairwise.nil)
  obtain⟨n,c⟩:=x
  rcases et hc hx with m|⟨_,m⟩
  ·cases m
  ·obtain⟨o,e⟩:=S.alive c (.inr (.inl (.inr ⟨n,mem_of_lookup m⟩)))
   exact Nat.lt_succ_of_lt (Heap.lt_size (k c o e))
 ·rw[nr]
  cases e:scope.names.lookup x with
  |none=>trivial
  |some kk=>
   induction kk using NameKind.casesOn with
   |free=>
    have hfr:=Ok.free x (mem_of_lookup e);have hn:af (env.kindOf x)=true:=by
     rw[En.names];cases hk:kd κ (nm x)with
     |none=>rw[hk]at hfr;cases hfr
     |some k'=>rw[hk]at hfr;induction k' using NameKind.casesOn<;>first|rfl|cases hfr
    have:=hg x hn;show gS G _ _ none (v8 (lk ρ (nm x))) (if scope.names.lookup x=some .free then g x else none);rw[if_pos e];cases hl:lk ρ (nm x)with
    |un=>trivial
    |own l=>trivial
    |val v=>
     rw[hl]at this;exact gS.on on (λa e=>by injections e) (show gS G (ak env X O) h0 none (.val v) (g x)from this)
   |_=>trivial
theorem sU {M:Model} {A:Around} {E:Value->Shared->Prop} {s:Shared} {cl:List (Str×Addr)} {qual:Str} {Q:Env->Shared->Prop}
 (h:Q { scope,locals:=s.heap.objs.size,globals:=env.globals,cells:=cellsFrom (s.heap.objs.size+1) scope.names cl,qual,func:=none,code:=env.code,frame:=env.frame,builtins:=env.builtins }
   { s with heap:=pushCells (s.heap.push { cls := .type "dict",data := .dict #[] }) scope.names }):
 wpAny M A (newFunctionEnv scope env.globals cl [] qual none .none (some env)) Q E s:=by
 simp only[newFunctionEnv,Option.isSome_some,if_true];refine wpAny_bind (wpAny_alloc ?_);refine wpAny_bind (wpAny_layCells _ (λname kind cells=>by cases hkc:kind==NameKind.cell<;>simp) _ _ _ _ ?_);rw[show({ s with heap:=s.heap.push { cls := .type "dict",data := .dict #[] } }:Shared).heap.objs.size=s.heap.objs.size+1 from Heap.size_push ..];exact wpAny_bind (wpAny_pure (wpAny_pure h))
end
end
section
open PySem PySem.W PySem.Calls PyProof.Rows
section
variable {G:Cfg} {A:Around} {env:Env} {X:Addr->Prop} {κ:List (Str×NameKind)} {ρ:Rho} {O:Nm->Option Addr}
theorem cq.skip{h h':Heap}{Z:Addr->Prop}(S:cq G env X O ρ h)(hz:∀b,Z b->X b)(hzO:∀b,eF env b->¬Z b)(k:∀b o,¬Z b->h.get? b=some o->h'.get? b=some o)(al:∀b,Z b->∃o,h'.get? b=some o):cq G env X O ρ h' where
 old:=λb o e=>k b o (λz=>by have:=S.new b (.inl (hz b z));have e2:=e;rw[this]at e2;injections e2) (S.old b o e)
 new:=S.new
 alive:=λb fb=>by
  by_cases z:Z b
  ·exact al b z
  ·obtain⟨o,e⟩:=S.alive b fb;exact⟨o,k b o z e⟩
 look:=by
  obtain⟨g,F,hg⟩:=S.look;refine⟨g,⟨let⟨m,⟨o,es,ep,e,r⟩,hm⟩:=F.ns;⟨m,⟨o,es,ep,k _ _ (hzO _ (.inl rfl)) e,r⟩,hm⟩,λx hx => ?_,F.apart⟩,λx hx=>(hg x hx).on ⟨λb o nb e=>k b o (λz=>nb (.inl (hz b z))) e,λ_ _ _ y=>y⟩ λa ea o eo=>k a o (λz=>(S.apart _ a ea).1 (hz a z)) eo⟩;obtain⟨c,hc,o,e,r⟩:=F.cell x hx;exact⟨c,hc,o,k _ _ (hzO _ (.inr ⟨x,mem_of_lookup hc⟩)) e,r⟩
 inj:=S.inj
 apart:=S.apart
theorem cq.less{h h':Heap}{Z X':Addr->Prop}(S:cq G env X O ρ h)(hz:∀b,Z b->X b)(hX:∀b,X' b->X b/\¬Z b)(hzO:∀b,eF env b->¬Z b)(k:∀b o,¬Z b->h.get? b=some o->h'.get? b=some o):cq G env X' O ρ h':=by
 have full:∀b,ak env X' O b->ak env X O b/\¬Z b:=λb fb=>by
  rcases fb with f|f|⟨y,f⟩
  ·exact⟨.inl (hX b f).1,(hX b f).2⟩
  ·exact⟨.inr (.inl f),hzO b f⟩
  ·exact⟨.inr (.inr ⟨y,f⟩),λz=>(S.apart y b f).1 (hz b z)⟩
 refine⟨λb o e=>k b o (λz=>by have:=S.new b (.inl (hz b z));have e2:=e;rw[this]at e2;injections e2) (S.old b o e),λb fb=>S.new b (full b fb).1,λb fb => ?_, ?_,S.inj,λx a e=>⟨λh=>(S.apart x a e).1 (hX a h).1,(S.apart x a e).2⟩⟩
 ·obtain⟨o,e⟩:=S.alive b (full b fb).1;exact⟨o,k b o (full b fb).2 e⟩
 ·obtain⟨g,F,hg⟩:=S.look
  refine⟨g,⟨let⟨m,⟨o,es,ep,e,r⟩,hm⟩:=F.ns;⟨m,⟨o,es,ep,k _ _ (hzO _ (.inl rfl)) e,r⟩,hm⟩,λx hx => ?_,F.apart⟩,λx hx=>(hg x hx).on ⟨λb o nb e=>k b o (λz=>nb (.inl (hz b z))) e,λb o _ fb=>(full b fb).1⟩ λa ea o eo=>k a o (λz=>(S.apart _ a ea).1 (hz a z)) eo⟩;obtain⟨c,hc,o,e,r⟩:=F.cell x hx;exact⟨c,hc,o,k _ _ (hzO _ (.inr ⟨x,mem_of_lookup hc⟩)) e,r⟩
theorem lx(env:Env):∀ifs:List Expr,(forIn ifs false λc r=>if r=true then do let ok <-isTrue c env (eval c env);pure (ForInStep.yield ok)else pure (ForInStep.yield r))=(pure false:Sem Bool)
 |[]=>rfl
 |c::r=>by
  rw[List.forIn_cons];simp only[Bool.false_eq_true,if_false];exact lx env r
theorem sV{E:Expr->R}(GT:i7 G A env X ρ E):∀{ifs:List Expr},(eE E ifs).1=true->∀O s,cq G env X O ρ s.heap->∀(E':Value->Shared->Prop) (Q:Bool->Shared->Prop),(∀s',Keeps s s'->Q (eE E ifs).2 s') ->
 wpAny (model G.p G.w) A (forIn ifs true λc r=>if r=true then do let ok <-isTrue c env (eval c env);pure (ForInStep.yield ok)else pure (ForInStep.yield r)) Q E' s
 |[],_,O,s,S,E',Q,q=>wpAny_pure (q s (Kp.refl s))
 |c::r,ok,O,s,S,E',Q,q=>by
  rw[yD]at ok q;have o1:=(aG (aG ok).1).1;have o2:=(aG (aG ok).1).2;have o3:=(aG ok).2;dsimp only at q;rw[List.forIn_cons];simp only[if_true];refine wpAny_bind (wpAny_bind (GT.ok c o1 o2 O s S _ _ λs1 k1=>wpAny_pure ?_));cases hc:(aa (E c).2).2 with
  |true=>
   rw[hc]at o3 q;simp only[cond_true,Bool.true_and]at o3 q;exact sV GT o3 O s1 (S.keeps (Kp.keep k1)) E' Q λs2 k2=>q s2 (Kp.trans k1 k2)
  |false=>
   rw[hc]at q;simp only[Bool.false_and]at q;show wpAny _ A (forIn r false _) Q E' s1;rw[lx];exact wpAny_pure (q s1 k1)
end
noncomputable abbrev O0:Nm->Option Addr:=λ_=>none
structure l6(G:Cfg)(A:Around)(cv:Env)(κ:List (Str×NameKind))(Y:Addr->Prop)(ρ0:Rho)(t:Expr)(ns:List Nm)(it:Value)(acc:Addr)(fp wr:List Addr)(xs:List V)(St:Nat->Heap->Prop)(X0:Addr->Prop)(hp:Heap)(s0:Shared):Prop where
 env:ao cv κ
 tg:∀x∈aC t,x∈ns/\af (kd κ x)=true/\lk ρ0 x = .un
 it:It G A t X0 hp it fp wr xs St
 hwr:∀b∈wr,Y b
 hacc:Y acc
 own:∀b,eF cv b->b≠acc/\b∉wr
 fpAcc:acc∉fp
 fpPl:∀x,nm x∈ns->∀b∈fp,¬fX cv x b
 on:On X0 (ak cv Y O0) hp s0.heap
structure JE(G:Cfg)(cv:Env)(Y:Addr->Prop)(ns:List Nm)(acc:Addr)(wr:List Addr)(s0:Shared)(ρ:Rho)(res:List V)(s:Shared):Prop where
 same:∃h tk,s={ s0 with heap:=h,toks:=tk }
 keep:∀b o,b≠acc->b∉wr->(∀x,nm x∈ns->¬fX cv x b)->s0.heap.get? b=some o->s.heap.get? b=some o
 live:∀b o,b∉wr->s0.heap.get? b=some o->∃o',s.heap.get? b=some o'
 sta:cq G cv Y O0 ρ s.heap
 lst:∃us m,s.heap.get? acc=some { cls := .type "list",data := .seq us m }/\Reps G (ak cv Y O0) s.heap res us.toList
section
variable {G:Cfg} {A:Around} {cv:Env} {Y:Addr->Prop} {κ:List (Str×NameKind)} {ρ ρ0:Rho} {t:Expr} {ns:List Nm} {it:Value} {acc:Addr} {fp wr:List Addr} {xs:List V} {St:Nat->Heap->Prop} {X0:Addr->Prop} {hp:Heap} {s0 s:Shared} {res:List V}
theorem JE.keeps{s':Shared}(J:JE G cv Y ns acc wr s0 ρ res s)(k:Keeps s s'):JE G cv Y ns acc wr s0 ρ res s':=by
 have kk:=Kp.keep k;obtain⟨h,tk,rfl⟩:=J.same;obtain⟨h',tk',rfl,_⟩:=k;refine⟨⟨h',tk',rfl⟩,λb o n1 n2 n3 e=>kk b o (J.keep b o n1 n2 n3 e),λb o nw e => ?_,J.sta.keeps kk, ?_⟩
 ·obtain⟨o',e'⟩:=J.live b o nw e;exact⟨o',kk b o' e'⟩
 ·obtain⟨us,m,e,r⟩:=J.lst;exact⟨us,m,kk _ _ e,Reps.on (On.of_keeps kk) r⟩
theorem wq:∀{ts:List Expr} {vs:List V} {ρ:Rho} {y:Nm},y∉ts.filterMap nmT->lk (eU ts vs ρ).2 y=lk ρ y
 |[],[],ρ,y,_=>rfl
 |[],_::_,ρ,y,_=>rfl
 |t::ts,vs,ρ,y,h=>by
  induction t using Expr.casesOn with
  |Name x p=>
   induction vs using List.casesOn with
   |nil=>rfl
   |cons v vs=>
    have h':y≠nm x/\y∉ts.filterMap nmT:=not_or.mp (mt List.mem_cons.mpr h);show lk (eU ts vs (put ρ (nm x) (.val v))).2 y=_;rw[wq h'.2];exact(fk _ _ ρ y).2 h'.1
  |_=>rfl
theorem zi{v:V}{y:Nm}(h:y∉aC t):lk (bh t v ρ).2 y=lk ρ y:=by
 induction t using Expr.casesOn with
 |Name x p=>exact(fk _ _ ρ y).2 (mt List.mem_singleton.mpr h)
 |Tuple ts k p=>induction v using V.casesOn with
  |tup vs=>exact wq h
  |_=>rfl
 |_=>rfl
theorem JE.back{v:V}(C:l6 G A cv κ Y ρ0 t ns it acc fp wr xs St X0 hp s0)(J:JE G cv Y ns acc wr s0 (bh t v ρ0).2 res s):JE G cv Y ns acc wr s0 ρ0 res s:=
 ⟨J.same,J.keep,J.live,J.sta.weaken λx=>by
   by_cases h:x∈aC t
   ·exact .inl (C.tg x h).2.2
   ·exact .inr (zi h).symm,J.lst⟩
theorem l6.onAt(C:l6 G A cv κ Y ρ0 t ns it acc fp wr xs St X0 hp s0)(J:JE G cv Y ns acc wr s0 ρ res s):On X0 (ak cv Y O0) hp s.heap:=by
 refine C.on.trans ⟨λb o nb e=>J.keep b o (λh=>nb (.inl (h▸C.hacc))) (λh=>nb (.inl (C.hwr b h))) (λx _ pl=>nb (.inr (.inl pl.own))) e,λ_ _ _ y=>y⟩
theorem Ep (Fh:A.handled=none) (C:l6 G A cv κ Y ρ0 t ns it acc fp wr xs St X0 hp s0) (J:JE G cv Y ns acc wr s0 ρ0 res s) {i:Nat} (hi:i<xs.length) (st:St i s.heap) (ok:(bh t (xs.getD i .none) ρ0).1=true)
 {E:Value->Shared->Prop} {Q:Shared->Prop} (q:∀s',JE G cv Y ns acc wr s0 (bh t (xs.getD i .none) ρ0).2 res s'->St (i+1) s'.heap->Q s'):
 wpAny (model G.p G.w) A (pyNext it) (λr s₁=>∃v,r=some v/\wpAny (model G.p G.w) A (letOwnedTupleGo t it v) (λ_ s₂=>wpAny (model G.p G.w) A (assign t cv v) (λ_ s₃=>Q s₃) E s₂) E s₁) E s:=by
 have hw:∀b∈wr,ak cv Y O0 b:=λb hb => .inl (C.hwr b hb)
 refine C.it.item i s (ak cv Y O0) hi st (C.onAt J) J.sta.full hw E _ λv h' tk r st' k => ?_
 have lv:=C.it.live (i+1) h' st';have S':cq G cv Y O0 ρ0 h':=J.sta.skip (Z:=λb=>b∈wr) C.hwr (λb hb=>(C.own b hb).2) (λb o nz e=>k b o nz e) λb hb=>lv b (C.it.sub b hb)
 have accW:acc∉wr:=λh=>C.fpAcc (C.it.sub _ h)
 obtain⟨us,m,el,rl⟩:=J.lst;have al:∀b o,s.heap.get? b=some o->∃o',h'.get? b=some o':=λb o e=>by
  by_cases hb:b∈wr
  ·exact lv b (C.it.sub b hb)
  ·exact⟨o,k b o hb e⟩
 have onY:On (ak cv Y O0) (ak cv Y O0) s.heap h':=⟨λb o nb e=>k b o (λhb=>nb (hw b hb)) e,λ_ _ _ y=>y⟩;refine uZ (s:={ s with heap:=h',toks:=tk }) Fh C.env ok (λx hx=>(C.tg x hx).2.1) S' r E _ λs3 S3 mv => ?_
 obtain⟨h3,tk3,rfl,k3,al3⟩:=mv;have upd0:jS O0 (aC t)=O0:=by funext y;simp[jS]
 rw[upd0]at S3;have on3:On (ak cv Y O0) (ak cv Y O0) h' h3:=⟨λb o nb e=>k3 b o (λx _ pl=>nb (.inr (.inl pl.own))) e,λ_ _ _ y=>y⟩;refine q _ ⟨?_,λb o n1 n2 n3 e => ?_,λb o nw e => ?_,S3,us,m, ?_,Reps.on on3 (Reps.on onY rl)⟩ ?_
 ·obtain⟨h,tk',e⟩:=J.same;rw[e];exact⟨h3,tk3,rfl⟩
 ·exact k3 b o (λx hx=>n3 x (C.tg _ hx).1) (k b o n2 (J.keep b o n1 n2 n3 e))
 ·obtain⟨o',e'⟩:=J.live b o nw e
  obtain⟨o2,e2⟩:=al b o' e';exact al3 b o2 e2
 ·exact k3 _ _ (λx hx pl=>(C.own _ pl.own).1 rfl) (k _ _ accW el)
 ·exact C.it.frame _ _ _ st' λb hb o e=>k3 b o (λx hx pl=>C.fpPl x (C.tg _ hx).1 b hb pl) e
theorem zj (C:l6 G A cv κ Y ρ0 t ns it acc fp wr xs St X0 hp s0) (J:JE G cv Y ns acc wr s0 ρ0 res s) (st:St xs.length s.heap) {Y1:Addr->Prop} (hY:∀b,Y1 b->Y b/\b∉wr)
 {E:Value->Shared->Prop} {Q:Option Value->Shared->Prop} (q:∀s',JE G cv Y1 ns acc wr s0 ρ0 res s'->Q none s'):wpAny (model G.p G.w) A (pyNext it) Q E s:=by
 refine C.it.done s st E Q λh' tk k=>q _ ?_
 have accW:acc∉wr:=λh=>C.fpAcc (C.it.sub _ h)
 obtain⟨us,m,el,rl⟩:=J.lst;have on:On (ak cv Y O0) (ak cv Y1 O0) s.heap h':=⟨λb o nb e=>k b o (λh=>nb (.inl (C.hwr b h))) e,λb o e fb=>by
  rcases fb with f|f|⟨y,f⟩
  ·exact .inl (hY b f).1
  ·exact .inr (.inl f)
  ·cases f⟩
 refine⟨?_,λb o n1 n2 n3 e=>k b o n2 (J.keep b o n1 n2 n3 e),λb o nw e => ?_,J.sta.less (Z:=λb=>b∈wr) C.hwr hY (λb hb=>(C.own b hb).2) (λb o nz e=>k b o nz e),us,m,k _ _ accW el,Reps.on on rl⟩
 ·obtain⟨h,tk',e⟩:=J.same;rw[e];exact⟨h',tk,rfl⟩
 ·obtain⟨o',e'⟩:=J.live b o nw e;exact⟨o',k b o' nw e'⟩
theorem Er (C:l6 G A cv κ Y ρ0 t ns it acc fp wr xs St X0 hp s0) (J:JE G cv Y ns acc wr s0 ρ res s) {x:V} {u:Value} (r:am G (ak cv Y O0) s.heap x u) (hn:res.length<=cap) {i:Nat} (st:St i s.heap)
 {E:Value->Shared->Prop} {Q:Value->Shared->Prop} (q:∀s',JE G cv Y ns acc wr s0 ρ (res++[x]) s'->St i s'.heap->(∀b o,b≠acc->s.heap.get? b=some o->s'.heap.get? b=some o)->Q .none s'):
 wpAny (model G.p G.w) A (call (.builtin "list.append") [.ref acc,u]) Q E s:=by
 obtain⟨us,m,el,rl⟩:=J.lst;have hsz:us.size=res.length:=by rw[<-Array.length_toList,<-rl.length]
 refine append_at el (λh' hs e' => ?_) (by rw[hsz];exact dD hn);have k:∀b o,b≠acc->s.heap.get? b=some o->h'.get? b=some o:=λb o nb e=>(hs.2 b nb).trans e
 have on:On (ak cv Y O0) (ak cv Y O0) s.heap h':=⟨λb o nb e=>k b o (λh=>nb (.inl (h▸C.hacc))) e,λ_ _ _ y=>y⟩;have S':cq G cv Y O0 ρ h':=J.sta.skip (Z:=λb=>b=acc) (λb h=>h▸C.hacc) (λb hb=>(C.own b hb).1) (λb o nz e=>k b o nz e) λb hb=>by rw[hb];exact⟨_,e'⟩
 refine q _ ⟨?_,λb o n1 n2 n3 e=>k b o n1 (J.keep b o n1 n2 n3 e),λb o nw e => ?_,S',_,_,e', ?_⟩ ?_ k
 ·obtain⟨h,tk',e⟩:=J.same;rw[e];exact⟨h',_,rfl⟩
 ·obtain⟨o',e2⟩:=J.live b o nw e
  by_cases h:b=acc
  ·subst h;exact⟨_,e'⟩
  ·exact⟨o',k b o' h e2⟩
 ·rw[Array.toList_push]
  exact Reps.append (Reps.on on rl) (Reps.cons (r.on on) Reps.nil)
 ·exact C.it.frame _ _ _ st λb hb o e=>k b o (λh=>C.fpAcc (h▸hb)) e
end
end
section
open PySem PySem.W PySem.Calls PyProof.Rows
section
variable {G:Cfg} {A:Around} {cv:Env} {Y:Addr->Prop} {ρ ρ0:Rho} {t:Expr} {ns:List Nm} {it:Value} {acc:Addr} {fp wr:List Addr} {xs:List V} {St:Nat->Heap->Prop} {X0:Addr->Prop} {hp:Heap} {s0 s:Shared} {res:List V}
theorem rm{xs:List V}{i:Nat}(h:i<xs.length):xs.drop i=xs.getD i .none::xs.drop (i+1):=by
 rw[List.drop_eq_getElem_cons h]
 congr 1
 simp[h]
theorem nv(f:V->Bool×Bool×R)(x:V)(xs:List V):bw f (x::xs)=((f x).1&&(bif (f x).2.1 then(f x).2.2.1 else true)&&(bw f xs).1,bif (f x).2.1 then(f x).2.2.2::(bw f xs).2 else(bw f xs).2):=rfl
theorem u5(f:V->Bool×Bool×List V)(x:V)(xs:List V):dC f (x::xs)=((f x).1&&(f x).2.1&&(dC f xs).1,(f x).2.2++(dC f xs).2):=rfl
noncomputable def Ch(e:Expr)(d:Nat)(elt:Expr)(ifs:List Expr)(it ac:Value)(cv:Env):Sem Fin:=do
 let mut ok:=true
 for c in ifs do
  if ok then ok <-isTrue c cv (eval c cv)
 if ok then
  (do let _ <-call (.builtin "list.append") [ac,<-eval elt cv])
 again (.compLoop e d it ac cv)
noncomputable def Es(e iter':Expr)(it ac:Value)(cv:Env):Sem Fin:=do
 let x <-eval iter' cv
 standAt iter'.pos
 let x <-foldedSetIterable iter' cv x;let _ <-runOwn (.compStart e 1 (<-holding [x] (pyIter x)) ac cv) cv
 again (.compLoop e 0 it ac cv)
theorem zk {κ:List (Str×NameKind)} (Fh:A.handled=none) (C:l6 G A cv κ Y ρ0 t ns it acc fp wr xs St X0 hp s0) (J:JE G cv Y ns acc wr s0 ρ0 res s) {i:Nat} (hi:i<xs.length) (st:St i s.heap) (ok:(bh t (xs.getD i .none) ρ0).1=true)
 {E:Value->Shared->Prop} {T:Sem Fin} {P:Fin->Shared->Prop} (q:∀s',JE G cv Y ns acc wr s0 (bh t (xs.getD i .none) ρ0).2 res s'->St (i+1) s'.heap->wpAny (model G.p G.w) A T P E s'):
 wpAny (model G.p G.w) A (pyNext it) (λr s₁=>wpAny (model G.p G.w) A (match r with
  |none=>pure (.done .next)
  |some v=>(do
   letOwnedTupleGo t it v
   assign t cv v
   T)) P E s₁) E s:=
 wpAny_mono (Ep Fh C J hi st ok q) (λr s1 h=>by
  obtain⟨v,rfl,h⟩:=h;exact wpAny_bind (wpAny_mono h (λ_ s2 h2=>wpAny_bind h2) λ_ _ e=>e)) λ_ _ e=>e
theorem Ci {elt:Expr} {ifs:List Expr} {gens:List Comprehension} {scope:Scope} {pos p:Pos} {d:Nat} {E:Ev} {R:Result->Shared->Prop}
 (hT:compTurn (.ListComp elt gens scope pos) d it (.ref acc) cv=(do
   standAt p
   match <-pyNext it with
   |none=>pure (.done .next)
   |some v=>
    letOwnedTupleGo t it v
    assign t cv v
    Ch (.ListComp elt gens scope pos) d elt ifs it (.ref acc) cv))
 (Fh:A.handled=none) (C:l6 G A cv scope.names Y ρ0 t ns it acc fp wr xs St X0 hp s0) (GE:∀ρ,az G A cv Y ρ (E scope.names ρ)) (GT:∀ρ,i7 G A cv Y ρ (E scope.names ρ))
 (J:JE G cv Y ns acc wr s0 ρ0 res s) (st:St 0 s.heap) (ok:(bw (cW E elt t ifs scope ρ0) xs).1=true) (hn:(res++(bw (cW E elt t ifs scope ρ0) xs).2).length<=cap) {Y1:Addr->Prop} (hY:∀b,Y1 b->Y b/\b∉wr)
 (q:∀s',JE G cv Y1 ns acc wr s0 ρ0 (res++(bw (cW E elt t ifs scope ρ0) xs).2) s'->R (.ok .next) s'):
 codeAny (model G.p G.w) A (.compLoop (.ListComp elt gens scope pos) d it (.ref acc) cv) R s:=by
 refine codeAny_loop rfl (λk s'=>∃i re,k=xs.length-i/\i<=xs.length/\JE G cv Y ns acc wr s0 ρ0 re s'/\St i s'.heap /\
  res++(bw (cW E elt t ifs scope ρ0) xs).2=re++(bw (cW E elt t ifs scope ρ0) (xs.drop i)).2/\(bw (cW E elt t ifs scope ρ0) (xs.drop i)).1=true) (λk s' hI => ?_) xs.length
  ⟨0,res,rfl,Nat.zero_le _,J,st,rfl,ok⟩
 obtain⟨i,re,rfl,hi,J',st',e1,e2⟩:=hI;show wpAny _ A ((compTurn (.ListComp elt gens scope pos) d it (.ref acc) cv).onRaise (λx=>do noteFrame x cv;theTreesLotGoes x)) _ _ s';refine wpAny_noted ?_;rw[hT];refine wpAny_bind (wpAny_standAt (wpAny_bind ?_))
 by_cases hlt:i<xs.length
 ·rw[rm hlt]at e1 e2
  generalize hx:xs.getD i .none=x at e1 e2;rw[nv]at e1 e2;simp only[Bool.and_eq_true]at e2;obtain⟨⟨g1,g2⟩,g3⟩:=e2;unfold cW at g1;simp only[Bool.and_eq_true]at g1;obtain⟨o1,o2⟩:=g1;have g2':(bif (eE (E scope.names (bh t x ρ0).2) ifs).2 then(E scope.names (bh t x ρ0).2 elt).1 else true)=true:=g2;have e1':res++(bw (cW E elt t ifs scope ρ0) xs).2=re++(bif (eE (E scope.names (bh t x ρ0).2) ifs).2 then(E scope.names (bh t x ρ0).2 elt).2::(bw (cW E elt t ifs scope ρ0) (xs.drop (i+1))).2 else(bw (cW E elt t ifs scope ρ0) (xs.drop (i+1))).2):=e1;refine zk Fh C J' hlt st' (by rw[hx];exact o1) λs3 J3 st3 => ?_
  rw[hx]at J3;refine wpAny_bind (sV (GT _) o2 O0 s3 J3.sta _ _ λs4 k4 => ?_);have J4:=J3.keeps k4;have st4:St (i+1) s4.heap:=C.it.frame _ _ _ st3 λb _ o e=>Kp.keep k4 b o e
  cases hc:(eE (E scope.names (bh t x ρ0).2) ifs).2 with
  |false=>
   rw[hc]at e1';simp only[cond_false]at e1';exact wpAny_pure ⟨rfl,_,(by omega:xs.length-(i+1)<xs.length-i),i+1,re,rfl,hlt,J4.back C,st4,e1',g3⟩
  |true=>
   rw[hc]at e1' g2';simp only[cond_true]at e1' g2';refine wpAny_bind (wpAny_bind ((GE _).ok elt g2' O0 s4 J4.sta _ _ λu s5 k5 r5 => ?_));have J5:=J4.keeps k5;have st5:St (i+1) s5.heap:=C.it.frame _ _ _ st4 λb _ o e=>Kp.keep k5 b o e
   have hre:re.length<=cap:=by
    rw[e1']at hn;rw[List.length_append]at hn;omega
   refine wpAny_bind (Er C J5 r5 hre st5 λs6 J6 st6 _=>wpAny_pure (wpAny_pure ⟨rfl,_,(by omega:xs.length-(i+1)<xs.length-i),i+1,re++[(E scope.names (bh t x ρ0).2 elt).2],rfl,hlt,J6.back C,st6, ?_,g3⟩));rw[e1',List.append_assoc];rfl
 ·have hi':i=xs.length:=⋯
  subst hi';refine zj C J' st' hY λs2 J2=>wpAny_pure (q s2 ?_)
  rw[List.drop_length]at e1;rw[e1];rw[show ∀(l:List V) f,l++(bw f []).2=l from λl f=>List.append_nil l];exact J2
theorem C0 {elt:Expr} {g0:Comprehension} {t' it':Expr} {ifs:List Expr} {scope:Scope} {pos:Pos} {i:Value} {ac:Value} {R:Result->Shared->Prop}
 (h0:codeAny (model G.p G.w) A (.compLoop (.ListComp elt [g0,⟨t',it',ifs,0⟩] scope pos) 1 i ac cv) R s)
 (h:wpAny (model G.p G.w) A (pyIter i) (λi' s'=>codeAny (model G.p G.w) A (.compLoop (.ListComp elt [g0,⟨t',it',ifs,0⟩] scope pos) 1 i' ac cv) R s') (notedBy (model G.p G.w) A cv λx s'=>R (.error x) s') s):
 codeAny (model G.p G.w) A (.compStart (.ListComp elt [g0,⟨t',it',ifs,0⟩] scope pos) 1 i ac cv) R s:=by
 refine codeAny_of_tree ?_;show wpAny _ _ ((compStart (.ListComp elt [g0,⟨t',it',ifs,0⟩] scope pos) 1 i ac cv).onRaise (λx=>do noteFrame x cv;standAt theWindowsPlace)) _ _ s;refine wpAny_notedAt ?_;unfold compStart;show wpAny _ _ (ask>>=_) _ _ s;refine wpAny_bind (wpAny_askSetting (wpAny_ite ?_))
 split
 ·first
   |exact wpAny_bind (wpAny_pure (wpAny_pure (And.intro rfl h0)))
   |exact wpAny_pure (And.intro rfl h0)
 ·first
   |exact wpAny_bind (wpAny_rule (wpAny_bind (wpAny_standAt (wpAny_bind (wpAny_mono h (λit' s' h'=>wpAny_pure (And.intro rfl h')) λ_ _ x=>x)))))
   |(refine wpAny_bind (wpAny_rule ?_);show wpAny _ _ (standAt it'.pos>>=_) _ _ s;exact wpAny_bind (wpAny_standAt (wpAny_bind (wpAny_mono h (λit' s' h'=>wpAny_pure (And.intro rfl h')) λ_ _ x=>x))))
theorem C1(elt t iter t' iter':Expr)(ifs:List Expr)(scope:Scope)(pos:Pos)(it ac:Value)(cv:Env):
 compTurn (.ListComp elt [⟨t,iter,[],0⟩,⟨t',iter',ifs,0⟩] scope pos) 0 it ac cv=(do
  standAt iter.pos
  match <-pyNext it with
  |none=>pure (.done .next)
  |some v=>
   letOwnedTupleGo t it v
   assign t cv v
   Es (.ListComp elt [⟨t,iter,[],0⟩,⟨t',iter',ifs,0⟩] scope pos) iter' it ac cv):=by rfl
theorem C2(elt t iter t' iter':Expr)(ifs:List Expr)(scope:Scope)(pos:Pos)(it ac:Value)(cv:Env):
 compTurn (.ListComp elt [⟨t,iter,[],0⟩,⟨t',iter',ifs,0⟩] scope pos) 1 it ac cv=(do
  standAt iter'.pos
  match <-pyNext it with
  |none=>pure (.done .next)
  |some v=>
   letOwnedTupleGo t' it v
   assign t' cv v
   Ch (.ListComp elt [⟨t,iter,[],0⟩,⟨t',iter',ifs,0⟩] scope pos) 1 elt ifs it ac cv):=by rfl
theorem ro{κ:List (Str×NameKind)}{E:Expr->R}{X:Addr->Prop}{env:Env}(GE:az G A env X ρ E){tt e:Expr}(ok:(aR κ E tt e).1=true)(x:Value):foldedSetIterable e env x=pure x:=by
 induction e using Expr.casesOn with
 |Set es k p=>
  have:(lj κ E tt (.Set es k p)).1=true:=ok;unfold lj at this;simp only[GE.noSet,Bool.false_and]at this;injections this
 |_=>rfl
theorem cq.more{env:Env}{X:Addr->Prop}{O:Nm->Option Addr}{h h':Heap}{Z:Addr->Prop}(S:cq G env X O ρ h)(k:∀b o,h.get? b=some o->h'.get? b=some o)(hz:∀b,Z b->h.get? b=none/\∃o,h'.get? b=some o):
 cq G env (λb=>X b\/Z b) O ρ h'/\On (ak env X O) (ak env (λb=>X b\/Z b) O) h h':=by
 have full:∀b,ak env (λb=>X b\/Z b) O b->ak env X O b\/Z b:=λb fb=>by
  rcases fb with(f|f)|f|f
  ·exact .inl (.inl f)
  ·exact .inr f
  ·exact .inl (.inr (.inl f))
  ·exact .inl (.inr (.inr f))
 have on:On (ak env X O) (ak env (λb=>X b\/Z b) O) h h':=⟨λb o _ e=>k b o e,λb o e fb=>by
  rcases full b fb with f|f
  ·exact f
  ·rw[(hz b f).1]at e;cases e⟩
 refine⟨⟨λb o e=>k b o (S.old b o e),λb fb => ?_,λb fb => ?_, ?_,S.inj,λx a e=>⟨λh => ?_,(S.apart x a e).2⟩⟩,on⟩
 ·rcases full b fb with f|f
  ·exact S.new b f
  ·cases e:G.h0.get? b with
   |none=>rfl
   |some o=>have:=S.old b o e;rw[(hz b f).1]at this;injections this
 ·rcases full b fb with f|f
  ·obtain⟨o,e⟩:=S.alive b f;exact⟨o,k b o e⟩
  ·exact(hz b f).2
 ·obtain⟨g,F,hg⟩:=S.look
  exact⟨g,F.keeps k,λx hx=>(hg x hx).on on λa _ o e=>k a o e⟩
 ·rcases h with h|h
  ·exact(S.apart x a e).1 h
  ·obtain⟨o,e'⟩:=S.alive a (.inr (.inr ⟨x,e⟩));rw[(hz a h).1]at e';cases e'
theorem Et {Φ:Fns} {elt t' iter iter':Expr} {ifs:List Expr} {scope:Scope} {pos:Pos} {E:Ev} {R:Result->Shared->Prop}
 (Fa:aB G A Φ) (C:l6 G A cv scope.names Y ρ0 t ns it acc fp wr xs St X0 hp s0) (GE:∀X ρ,az G A cv X ρ (E scope.names ρ)) (GT:∀X ρ,i7 G A cv X ρ (E scope.names ρ))
 (ht':∀x∈aC t',x∈ns/\af (kd scope.names x)=true/\lk ρ0 x = .un/\x∉aC t)
 (J:JE G cv Y ns acc wr s0 ρ0 res s) (st:St 0 s.heap) (ok:(dC (fE E elt t t' iter' ifs scope ρ0) xs).1=true) (hn:(res++(dC (fE E elt t t' iter' ifs scope ρ0) xs).2).length<=cap)
 {Y1:Addr->Prop} (hY:∀b,Y1 b->Y b/\b∉wr)
 (q:∀s',JE G cv Y1 ns acc wr s0 ρ0 (res++(dC (fE E elt t t' iter' ifs scope ρ0) xs).2) s'->R (.ok .next) s'):
 codeAny (model G.p G.w) A (.compLoop (.ListComp elt [⟨t,iter,[],0⟩,⟨t',iter',ifs,0⟩] scope pos) 0 it (.ref acc) cv) R s:=by
 refine codeAny_loop rfl (λk s'=>∃i re,k=xs.length-i/\i<=xs.length/\JE G cv Y ns acc wr s0 ρ0 re s'/\St i s'.heap /\
  res++(dC (fE E elt t t' iter' ifs scope ρ0) xs).2=re++(dC (fE E elt t t' iter' ifs scope ρ0) (xs.drop i)).2/\(dC (fE E elt t t' iter' ifs scope ρ0) (xs.drop i)).1=true) (λk s' hI => ?_) xs.length
  ⟨0,res,rfl,Nat.zero_le _,J,st,rfl,ok⟩
 obtain⟨i,re,rfl,hi,J',st',e1,e2⟩:=hI;show wpAny _ A ((compTurn (.ListComp elt [⟨t,iter,[],0⟩,⟨t',iter',ifs,0⟩] scope pos) 0 it (.ref acc) cv).onRaise (λx=>do noteFrame x cv;theTreesLotGoes x)) _ _ s';refine wpAny_noted ?_;rw[C1];refine wpAny_bind (wpAny_standAt (wpAny_bind ?_))
 by_cases hlt:i<xs.length
 ·rw[rm hlt]at e1 e2
  generalize hx:xs.getD i .none=x at e1 e2;rw[u5]at e1 e2;simp only[Bool.and_eq_true]at e2;obtain⟨⟨g1,g2⟩,g3⟩:=e2;unfold fE at g1;simp only[Bool.and_eq_true]at g1;obtain⟨o1,o2⟩:=g1;refine zk Fa.none C J' hlt st' (by rw[hx];exact o1) λs3 J3 st3 => ?_
  rw[hx]at J3;refine wpAny_bind (wpAny_mono (rk (t:=t') (ρ:=(bh t x ρ0).2) Fa C.env (GE Y (bh t x ρ0).2) o2 O0 s3 J3.sta _ _ λi' s4 k4 I4 => ?_) (λu s4 h4=>wpAny_bind (wpAny_standAt (wpAny_bind (wpAny_of_eq (ro (GE Y _) o2 u) (wpAny_bind (wpAny_holding h4)))))) λ_ _ e=>e);obtain⟨s5,fp',wr',St',k5,k6,I,st6,nfp,nwr⟩:=I4;have al':∀b∈wr',∃o,s4.heap.get? b=some o:=λb hb=>I.live _ _ st6 b (I.sub b hb)
  have J4:=J3.keeps k4;have st4:St (i+1) s4.heap:=C.it.frame _ _ _ st3 λb _ o e=>Kp.keep k4 b o e
  have J5:=J3.keeps k5;have dead:∀b,(∃o,s5.heap.get? b=some o)->b∉wr':=λb ⟨o,e⟩ hb=>by rw[nwr b hb]at e;injections e
  have hz:∀b,b∈wr'->s5.heap.get? b=none/\∃o,s4.heap.get? b=some o:=λb hb=>⟨nwr b hb,al' b hb⟩
  obtain⟨Sm,onm⟩:=J5.sta.more (Kp.keep k6) (Z:=λb=>b∈wr') hz;obtain⟨us,m,el,rl⟩:=J5.lst;have onx:On (ak cv Y O0) (ak cv (λb=>Y b\/b∈wr') O0) s5.heap s4.heap:=onm;have C':l6 G A cv scope.names (λb=>Y b\/b∈wr') (bh t x ρ0).2 t' ns i' acc fp' wr' (aR scope.names (E scope.names (bh t x ρ0).2) t' iter').2 St' (ak cv Y O0) s5.heap s4:=
   { env:=C.env
     tg:=λy hy=>⟨(ht' y hy).1,(ht' y hy).2.1,by rw[zi (ht' y hy).2.2.2];exact(ht' y hy).2.2.1⟩
     it:=I
     hwr:=λb hb => .inr hb
     hacc := .inl C.hacc
     own:=λb hb=>⟨(C.own b hb).1,dead b (J5.sta.alive b (.inr (.inl hb)))⟩
     fpAcc:=λh=>nfp acc h (.inl C.hacc)
     fpPl:=λy _ b hb pl=>nfp b hb (.inr (.inl pl.own))
     on:=onx }
  have Jn:JE G cv (λb=>Y b\/b∈wr') ns acc wr' s4 (bh t x ρ0).2 re s4:=
   ⟨⟨s4.heap,s4.toks,rfl⟩,λb o _ _ _ e=>e,λb o _ e=>⟨o,e⟩,Sm,us,m,Kp.keep k6 _ _ el,Reps.on onx rl⟩
  have e1':res++(dC (fE E elt t t' iter' ifs scope ρ0) xs).2=re++((bw (cW E elt t' ifs scope (bh t x ρ0).2) (aR scope.names (E scope.names (bh t x ρ0).2) t' iter').2).2++(dC (fE E elt t t' iter' ifs scope ρ0) (xs.drop (i+1))).2):=e1;have hn':(re++(bw (cW E elt t' ifs scope (bh t x ρ0).2) (aR scope.names (E scope.names (bh t x ρ0).2) t' iter').2).2).length<=cap:=by
   rw[e1',<-List.append_assoc,List.length_append]at hn;omega
  refine wpAny_bind (wpAny_runOwn ?_);have hY':∀b,Y b->(Y b\/b∈wr')/\b∉wr':=λb hb=>⟨.inl hb,dead b (J5.sta.alive b (.inl hb))⟩
  have lp:∀R':Result->Shared->Prop,(∀s',JE G cv Y ns acc wr' s4 (bh t x ρ0).2 (re++(bw (cW E elt t' ifs scope (bh t x ρ0).2) (aR scope.names (E scope.names (bh t x ρ0).2) t' iter').2).2) s'->R' (.ok .next) s') ->
   codeAny (model G.p G.w) A (.compLoop (.ListComp elt [⟨t,iter,[],0⟩,⟨t',iter',ifs,0⟩] scope pos) 1 i' (.ref acc) cv) R' s4:=λR' q'=>
   Ci (C2 elt t iter t' iter' ifs scope pos i' (.ref acc) cv) Fa.none C' (GE _) (GT _) Jn st6 g2 hn' hY' q'
  refine C0 (lp _ ?_) (I.self 0 s4 _ _ st6 (lp _ ?_))
  all_goals
   intro s7 J7;refine wpAny_pure ⟨rfl,_,(by omega:xs.length-(i+1)<xs.length-i),i+1,re++(bw (cW E elt t' ifs scope (bh t x ρ0).2) (aR scope.names (E scope.names (bh t x ρ0).2) t' iter').2).2,rfl,hlt,JE.back C (v:=x) ⟨?_,λb o n1 n2 n3 e => ?_,λb o nw e => ?_,J7.sta,J7.lst⟩, ?_, ?_,g3⟩
   ·obtain⟨h,tk,e⟩:=J4.same
    obtain⟨h',tk',e'⟩:=J7.same;rw[e',e];exact⟨h',tk',rfl⟩
   ·have e5:=J5.keep b o n1 n2 n3 e
    exact J7.keep b o n1 (dead b ⟨o,e5⟩) n3 (Kp.keep k6 b o e5)
   ·obtain⟨o',e5⟩:=J5.live b o nw e
    exact J7.live b o' (dead b ⟨o',e5⟩) (Kp.keep k6 b o' e5)
   ·have lv:=C.it.live _ _ st4
    refine C.it.frame _ _ _ st4 λb hb o e=>J7.keep b o (λh=>C.fpAcc (h▸hb)) (λh => ?_) (λy hy pl=>C.fpPl y hy b hb pl) e
    have lv3:=C.it.live _ _ st3 b hb;obtain⟨o3,e3⟩:=lv3;exact dead b ⟨o3,Kp.keep k5 b o3 e3⟩ h
   ·rw[e1',List.append_assoc]
 ·have hi':i=xs.length:=⋯
  subst hi';refine zj C J' st' hY λs2 J2=>wpAny_pure (q s2 ?_)
  rw[List.drop_length]at e1;rw[e1];rw[show ∀(l:List V) f,l++(dC f []).2=l from λl f=>List.append_nil l];exact J2
end
end
section
open PySem PySem.W PySem.Calls PyProof.Rows
section
variable {G:Cfg} {A:Around} {env:Env} {X:Addr->Prop} {κ:List (Str×NameKind)} {ρ:Rho} {O:Nm->Option Addr} {scope:Scope} {Φ:Fns}
theorem zl{t:Expr}{x:Nm}(h:x∈aC t):∃y:Str,x=nm y:=by
 induction t using Expr.casesOn with
 |Name y p=>exact⟨y,List.mem_singleton.mp h⟩
 |Tuple ts k p=>
  obtain⟨e,_,he⟩:=List.mem_filterMap.mp h;exact CL he
 |_=>injections h
theorem jT{t:Expr}(h:jK scope.names t=true)(x:Nm)(hx:x∈aC t):af (kd scope.names x)=true/\lk (bA scope ρ) x = .un/\∀y:Str,x=nm y->(y,NameKind.free)∉scope.names\/¬jq scope.names:=by
 have:=List.all_eq_true.mp h x hx;obtain⟨y,rfl⟩:=zl hx;rw[bF]at this;rw[bF,nr];cases e:scope.names.lookup y with
 |none=>rw[e]at this;injections this
 |some k=>
  rw[e]at this;refine⟨?_, ?_,λz ez => ?_⟩
  ·induction k using NameKind.casesOn<;>first|rfl|injections this
  ·induction k using NameKind.casesOn<;>first|rfl|injections this
  ·by_cases ho:jq scope.names
   ·left
    intro hm;rw[<-cy ez]at hm;have h2:=ho.lookup hm;rw[e]at h2;injection h2 with h2;subst h2;injections this
   ·exact .inr ho
theorem kN(Ok:iP κ scope)(hc:∀n,(n,NameKind.free)∈scope.names->∃c,env.cells.lookup n=some c){h:Heap}{t:Expr}(ho:jK scope.names t=true){x:Str}(hx:nm x∈aC t){b:Addr}(pl:fX (f0 scope env h.objs.size) x b):h.objs.size<=b:=by
 rcases pl with⟨e,_⟩|⟨_,e⟩
 ·rw[e];exact Nat.le_refl _
 ·have m:=mem_of_lookup e
  have e1:h.objs.size+1=(h.push { cls := .type "dict",data := .dict #[] }).objs.size:=(Heap.size_push ..).symm
  change (x,b)∈cellsFrom (h.objs.size+1) scope.names (gX env scope.names [])at m
  rw[e1]at m
  rcases bO m with m|⟨_,m,_⟩
  ·rcases et hc m with m|⟨m,_⟩
   ·cases m
   ·rcases(jT (ρ:=[]) ho _ hx).2.2 x rfl with h'|h'
    ·exact absurd m h'
    ·exact absurd Ok.once h'
  ·rw[<-e1]at m;omega
theorem Bg(hc:∀n,(n,NameKind.free)∈scope.names->∃c,env.cells.lookup n=some c){h:Heap}{Z:Addr->Prop}{b:Addr}(fb:ak (f0 scope env h.objs.size) (λb=>ak env X O b\/Z b) O0 b):ak env X O b\/Z b\/h.objs.size<=b:=by
 rcases fb with(fb|fb)|fb|⟨y,fb⟩
 ·exact .inl fb
 ·exact .inr (.inl fb)
 ·rcases kM hc fb with e|e|e
  ·exact .inr (.inr (by rw[e];exact Nat.le_refl _))
  ·exact .inr (.inr ⋯)
  ·exact .inl (.inr (.inl e))
 ·cases fb
structure F1(G:Cfg)(P:Addr->Prop)(s:Shared)(res:List V)(acc C:Addr)(s':Shared):Prop where
 keeps:Keeps s s'
 dead:s.heap.get? acc=none
 loc:s.heap.get? C=none
 ne:C≠acc
 ns:∃m,s'.heap.Ns C m
 lst:∃us m,s'.heap.get? acc=some { cls := .type "list",data := .seq us m }/\Reps G (λb=>P b\/(b=acc\/b=C)) s'.heap res us.toList
theorem sW (Fa:aB G A Φ) (En:ao env κ) {E:Ev} (GE:∀κ env X ρ,ao env κ->az G A env X ρ (E κ ρ)) {elt t iter:Expr} {ifs:List Expr} {rest:List Comprehension} {pos:Pos} {ns:List Nm} {res:List V}
 (Ok:iP κ scope) (ow:jK scope.names t=true) (hns:∀x∈aC t,x∈ns) (hnew:∀(h:Heap) (x:Str) (b:Addr),nm x∈ns->fX (f0 scope env h.objs.size) x b->(∀n,(n,NameKind.free)∈scope.names->∃c,env.cells.lookup n=some c)->h.objs.size<=b)
 (oi:(aR κ (E κ ρ) t iter).1=true)
 (lp:∀(cv:Env) (Y Y1:Addr->Prop) (it:Value) (acc:Addr) (fp wr:List Addr) (St:Nat->Heap->Prop) (X0:Addr->Prop) (hp:Heap) (s4:Shared),
   l6 G A cv scope.names Y (bA scope ρ) t ns it acc fp wr (aR κ (E κ ρ) t iter).2 St X0 hp s4->JE G cv Y ns acc wr s4 (bA scope ρ) [] s4->St 0 s4.heap->(∀b,Y1 b->Y b/\b∉wr) ->
   ∀R:Result->Shared->Prop,(∀s',JE G cv Y1 ns acc wr s4 (bA scope ρ) res s'->R (.ok .next) s')->codeAny (model G.p G.w) A (.compLoop (.ListComp elt (⟨t,iter,ifs,0⟩::rest) scope pos) 0 it (.ref acc) cv) R s4)
 {s:Shared} (S:cq G env X O ρ s.heap) {use:Option (Value->Sem Unit)} {E':Value->Shared->Prop} {Q:Value->Shared->Prop} {pp:Pos}
 (q:∀acc C s',F1 G (ak env X O) s res acc C s'->compPost (model G.p G.w) A E' use Q (.ref acc) C (.ok .next) s'):
 wpAny (model G.p G.w) A (comprehension (.ListComp elt (⟨t,iter,ifs,0⟩::rest) scope pos) scope env pp (newList []) false (eval iter env) use) Q E' s:=by
 obtain⟨g,F,hg⟩:=S.look;have hc':=nu Ok En F;have hc:∀n,(n,NameKind.free)∈scope.names->∃c,env.cells.lookup n=some c:=λn hn=>let⟨c,e,_⟩:=hc' n hn;⟨c,e⟩
 refine wpAny_comprehension_free (g:=⟨t,iter,ifs,0⟩) (gs:=rest) rfl (ro (GE _ _ X _ En) oi) (u3 hc) Ok.kind (λx hx hl=>Ok.once.lookup (by rw[<-hl];exact hx)) ?_;refine rk (t:=t) Fa En (GE _ _ _ _ En) oi O s S _ _ λit s2 k2 I2 => ?_
 obtain⟨s1,fp,wr,St,k1,k12,I,st2,nfp,nwr⟩:=I2;have live2:=I.live _ _ st2;refine wpAny_newList ?_ (Nat.zero_le _);generalize hs3:({ s2 with heap:=s2.heap.push { cls := .type "list",data := .seq ([]:List Value).toArray } }:Shared)=s3;have h3:s3.heap=s2.heap.push { cls := .type "list",data := .seq ([]:List Value).toArray }:=by rw[<-hs3]
 have sz3:s3.heap.objs.size=s2.heap.objs.size+1:=by rw[h3,Heap.size_push]
 have k23:∀b o,s2.heap.get? b=some o->s3.heap.get? b=some o:=λb o e=>by rw[h3];exact Heap.get?_push_of_some _ e
 have acc3:s3.heap.get? s2.heap.objs.size=some { cls := .type "list",data := .seq ([]:List Value).toArray }:=by rw[h3];exact Heap.get?_push_size _ rfl
 have ks3:∀b o,s.heap.get? b=some o->s3.heap.get? b=some o:=λb o e=>k23 b o (Kp.keep k2 b o e)
 refine sU ?_;have wrLt:∀b∈wr,b<s2.heap.objs.size:=λb hb=>by obtain⟨o,e⟩:=live2 b (I.sub b hb);exact Heap.lt_size e
 have fpLt:∀b∈fp,b<s2.heap.objs.size:=λb hb=>by obtain⟨o,e⟩:=live2 b hb;exact Heap.lt_size e
 have hz:∀b,(b∈wr\/b=s2.heap.objs.size)->s.heap.get? b=none/\∃o,s3.heap.get? b=some o:=λb hb=>by
  rcases hb with hb|hb
  ·refine⟨?_, ?_⟩
   ·cases e:s.heap.get? b with
    |none=>rfl
    |some o=>have:=Kp.keep k1 b o e;rw[nwr b hb]at this;injections this
   ·obtain⟨o,e⟩:=live2 b (I.sub b hb);exact⟨o,k23 b o e⟩
  ·rw[hb]
   refine⟨?_,_,acc3⟩;cases e:s.heap.get? s2.heap.objs.size with
   |none=>rfl
   |some o=>exact absurd (Heap.lt_size (Kp.keep k2 _ o e)) (Nat.lt_irrefl _)
 have S4:=CZ Ok En S ks3 (Z:=λb=>b∈wr\/b=s2.heap.objs.size) hz;generalize hs4:({ s3 with heap:=pushCells (s3.heap.push { cls := .type "dict",data := .dict #[] }) scope.names }:Shared)=s4;have h4:s4.heap=pushCells (s3.heap.push { cls := .type "dict",data := .dict #[] }) scope.names:=by rw[<-hs4]
 rw[<-h4]at S4;have k34:∀b o,s3.heap.get? b=some o->s4.heap.get? b=some o:=λb o e=>by rw[h4];exact pushCells_keeps _ _ _ _ (Heap.get?_push_of_some _ e)
 have k14:∀b o,s1.heap.get? b=some o->s4.heap.get? b=some o:=λb o e=>k34 b o (k23 b o (Kp.keep k12 b o e))
 have same4:∃h tk,s4={ s with heap:=h,toks:=tk }:=by
  obtain⟨h2,t2,e2,_⟩:=k2;refine⟨s4.heap,t2, ?_⟩;rw[<-hs4,<-hs3,e2]
 have aboveDead1:∀b,s2.heap.objs.size<=b->s1.heap.get? b=none:=λb hb=>by
  cases e:s1.heap.get? b with
  |none=>rfl
  |some o=>exact absurd (Heap.lt_size (Kp.keep k12 b o e)) (Nat.not_lt.mpr hb)
 have accwr:s2.heap.objs.size∉wr:=λh=>Nat.lt_irrefl _ (wrLt _ h)
 have st4:St 0 s4.heap:=I.frame _ _ _ st2 λb _ o e=>k34 b o (k23 b o e)
 have C4:l6 G A (f0 scope env s3.heap.objs.size) scope.names (λb=>ak env X O b\/(b∈wr\/b=s2.heap.objs.size)) (bA scope ρ) t ns it s2.heap.objs.size fp wr (aR κ (E κ ρ) t iter).2 St (ak env X O) s1.heap s4:=
  { env:=zh Ok En _
    tg:=λx hx=>⟨hns x hx,(jT (ρ:=ρ) ow x hx).1,(jT (ρ:=ρ) ow x hx).2.1⟩
    it:=I
    hwr:=λb hb => .inr (.inl hb)
    hacc := .inr (.inr rfl)
    own:=λb hb=>by
     rcases kM hc hb with e|e|e
     ·rw[e,sz3];exact⟨Nat.succ_ne_self _,λh=>Nat.lt_irrefl _ (Nat.lt_trans (Nat.lt_succ_self _) (wrLt _ h))⟩
     ·rw[sz3]at e
      have e' : @LE.le Nat _ (s2.heap.objs.size+1+1) b:=e;refine⟨λh => ?_,λh => ?_⟩
      ·have h : @Eq Nat b s2.heap.objs.size:=h
       omega
      ·have h : @LT.lt Nat _ b s2.heap.objs.size:=wrLt _ h
       omega
     ·obtain⟨o,e'⟩:=S.alive b (.inr (.inl e))
      refine⟨λh => ?_,λh => ?_⟩
      ·exact absurd (h▸Heap.lt_size (Kp.keep k2 b o e')) (Nat.lt_irrefl _)
      ·have:=Kp.keep k1 b o e';rw[nwr b h]at this;injections this
    fpAcc:=λh=>Nat.lt_irrefl _ (fpLt _ h)
    fpPl:=λx hx b hb pl=>by
     have h1:=hnew s3.heap x b hx pl hc;have h2 : @LT.lt Nat _ b s2.heap.objs.size:=fpLt b hb;rw[sz3]at h1;have h1 : @LE.le Nat _ (s2.heap.objs.size+1) b:=h1
     omega
    on:=⟨λb o _ e=>k14 b o e,λb o e fb=>by
     rcases Bg hc fb with f|(f|f)|f
     ·exact f
     ·rw[nwr b f]at e;injections e
     ·rw[aboveDead1 b (by rw[f];exact Nat.le_refl _)]at e;injections e
     ·rw[aboveDead1 b (by rw[sz3]at f;exact Nat.le_of_succ_le f)]at e;cases e⟩ }
 have J4:JE G (f0 scope env s3.heap.objs.size) (λb=>ak env X O b\/(b∈wr\/b=s2.heap.objs.size)) ns s2.heap.objs.size wr s4 (bA scope ρ) [] s4:=
  ⟨⟨s4.heap,s4.toks,rfl⟩,λb o _ _ _ e=>e,λb o _ e=>⟨o,e⟩,S4,_,_,k34 _ _ acc3,Reps.nil⟩
 have hY1:∀b,(ak env X O b\/b=s2.heap.objs.size)->(ak env X O b\/(b∈wr\/b=s2.heap.objs.size))/\b∉wr:=λb hb=>by
  rcases hb with hb|hb
  ·refine⟨.inl hb,λh => ?_⟩
   obtain⟨o,e⟩:=S.alive b hb;have:=Kp.keep k1 b o e;rw[nwr b h]at this;injections this
  ·exact⟨.inr (.inr hb),by rw[hb];exact accwr⟩
 have loop:codeAny (model G.p G.w) A (.compLoop (.ListComp elt (⟨t,iter,ifs,0⟩::rest) scope pos) 0 it (.ref s2.heap.objs.size) (f0 scope env s3.heap.objs.size)) (compPost (model G.p G.w) A E' use Q (.ref s2.heap.objs.size) s3.heap.objs.size) s4:=by
  refine lp _ _ (λb=>ak env X O b\/b=s2.heap.objs.size) it _ fp wr St _ _ s4 C4 J4 st4 hY1 _ λs5 J5=>q _ _ s5 ⟨?_, ?_, ?_, ?_, ?_, ?_⟩
  ·obtain⟨h4',t4',e4⟩:=same4
   obtain⟨h5',t5',e5⟩:=J5.same;refine⟨s5.heap,t5',by rw[e5,e4],λb o e => ?_⟩;have e3:=ks3 b o e;have lt2:b<s2.heap.objs.size:=Heap.lt_size (Kp.keep k2 b o e);refine J5.keep b o (Nat.ne_of_lt lt2) (λh => ?_) (λx hx pl => ?_) (k34 b o e3)
   ·have:=Kp.keep k1 b o e;rw[nwr b h]at this;injections this
   ·have h1:=hnew s3.heap x b hx pl hc
    rw[sz3]at h1;exact Nat.lt_irrefl _ (Nat.lt_trans lt2 h1)
  ·exact(hz _ (.inr rfl)).1
  ·cases e:s.heap.get? s3.heap.objs.size with
   |none=>rfl
   |some o=>exact absurd (Heap.lt_size (ks3 _ o e)) (Nat.lt_irrefl _)
  ·rw[sz3];exact Nat.succ_ne_self _
  ·obtain⟨g5,F5,_⟩:=J5.sta.look
   obtain⟨m,hm,_⟩:=F5.ns;exact⟨m,hm⟩
  ·obtain⟨us,m,el,rl⟩:=J5.lst
   refine⟨us,m,el,Reps.on ⟨λb o nb e=>e,λb o e fb => ?_⟩ rl⟩
   rcases fb with f|f|f
   ·exact .inl (.inl f)
   ·exact .inl (.inr f)
   ·exact .inr (.inl (.inl f))
 refine codeAny_compStart_list loop (I.self 0 s4 _ _ st4 loop)
theorem pZ(f:V->Bool×Bool×R):∀l:List V,(bw f l).2.length<=l.length
 |[]=>Nat.le_refl _
 |x::l=>by
  have ih:=pZ f l;rw[nv];cases(f x).2.1 with
  |true=>show((f x).2.2.2::(bw f l).2).length<=_;simp only[List.length_cons];omega
  |false=>show(bw f l).2.length<=_;simp only[List.length_cons];omega
theorem p0 (Fa:aB G A Φ) (En:ao env κ) {E:Ev} (GE:∀κ env X ρ,ao env κ->az G A env X ρ (E κ ρ)) (GT:∀κ env X ρ,ao env κ->i7 G A env X ρ (E κ ρ)) {elt:Expr} {gs:List Comprehension} {pos:Pos}
 (ok:(ji E κ ρ elt gs scope).1=true) {s:Shared} (S:cq G env X O ρ s.heap) {use:Option (Value->Sem Unit)} {E':Value->Shared->Prop} {Q:Value->Shared->Prop}:
 ∃res,(ji E κ ρ elt gs scope).2 = .list res/\((∀acc C s',F1 G (ak env X O) s res acc C s'->compPost (model G.p G.w) A E' use Q (.ref acc) C (.ok .next) s') ->
 wpAny (model G.p G.w) A (comprehension (.ListComp elt gs scope pos) scope env (firstIterPos gs pos) (newList []) (firstAsync gs) (firstIter gs env) use) Q E' s):=by
 have two:∀{a b c d e f:Bool},(a&&b&&c&&d&&e&&f)=true->a=true/\b=true/\c=true/\d=true/\e=true/\f=true:=λ{a b c d e f} h=>by
  have h5:=aG h;have h4:=aG h5.1;have h3:=aG h4.1;have h2:=aG h3.1;exact⟨(aG h2.1).1,(aG h2.1).2,h2.2,h3.2,h4.2,h5.2⟩
 induction gs using List.casesOn with
 |nil=>exact ad ok
 |cons g gs=>induction gs using List.casesOn with
 |nil=>
  obtain⟨t,it,ifs,n⟩:=g;obtain⟨o0,o1,o2,o3,o4,o5⟩:=two ok;have o5:=of_decide_eq_true o5;obtain rfl:=of_decide_eq_true o0;refine⟨_,rfl,λq => ?_⟩;have Ok:=nq o1;refine sW (ns:=aC t) (rest:=[]) Fa En GE Ok o2 (λ_ h=>h) (λh x b hx pl hc=>kN Ok hc o2 hx pl) o3 (λcv Y Y1 it' acc fp wr St X0 hp s4 C J st hY R qR => ?_) S q;refine Ci (compTurn_list elt t it ifs scope pos it' (.ref acc) cv) Fa.none C (λρ'=>GE _ _ _ _ C.env) (λρ'=>GT _ _ _ _ C.env) J st o4 ?_ hY (λs' J'=>qR s' (by simpa using J'));rw[List.nil_append];exact Nat.le_trans (pZ _ _) o5
 |cons g' gs=>induction gs using List.casesOn with
 |cons=>exact ad ok
 |nil=>
  obtain⟨t,it,ifs0,n⟩:=g;obtain⟨t',it',ifs,n'⟩:=g';obtain⟨o1,o2',o3',o3,o4,o5⟩:=two ok;have k1:=aG o1;have k2:=aG k1.1;have k3:=aG k2.1;have o5:=of_decide_eq_true o5;obtain rfl:=List.isEmpty_iff.mp k3.2;obtain rfl:=of_decide_eq_true (aG k3.1).1;obtain rfl:=of_decide_eq_true (aG k3.1).2;have o2:=k1.2;have o1:=k2.2;refine⟨_,rfl,λq => ?_⟩;have Ok:=nq o1;refine sW (ns:=aC t++aC t') (rest:=[⟨t',it',ifs,0⟩]) Fa En GE Ok o2 (λ_ h=>List.mem_append_left _ h) (λh x b hx pl hc => ?_) o3 (λcv Y Y1 itv acc fp wr St X0 hp s4 C J st hY R qR => ?_) S q
  ·rcases List.mem_append.mp hx with hx|hx
   ·exact kN Ok hc o2 hx pl
   ·exact kN Ok hc o2' hx pl
  ·refine Et (Φ:=Φ) Fa C (λX ρ'=>GE _ _ _ _ C.env) (λX ρ'=>GT _ _ _ _ C.env) (λx hx=>⟨List.mem_append_right _ hx,(jT (ρ:=ρ) o2' x hx).1,(jT (ρ:=ρ) o2' x hx).2.1,λh => ?_⟩) J st o4 ?_ hY (λs' J'=>qR s' (by simpa using J'))
   ·have:=List.all_eq_true.mp o3' x hx
    rw[Bool.not_eq_true',<-Bool.not_eq_true,mem_iff]at this;exact this h
   ·rw[List.nil_append];exact o5
theorem ly (Fa:aB G A Φ) (En:ao env κ) {E:Ev} (GE:∀κ env X ρ,ao env κ->az G A env X ρ (E κ ρ)) (GT:∀κ env X ρ,ao env κ->i7 G A env X ρ (E κ ρ)) {elt:Expr} {gs:List Comprehension} {pos:Pos}
 (ok:(ji E κ ρ elt gs scope).1=true):iN G A env X ρ (eval (.ListComp elt gs scope pos) env) (ji E κ ρ elt gs scope).2:=by
 intro O s S E' Q q;rw[arm_eval_ListComp];obtain⟨res,e,run⟩:=p0 (pos:=pos) (use:=none) (Q:=Q) (E':=E') Fa En GE GT ok S;rw[e]at q;refine run λacc C s' Rn => ?_
 obtain⟨us,m,el,rl⟩:=Rn.lst;refine⟨_,Rn.ns.choose_spec,λh' hs => ?_⟩;have k':∀b o,b≠C->s'.heap.get? b=some o->h'.get? b=some o:=λb o n e=>(hs.2 b n).trans e
 obtain⟨hh,tk,e',kk⟩:=Rn.keeps;subst e';refine q _ _ ⟨h',tk,rfl,λb o e=>k' b o (λh => ?_) (kk b o e)⟩ (am.list_iff.mpr ⟨acc,us,rfl,λfa => ?_,⟨_,k' _ _ Rn.ne.symm el,rfl,_,rfl⟩,Reps.on ⟨λb o nb e=>k' b o (λh=>nb (.inr (.inr h))) e,λb o e fb => .inl fb⟩ rl⟩)
 ·rw[h,Rn.loc]at e;injections e
 ·obtain⟨o,e⟩:=S.alive acc fa;rw[Rn.dead]at e;injections e
end
end
section
open PySem PySem.W PySem.Calls PyProof.Rows
section
variable {G:Cfg} {A:Around} {env:Env} {X:Addr->Prop} {κ:List (Str×NameKind)} {ρ:Rho} {Φ:Fns}
theorem sX(Fa:aB G A Φ){E:Expr->R}(GE:az G A env X ρ E){a:Expr}{ops:List CmpOp}{bs:List Expr}{pos:Pos}(ok:(v9 E a ops bs).1=true):
 iN G A env X ρ (eval (.Compare a ops bs pos) env) (v9 E a ops bs).2/\∀m,CW G A env X ρ (isTrue (.Compare a ops bs pos) env m) (aa (v9 E a ops bs).2).2:=by
 induction ops using List.casesOn with
 |nil=>exact ad ok
 |cons op ops=>induction ops using List.casesOn with
  |nil=>induction bs using List.casesOn with
   |nil=>exact ad ok
   |cons b bs=>induction bs using List.casesOn with
    |nil=>exact⟨Bc Fa GE ok,λm=>xa Fa GE ok⟩
    |cons _ _=>exact ad ok
  |cons _ _=>exact ad ok
theorem C3(Fa:aB G A Φ)(En:ao env κ){E:Ev}{τ:Tau}(GE:az G A env X ρ (E κ ρ)){o i:Expr}{pos:Pos}(ok:(wa E τ κ ρ o i).1=true):
 iN G A env X ρ (eval (.Subscript o i pos) env) (wa E τ κ ρ o i).2:=by
 induction i using Expr.casesOn with
 |Slice lo hi st p=>exact y2 GE ok
 |_=>exact Bd Fa En GE ok
theorem jU{as bs:List Expr}(h:jJ as=some bs):∃p q,as=[.Call (.Name "range" p) bs [] q]:=by
 induction as using List.casesOn with
 |nil=>exact av h
 |cons a r=>induction r using List.casesOn with
  |nil=>
   have h:v6 (gx a)=some bs:=h;generalize e:gx a=o at h
   induction o using Option.casesOn with
   |none=>exact av h
   |some x=>
    obtain⟨p,q,rfl⟩:=ij e;have h:(bif ag (nm x.1) (nm "range")then some x.2 else none)=some bs:=h;generalize c:ag (nm x.1) (nm "range")=b at h
    induction b using Bool.casesOn with
    |true=>rw[<-Option.some.inj h,ig c];exact⟨p,q,rfl⟩
    |false=>exact av h
  |cons _ _=>exact av h
theorem xh (Fa:aB G A Φ) (En:ao env κ) {E:Ev} (GE:az G A env X ρ (E κ ρ)) {f:Str} {p:Pos} {as:List Expr} {pos:Pos} {o:Option (List Expr)} (ho:(bif ag (nm f) (nm "list")then jJ as else none)=o)
 (ok:(mh o (bH (E κ ρ) κ (nm f) (nm "range")) (fF Φ (E κ ρ) κ (nm f) as)).1=true):
 iN G A env X ρ (eval (.Call (.Name f p) as [] pos) env) (mh o (bH (E κ ρ) κ (nm f) (nm "range")) (fF Φ (E κ ρ) κ (nm f) as)).2:=by
 induction o using Option.casesOn with
 |none=>exact y4 Fa En GE ok
 |some bs=>
  generalize c:ag (nm f) (nm "list")=b at ho
  induction b using Bool.casesOn with
  |false=>exact av ho
  |true=>
   have ef:=ig c;obtain⟨p',q,rfl⟩:=jU ho;subst ef;exact rj Fa En GE ok
theorem Bh(Fa:aB G A Φ)(En:ao env κ){E:Ev}(GE:az G A env X ρ (E κ ρ)){f:Expr}{as:List Expr}{pos:Pos}(ok:(kz Φ E κ ρ f as pos).1=true):
 iN G A env X ρ (eval (.Call f as [] pos) env) (kz Φ E κ ρ f as pos).2:=by
 induction f using Expr.casesOn with
 |Attribute o m q=>
  unfold kz at ok |-;dsimp only at ok |-;generalize h:(q.endLine==pos.line&&decide (as.length<30))=b at ok |-
  induction b using Bool.casesOn with
  |true=>
   have h:=aG h;exact Be Fa GE (eq_of_beq h.1) (of_decide_eq_true h.2) ok
  |false=>exact ad ok
 |Name f p=>
  unfold kz at ok |-;dsimp only at ok |-;generalize c1:ag (nm f) (nm "len")=b at ok |-
  induction b using Bool.casesOn with
  |true=>
   have ef:=ig c1;subst ef
   induction as using List.casesOn with
   |nil=>exact ad ok
   |cons a r=>induction r using List.casesOn with
    |nil=>exact CX Fa En GE ok
    |cons _ _=>exact ad ok
  |false=>exact xh Fa En GE rfl ok
 |_=>exact ad ok
theorem p8{v:V}{e:Expr}(h:∀m:Sem Value,isTrue e env m=(do let v <-m;standAt e.pos;holding [v] (truthy v)))(r:iN G A env X ρ (eval e env) v)(tr:(aa v).1=true):CW G A env X ρ (isTrue e env (eval e env)) (aa v).2:=by
 intro O s S E Q q;rw[h];exact wpAny_bind (r O s S _ _ λu s1 k1 r1=>wpAny_bind (wpAny_standAt (wpAny_holding (kH tr r1 λs2 k2=>q s2 (Kp.trans k1 k2)))))
theorem gC(Fa:aB G A Φ)(τ:Tau):∀(n:Nat) (κ:List (Str×NameKind)) (env:Env) (X:Addr->Prop) (ρ:Rho),ao env κ->az G A env X ρ (ev Φ τ n κ ρ)/\i7 G A env X ρ (ev Φ τ n κ ρ)
 |0,κ,env,X,ρ,En=>⟨⟨λe ok=>absurd ok Bool.false_ne_true,λ_ _ _=>rfl,λ_ _=>rfl⟩,⟨λe ok=>absurd ok Bool.false_ne_true⟩⟩
 |n+1,κ,env,X,ρ,En=>by
  have ih:=gC Fa τ n;have GE:=λκ env X ρ h=>(ih κ env X ρ h).1
  have GT:=λκ env X ρ h=>(ih κ env X ρ h).2
  have ge:=GE κ env X ρ En;have gt:=GT κ env X ρ En;have main:∀e,(ev Φ τ (n+1) κ ρ e).1=true->iN G A env X ρ (eval e env) (ev Φ τ (n+1) κ ρ e).2:=by
   intro e ok
   induction e using Expr.casesOn with
   |Constant c k p=>exact yV ok
   |Name x p=>exact Em Fa En ok
   |BinOp a op b p=>exact yW Fa En ge ok
   |BoolOp op es p=>induction op using BoolOp.casesOn with
    |And=>exact yY ge p ok
    |Or=>exact Ce ge p ok
   |UnaryOp op a p=>exact A3 ge ok
   |IfExp t a b p=>exact A5 ge gt ok
   |Compare a ops bs p=>exact(sX Fa ge ok).1
   |Subscript o i p=>exact C3 Fa En ge ok
   |Attribute o a p=>exact y3 Fa ge ok
   |List es p=>exact A4 ge ok
   |Tuple es k p=>exact CV ge ok
   |ListComp elt gs scope p=>exact ly Fa En GE GT ok
   |Call f as kw p=>induction kw using List.casesOn with
    |nil=>exact Bh Fa En ge ok
    |cons k kw=>injections ok
   |_=>injections ok
  refine⟨⟨main,λ_ _ _=>rfl,λ_ _=>rfl⟩,⟨λe ok tr => ?_⟩⟩
  induction e using Expr.casesOn with
  |UnaryOp op a p=>induction op using UnaryOp.casesOn with
   |Not=>
    have ok':((ev Φ τ n κ ρ a).1&&(aa (ev Φ τ n κ ρ a).2).1)=true:=ok;rw[Bool.and_eq_true]at ok';intro O s S E Q q;rw[arm_isTrue_UnaryOp];exact wpAny_bind (gt.ok a ok'.1 ok'.2 O s S _ _ λs1 k1=>wpAny_pure (q s1 k1))
   |_=>exact p8 (λ_=>rfl) (main _ ok) tr
  |BoolOp op es p=>induction op using BoolOp.casesOn with
   |And=>exact wl gt ok tr
   |Or=>exact yZ gt ok tr
  |IfExp t a b p=>
   have ok':(pf (ev Φ τ n κ ρ) t a b).1=true:=ok;have tr':(aa (pf (ev Φ τ n κ ρ) t a b).2).1=true:=tr;show CW G A env X ρ _ (aa (pf (ev Φ τ n κ ρ) t a b).2).2;unfold pf at ok' tr' |-;simp only[Bool.and_eq_true]at ok';simp only[bD]at tr' |-;obtain⟨⟨o1,o2⟩,o3⟩:=ok';intro O s S E Q q;rw[arm_isTrue_IfExp];refine wpAny_bind (gt.ok t o1 o2 O s S _ _ λs1 k1 => ?_);cases c:(aa (ev Φ τ n κ ρ t).2).2 with
   |true=>
    rw[c]at o3 q tr';simp only[cond_true]at o3 q tr';exact gt.ok a o3 tr' O s1 (S.keeps (Kp.keep k1)) _ _ λs2 k2=>q s2 (Kp.trans k1 k2)
   |false=>
    rw[c]at o3 q tr';simp only[cond_false]at o3 q tr';exact gt.ok b o3 tr' O s1 (S.keeps (Kp.keep k1)) _ _ λs2 k2=>q s2 (Kp.trans k1 k2)
  |Compare a ops bs p=>exact(sX Fa ge ok).2 _
  |_=>exact p8 (λ_=>rfl) (main _ ok) tr
end
end
section
open PySem PySem.W PySem.Calls PyProof.Rows
noncomputable def jt(t s:Mine.Slot):Prop:=t = .un\/t=s\/∃l,s = .own l/\t = .val (.list l)
noncomputable def wt:Mine.Slot->Bool
 | .own _=>true
 |_=>false
noncomputable abbrev mm:Addr->Prop:=λ_=>False
noncomputable def Mv(env:Env)(O O':Nm->Option Addr)(s s':Shared):Prop:=∃h tk,s'={ s with heap:=h,toks:=tk }/\On (ak env mm O) (ak env mm O') s.heap h
section
variable {G:Cfg} {A:Around} {env:Env} {X:Addr->Prop} {κ:List (Str×NameKind)} {ρ ρ':Rho} {O:Nm->Option Addr} {Φ:Fns}
theorem Mv.refl(s:Shared):Mv env O O s s:=⟨s.heap,s.toks,rfl,λ_ _ _ e=>e,λ_ _ _ f=>f⟩
theorem Mv.trans{O' O'':Nm->Option Addr}{a b c:Shared}(x:Mv env O O' a b)(y:Mv env O' O'' b c):Mv env O O'' a c:=by
 obtain⟨h,t,rfl,k⟩:=x;obtain⟨h',t',rfl,k'⟩:=y;exact⟨h',t',rfl,k.trans k'⟩
theorem Mv.of_keeps{s s':Shared}(k:Keeps s s'):Mv env O O s s':=by
 obtain⟨h,t,rfl,k⟩:=k;exact⟨h,t,rfl,λb o _ e=>k b o e,λ_ _ _ f=>f⟩
theorem cq.coarse{h:Heap}(S:cq G env X O ρ h)(w:∀x,jt (lk ρ' x) (lk ρ x)):
 ∃O',cq G env X O' ρ' h/\∀P b,ak env P O' b->ak env P O b:=by
 refine⟨λy=>if wt (lk ρ' y)=true then O y else none, ?_⟩;have sub:∀P b,ak env P (λy=>if wt (lk ρ' y)=true then O y else none) b->ak env P O b:=λP b fb=>by
  rcases fb with f|f|⟨y,f⟩
  ·exact .inl f
  ·exact .inr (.inl f)
  ·dsimp only at f
   split at f
   ·exact .inr (.inr ⟨y,f⟩)
   ·cases f
 have on:On (ak env X O) (ak env X (λy=>if wt (lk ρ' y)=true then O y else none)) h h:=⟨λ_ _ _ e=>e,λb o _ f=>sub X b f⟩;refine⟨⟨S.old,λb f=>S.new b (sub X b f),λb f=>S.alive b (sub X b f), ?_,λx y a e e' => ?_,λx a e => ?_⟩,sub⟩
 ·obtain⟨g,F,hg⟩:=S.look
  refine⟨g,F,λx hx => ?_⟩;have hs:=hg x hx
  rcases w (nm x)with e|e|⟨l,e1,e2⟩
  ·rw[e];trivial
  ·have hs':gS G (ak env X O) h (O (nm x)) (lk ρ' (nm x)) (g x):=by rw[e];exact hs
   cases hv:lk ρ' (nm x)with
   |un=>trivial
   |val v=>
    rw[hv]at hs';obtain⟨u,e3,r⟩:=hs';exact⟨u,e3,r.on on⟩
   |own l=>
    rw[hv]at hs';obtain⟨a,vs,e3,e4,e5,r⟩:=hs';exact⟨a,vs,e3,by show(if wt (.own l)=true then O (nm x)else none)=some a;exact e4,e5,Reps.on on r⟩
  ·rw[e1]at hs
   obtain⟨a,vs,e3,e4,⟨m,e5⟩,r⟩:=hs;rw[e2];refine⟨.ref a,e3,am.list_iff.mpr ⟨a,vs,rfl,λfa => ?_,⟨_,e5,rfl,_,rfl⟩,Reps.on on r⟩⟩
   rcases fa with f|f|⟨y,f⟩
   ·exact(S.apart _ a e4).1 f
   ·exact(S.apart _ a e4).2 f
   ·dsimp only at f
    split at f
    ·rename_i hy
     have:=S.inj y (nm x) a f e4;rw[this,e2]at hy;injections hy
    ·cases f
 ·split at e<;>split at e'
  ·exact S.inj x y a e e'
  all_goals first|injections e|cases e'
 ·split at e
  ·exact S.apart x a e
  ·injections e
theorem p9(ns:List Nm):∀(ρ:Rho) (x:Nm),jt (lk (freeze ns ρ) x) (lk ρ x)
 |[],x => .inl rfl
 |(y,s)::r,x=>by
  have ih:=p9 ns r x;cases c:ag x y with
  |true=>
   induction s using Mine.Slot.casesOn with
   |own l=>
    show jt (lk ((y,bif jI y ns then .val (.list l)else .own l)::freeze ns r) x) (lk ((y, .own l)::r) x);rw[jg,jg,c];simp only[cond_true];cases jI y ns with
    |true=>exact .inr (.inr ⟨l,rfl,rfl⟩)
    |false=>exact .inr (.inl rfl)
   |un=>show jt (lk ((y, .un)::freeze ns r) x) _;rw[jg,jg,c];exact .inr (.inl rfl)
   |val v=>show jt (lk ((y, .val v)::freeze ns r) x) _;rw[jg,jg,c];exact .inr (.inl rfl)
  |false=>
   have e2:lk ((y,s)::r) x=lk r x:=by
    show(bif ag x y then s else lk r x)=_;rw[c];rfl
   rw[e2]
   induction s using Mine.Slot.casesOn with
   |own l=>
    show jt (lk ((y,bif jI y ns then .val (.list l)else .own l)::freeze ns r) x) _;have:lk ((y,bif jI y ns then .val (.list l)else .own l)::freeze ns r) x=lk (freeze ns r) x:=by
     show(bif ag x y then _ else lk (freeze ns r) x)=_;rw[c];rfl
    rw[this];exact ih
   |un=>
    have:lk (freeze ns ((y, .un)::r)) x=lk (freeze ns r) x:=by
     show(bif ag x y then _ else lk (freeze ns r) x)=_;rw[c];rfl
    rw[this];exact ih
   |val v=>
    have:lk (freeze ns ((y, .val v)::r)) x=lk (freeze ns r) x:=by
     show(bif ag x y then _ else lk (freeze ns r) x)=_;rw[c];rfl
    rw[this];exact ih
theorem rq:∀(ρ0 ρ:Rho) (x:Nm),jt (lk (mask ρ0 ρ) x) (lk ρ x)
 |[],ρ,x=>by
  have:mask [] ρ=[]:=by cases ρ<;>rfl
  rw[this];exact .inl rfl
 |(y0,s0)::r0,[],x=>by
  have:mask ((y0,s0)::r0) []=[]:=by induction s0 using Mine.Slot.casesOn<;>rfl
  rw[this];exact .inl rfl
 |(y0,s0)::r0,(y,s)::r,x=>by
  have ih:=rq r0 r x;have key:∃s',mask ((y0,s0)::r0) ((y,s)::r)=(y,s')::mask r0 r/\jt s' s:=by
   induction s0 using Mine.Slot.casesOn with
   |un=>exact⟨.un,rfl, .inl rfl⟩
   |val v=>exact⟨s,rfl, .inr (.inl rfl)⟩
   |own l=>exact⟨s,rfl, .inr (.inl rfl)⟩
  obtain⟨s',e,hl⟩:=key;rw[e];show jt (bif ag x y then s' else lk (mask r0 r) x) (bif ag x y then s else lk r x);cases ag x y with
  |true=>exact hl
  |false=>exact ih
theorem xi {X1:Addr->Prop} {s:Shared} {a:Addr} {vs:Array Value} {m:Nat} {l:List V} (S:cq G env X1 O ρ s.heap) (En:ao env κ) {x:Str} (hx:af (kd κ (nm x))=true) (ha:X1 a) (hX:∀b,X b->X1 b/\b≠a) (hO:¬eF env a)
 (el:s.heap.get? a=some { cls := .type "list",data := .seq vs m }) (rl:Reps G (ak env X1 O) s.heap l vs.toList) {E:Value->Shared->Prop} {Q:Unit->Shared->Prop}
 (q:∀h' tk,cq G env X (upd O (nm x) (some a)) (put ρ (nm x) (.own l)) h'->(∀b o,¬fX env x b->s.heap.get? b=some o->h'.get? b=some o)->(∀b o,s.heap.get? b=some o->∃o',h'.get? b=some o')->Q () { s with heap:=h',toks:=tk }):
 wpAny (model G.p G.w) A (storeName env x (.ref a)) Q E s:=by
 obtain⟨g,F,hg⟩:=S.look;have hx':af (env.kindOf x)=true:=(En.names x).trans hx;have full:∀b,ak env X (upd O (nm x) (some a)) b->ak env X1 O b:=λb fb=>by
  rcases fb with h|h|⟨y,h⟩
  ·exact .inl (hX b h).1
  ·exact .inr (.inl h)
  ·unfold upd at h
   split at h
   ·injection h with h;exact .inl (h▸ha)
   ·exact .inr (.inr ⟨y,h⟩)
 refine lm En.kind F hx' λh' tk c hc F' kc al=>q h' tk ?_ (λb o nb e=>kc b o (λe'=>nb (e'▸hc)) e) al
 have hcO:eF env c:=hc.own;have on:On (ak env X1 O) (ak env X (upd O (nm x) (some a))) s.heap h':=⟨λb o nb e=>kc b o (λe'=>nb (.inr (.inl (e'▸hcO)))) e,λb o _ f=>full b f⟩;refine⟨λb o e => ?_,λb fb=>S.new b (full b fb),λb fb => ?_,⟨_,F',λy hy => ?_⟩,λy z b e e' => ?_,λy b e => ?_⟩
 ·refine kc b o (λe' => ?_) (S.old b o e)
  have:=S.new b (.inr (.inl (e'▸hcO)));rw[this]at e;injections e
 ·obtain⟨o,e⟩:=S.alive b (full b fb);exact al b o e
 ·by_cases ey:y=x
  ·subst ey
   rcases(fk (.own l) (nm y) ρ (nm y)).1 rfl with e|e
   ·rw[e,if_pos rfl]
    refine⟨a,vs,rfl,by unfold upd;rw[if_pos rfl],⟨m,kc _ _ (λe'=>hO (e'▸hcO)) el⟩,Reps.on on rl⟩
   ·rw[e];trivial
  ·have ny:nm y≠nm x:=λe=>ey (cy e)
   rw[(fk (.own l) (nm x) ρ (nm y)).2 ny,if_neg ey];have:upd O (nm x) (some a) (nm y)=O (nm y):=by unfold upd;rw[if_neg ny]
   rw[this];exact(hg y hy).on on λb eb o eo=>kc b o (λe'=>(S.apart (nm y) b eb).2 (e'▸hcO)) eo
 ·unfold upd at e e'
  by_cases e1:y=nm x<;>by_cases e2:z=nm x
  ·rw[e1,e2]
  ·rw[if_pos e1]at e;rw[if_neg e2]at e'
   injection e with e;subst e
   exact absurd ha (S.apart z _ e').1
  ·rw[if_neg e1]at e;rw[if_pos e2]at e'
   injection e' with e';subst e'
   exact absurd ha (S.apart y _ e).1
  ·rw[if_neg e1]at e;rw[if_neg e2]at e'
   exact S.inj y z b e e'
 ·unfold upd at e
  split at e
  ·injection e with e;subst e
   exact⟨λh=>(hX _ h).2 rfl,hO⟩
  ·exact⟨λh=>(S.apart y b e).1 (hX b h).1,(S.apart y b e).2⟩
theorem cq.own_set {h h':Heap} {x:Str} {l l':List V} {a:Addr} {vs':Array Value} {m':Nat} (S:cq G env X O ρ h) (hx:af (env.kindOf x)=true) (hl:lk ρ (nm x) = .own l) (hO:O (nm x)=some a) (k:∀b o,b≠a->h.get? b=some o->h'.get? b=some o)
 (el:h'.get? a=some { cls := .type "list",data := .seq vs' m' }) (rl:Reps G (ak env X O) h l' vs'.toList):cq G env X O (put ρ (nm x) (.own l')) h':=by
 have fa:ak env X O a := .inr (.inr ⟨_,hO⟩);have ap:=S.apart _ a hO;have on:On (ak env X O) (ak env X O) h h':=⟨λb o nb e=>k b o (λe'=>nb (e'▸fa)) e,λ_ _ _ f=>f⟩;refine⟨λb o e=>k b o (λe'=>by have:=S.new b (e'▸fa);rw[this]at e;injections e) (S.old b o e),S.new,λb fb => ?_, ?_,S.inj,S.apart⟩
 ·by_cases e:b=a
  ·rw[e];exact⟨_,el⟩
  ·obtain⟨o,e'⟩:=S.alive b fb;exact⟨o,k b o e e'⟩
 ·obtain⟨g,F,hg⟩:=S.look
  refine⟨g,⟨let⟨m,⟨o,es,ep,e,r⟩,hm⟩:=F.ns;⟨m,⟨o,es,ep,k _ _ (λe'=>ap.2 (e' ▸ .inl rfl)) e,r⟩,hm⟩,λy hy => ?_,F.apart⟩,λy hy => ?_⟩
  ·obtain⟨c,hc,o,e,r⟩:=F.cell y hy
   exact⟨c,hc,o,k _ _ (λe'=>ap.2 (e' ▸ .inr ⟨y,mem_of_lookup hc⟩)) e,r⟩
  ·by_cases ey:nm y=nm x
   ·rcases(fk (.own l') (nm x) ρ (nm y)).1 ey with e|e
    ·rw[e]
     have hs:=hg x hx;rw[hl]at hs;obtain⟨a',vs,e1,e2,_,_⟩:=hs;rw[hO]at e2;injection e2 with e2;subst e2
     rw[cy ey];exact⟨a,vs',e1,hO,⟨m',el⟩,Reps.on on rl⟩
    ·rw[e];trivial
   ·rw[(fk (.own l') (nm x) ρ (nm y)).2 ey]
    exact(hg y hy).on on λb eb o eo=>k b o (λe'=>ey (S.inj (nm y) (nm x) a (e'▸eb) hO)) eo
theorem zm{E:Expr->R}(GE:az G A env X ρ E){es:List Expr}{pos:Pos}(ok:jj (dz E es)=true):lu G A env X ρ (eval (.List es pos) env) (dz E es).2:=by
 unfold jj at ok;simp only[Bool.and_eq_true,decide_eq_true_eq]at ok;intro O s S E' Q q;refine wpAny_List_spliced (cT GE pos ok.1 O s S _ _ λus s1 k1 r1=>⟨by rw[<-r1.length];exact dD ok.2, ?_⟩);refine q _ us.toArray 0 _ (Kp.trans k1 (Kp.push s1 _ s1.toks)) ?_ (Heap.get?_push_size _ rfl) ?_
 ·cases e:s.heap.get? s1.heap.objs.size with
  |none=>rfl
  |some o=>exact absurd (Heap.lt_size (Kp.keep k1 _ o e)) (Nat.lt_irrefl _)
 ·exact Reps.addNew (by simpa using r1) (eV _ _) (aX _ (Nat.le_refl _))
end
end
section
open PySem PySem.W PySem.Calls PyProof.Rows
noncomputable def ku(s t:Mine.Slot):Prop:=t=s\/∃l,s = .own l/\t = .val (.list l)
theorem ku.refl(s:Mine.Slot):ku s s := .inl rfl
theorem ku.trans{a b c:Mine.Slot}(x:ku a b)(y:ku b c):ku a c:=by
 rcases x with rfl|⟨l,rfl,rfl⟩
 ·exact y
 ·rcases y with rfl|⟨l',e,_⟩
  ·exact .inr ⟨l,rfl,rfl⟩
  ·injections e
noncomputable def keys(ρ:Rho):List Nm:=ρ.map Prod.fst
structure bt(ns:List Nm)(ρ ρ':Rho):Prop where
 keys:keys ρ'=keys ρ
 le:∀x,x∉ns->ku (lk ρ x) (lk ρ' x)
theorem bt.refl(ns:List Nm)(ρ:Rho):bt ns ρ ρ:=⟨rfl,λx _ => .refl _⟩
theorem bt.trans{ns:List Nm}{a b c:Rho}(x:bt ns a b)(y:bt ns b c):bt ns a c:=⟨y.keys.trans x.keys,λz h=>(x.le z h).trans (y.le z h)⟩
theorem bt.more{ns ms:List Nm}{a b:Rho}(x:bt ns a b)(h:∀z,z∈ns->z∈ms):bt ms a b:=⟨x.keys,λz hz=>x.le z λh'=>hz (h z h')⟩
theorem jV(x:Nm)(t:Mine.Slot):∀ρ:Rho,keys (put ρ x t)=keys ρ
 |[]=>rfl
 |(y,s)::r=>by
  have ih:=jV x t r;rw[yy];cases ag x y with
  |true=>rfl
  |false=>show y::keys (put r x t)=y::keys r;rw[ih]
theorem bt.put{ns:List Nm}{x:Nm}{t:Mine.Slot}{ρ:Rho}(h:x∈ns):bt ns ρ (put ρ x t):=⟨jV x t ρ,λy hy=>by rw[(fk t x ρ y).2 (λe=>hy (e▸h))];exact .refl _⟩
theorem lz(ns:List Nm):∀ρ:Rho,keys (freeze ns ρ)=keys ρ
 |[]=>rfl
 |(y,s)::r=>by
  have ih:=lz ns r
  induction s using Mine.Slot.casesOn<;>(show y::keys (freeze ns r)=y::keys r;rw[ih])
theorem qa(ns:List Nm):∀(ρ:Rho) (x:Nm),ku (lk ρ x) (lk (freeze ns ρ) x)
 |[],x => .refl _
 |(y,s)::r,x=>by
  have ih:=qa ns r x;have key:∃s',freeze ns ((y,s)::r)=(y,s')::freeze ns r/\ku s s':=by
   induction s using Mine.Slot.casesOn with
   |own l=>
    refine⟨_,rfl, ?_⟩;cases jI y ns with
    |true=>exact .inr ⟨l,rfl,rfl⟩
    |false=>exact .refl _
   |un=>exact⟨_,rfl, .refl _⟩
   |val v=>exact⟨_,rfl, .refl _⟩
  obtain⟨s',e,hl⟩:=key;rw[e];show ku (bif ag x y then s else lk r x) (bif ag x y then s' else lk (freeze ns r) x);cases ag x y with
  |true=>exact hl
  |false=>exact ih
theorem bt.freeze{ns ms:List Nm}{ρ:Rho}:bt ns ρ (freeze ms ρ):=⟨lz ms ρ,λx _=>qa ms ρ x⟩
theorem xj{ns:List Nm}:∀{ρ0 ρ:Rho},keys ρ=keys ρ0->(∀x,x∉ns->ku (lk ρ0 x) (lk ρ x))->keys (mask ρ0 ρ)=keys ρ0/\∀x,ku (lk ρ0 x) (lk ρ x)->ku (lk ρ0 x) (lk (mask ρ0 ρ) x)
 |[],ρ,hk,_=>by
  have:ρ=[]:=by cases ρ with|nil=>rfl|cons a r=>injections hk
  subst this;exact⟨rfl,λx h=>h⟩
 |(y0,s0)::r0,[],hk,_=>by injections hk
 |(y0,s0)::r0,(y,s)::r,hk,h=>by
  have hk':y=y0/\keys r=keys r0:=by
   injection hk with h1 h2;exact⟨h1,h2⟩
  obtain⟨rfl,hk'⟩:=hk';have key:∃s',mask ((y,s0)::r0) ((y,s)::r)=(y,s')::mask r0 r/\(ku s0 s->ku s0 s'):=by
   induction s0 using Mine.Slot.casesOn with
   |un=>exact⟨.un,rfl,λ_ => .refl _⟩
   |val v=>exact⟨s,rfl,id⟩
   |own l=>exact⟨s,rfl,id⟩
  obtain⟨s',e,hl⟩:=key;have rest:keys (mask r0 r)=keys r0/\∀x,ku (lk r0 x) (lk r x)->ku (lk r0 x) (lk (mask r0 r) x):=mask_aux r0 r hk'
  rw[e];refine⟨by show y::keys (mask r0 r)=y::keys r0;rw[rest.1],λx => ?_⟩;show ku (bif ag x y then s0 else lk r0 x) (bif ag x y then s else lk r x)->ku (bif ag x y then s0 else lk r0 x) (bif ag x y then s' else lk (mask r0 r) x);cases ag x y with
  |true=>exact hl
  |false=>exact rest.2 x
where mask_aux:∀(r0 r:Rho),keys r=keys r0->keys (mask r0 r)=keys r0/\∀x,ku (lk r0 x) (lk r x)->ku (lk r0 x) (lk (mask r0 r) x)
 |[],ρ,hk=>by
  have:ρ=[]:=by cases ρ with|nil=>rfl|cons a r=>injections hk
  subst this;exact⟨rfl,λx h=>h⟩
 |(y0,s0)::r0,[],hk=>by injections hk
 |(y0,s0)::r0,(y,s)::r,hk=>by
  have hk':y=y0/\keys r=keys r0:=by
   injection hk with h1 h2;exact⟨h1,h2⟩
  obtain⟨rfl,hk'⟩:=hk';have key:∃s',mask ((y,s0)::r0) ((y,s)::r)=(y,s')::mask r0 r/\(ku s0 s->ku s0 s'):=by
   induction s0 using Mine.Slot.casesOn with
   |un=>exact⟨.un,rfl,λ_ => .refl _⟩
   |val v=>exact⟨s,rfl,id⟩
   |own l=>exact⟨s,rfl,id⟩
  obtain⟨s',e,hl⟩:=key;have rest:=mask_aux r0 r hk';rw[e];refine⟨by show y::keys (mask r0 r)=y::keys r0;rw[rest.1],λx => ?_⟩;show ku (bif ag x y then s0 else lk r0 x) (bif ag x y then s else lk r x)->ku (bif ag x y then s0 else lk r0 x) (bif ag x y then s' else lk (mask r0 r) x);cases ag x y with
  |true=>exact hl
  |false=>exact rest.2 x
theorem bt.mask{ns:List Nm}{ρ0 ρ:Rho}(h:bt ns ρ0 ρ):bt ns ρ0 (mask ρ0 ρ):=
 let m:=xj (ns:=ns) h.keys h.le
 ⟨m.1,λx hx=>m.2 x (h.le x hx)⟩
theorem sY{ns:List Nm}{c:Bool}:∀{a b:Rho},keys a=keys b->keys (gQ ns c a b)=keys a/\∀x,lk (gQ ns c a b) x=bif jI x ns then mI c (lk a x) (lk b x)else mJ (lk a x) (lk b x)
 |[],[],_=>⟨rfl,λx=>by show Mine.Slot.un=_;cases jI x ns<;>rfl⟩
 |[],(_,_)::_,h=>by injections h
 |(_,_)::_,[],h=>by injections h
 |(y,s)::r,(y',t)::q,h=>by
  have h':y=y'/\keys r=keys q:=by injection h with h1 h2;exact⟨h1,h2⟩
  obtain⟨rfl,h'⟩:=h';have ih:=sY (ns:=ns) (c:=c) h';refine⟨by show y::keys (gQ ns c r q)=y::keys r;rw[ih.1],λx => ?_⟩;show(bif ag x y then(bif jI y ns then mI c s t else mJ s t)else lk (gQ ns c r q) x)=bif jI x ns then mI c (bif ag x y then s else lk r x) (bif ag x y then t else lk q x)else mJ (bif ag x y then s else lk r x) (bif ag x y then t else lk q x)
  cases e:ag x y with
  |true=>rw[au.mp e];rfl
  |false=>exact ih.2 x
theorem wu{r s t:Mine.Slot}(h1:ku r s)(h2:ku r t):ku r (mJ s t)/\jt (mJ s t) s/\jt (mJ s t) t:=by
 rcases h1 with rfl|⟨l,rfl,rfl⟩
 ·rcases h2 with rfl|⟨l,rfl,rfl⟩
  ·induction t using Mine.Slot.casesOn with
   |un=>exact⟨.refl _, .inl rfl, .inl rfl⟩
   |val v=>exact⟨.refl _, .inr (.inl rfl), .inr (.inl rfl)⟩
   |own l=>exact⟨.refl _, .inr (.inl rfl), .inr (.inl rfl)⟩
  ·exact⟨.inr ⟨l,rfl,rfl⟩, .inr (.inr ⟨l,rfl,rfl⟩), .inr (.inl rfl)⟩
 ·rcases h2 with rfl|⟨l',e,rfl⟩
  ·exact⟨.inr ⟨l,rfl,rfl⟩, .inr (.inl rfl), .inr (.inr ⟨l,rfl,rfl⟩)⟩
  ·injection e with e;subst e
   exact⟨.inr ⟨l,rfl,rfl⟩, .inr (.inl rfl), .inr (.inl rfl)⟩
theorem u6{s t:Mine.Slot}{c:Bool}:jt (mI c s t) (bif c then s else t):=by
 induction s using Mine.Slot.casesOn with
 |val a=>induction t using Mine.Slot.casesOn with
  |val b=>
   show jt (.val (dy c a b)) _;rw[bD];induction c using Bool.casesOn<;>exact .inr (.inl rfl)
  |_=>exact .inl rfl
 |own a=>induction t using Mine.Slot.casesOn with
  |own b=>induction c using Bool.casesOn<;>exact .inr (.inl rfl)
  |_=>exact .inl rfl
 |un=>exact .inl rfl
theorem sZ{ns:List Nm}{c:Bool}{ρ a b:Rho}(ha:bt ns ρ a)(hb:bt ns ρ b):bt ns ρ (gQ ns c a b)/\∀x,jt (lk (gQ ns c a b) x) (lk (bif c then a else b) x):=by
 have hk:keys a=keys b:=ha.keys.trans hb.keys.symm;have m:=sY (ns:=ns) (c:=c) hk;refine⟨⟨m.1.trans ha.keys,λx hx => ?_⟩,λx => ?_⟩
 ·rw[m.2 x]
  have:jI x ns=false:=by rw[<-Bool.not_eq_true,mem_iff];exact hx
  rw[this];exact(wu (ha.le x hx) (hb.le x hx)).1
 ·rw[m.2 x]
  cases e:jI x ns with
  |true=>
   have:=u6 (s:=lk a x) (t:=lk b x) (c:=c)
   induction c using Bool.casesOn<;>exact this
  |false=>
   have hx:x∉ns:=by rw[<-mem_iff,e];exact Bool.false_ne_true
   have k:=wu (ha.le x hx) (hb.le x hx);cases c
   ·exact k.2.2
   ·exact k.2.1
noncomputable def ar(ns:List Nm)(ρ:Rho):fV->Prop
 | .next ρ'=>bt ns ρ ρ'
 | .brk ρ'=>bt ns ρ ρ'
 |_=>True
theorem ar.from{ns:List Nm}{a b:Rho}{o:fV}(h:bt ns a b)(x:ar ns b o):ar ns a o:=by
 induction o using fV.casesOn with
 |next r=>exact h.trans x
 |brk r=>exact h.trans x
 |_=>trivial
theorem ar.more{ns ms:List Nm}{a:Rho}{o:fV}(x:ar ns a o)(h:∀z,z∈ns->z∈ms):ar ms a o:=by
 induction o using fV.casesOn with
 |next r=>exact bt.more x h
 |brk r=>exact bt.more x h
 |_=>trivial
theorem ar.seq{ns:List Nm}{ρ:Rho}{r:Res}{k:Rho->Res}(x:ar ns ρ r.2)(y:∀ρ',ar ns ρ' (k ρ').2):ar ns ρ (seq r k).2:=by
 obtain⟨b,o⟩:=r
 induction o using fV.casesOn with
 |next r=>exact ar.from x (y r)
 |brk r=>exact x
 |_=>trivial
theorem kO:∀{ts:List Expr} {vs:List V} {ρ:Rho},bt (ts.filterMap nmT) ρ (eU ts vs ρ).2
 |[],[],ρ => .refl _ _
 |[],_::_,ρ => .refl _ _
 |t::ts,vs,ρ=>by
  induction t using Expr.casesOn with
  |Name x p=>induction vs using List.casesOn with
   |nil=>exact .refl _ _
   |cons v vs=>
    rw[mP];exact(bt.put (List.mem_cons_self ..)).trans ((kO (ts:=ts) (vs:=vs)).more λz hz=>List.mem_cons_of_mem _ hz)
  |_=>exact .refl _ _
theorem s8{t:Expr}{v:V}{ρ:Rho}:bt (aC t) ρ (bh t v ρ).2:=by
 induction t using Expr.casesOn with
 |Name x p=>exact bt.put (List.mem_singleton.mpr rfl)
 |Tuple ts k p=>induction v using V.casesOn with
  |tup vs=>exact kO
  |_=>exact .refl _ _
 |_=>exact .refl _ _
theorem ju{v:V}:∀{ts:List Expr} {ρ:Rho},bt (ts.flatMap mS) ρ (sG v ts ρ).2
 |[],ρ => .refl _ _
 |t::ts,ρ=>by
  induction t using Expr.casesOn with
  |Name x p=>exact(bt.put (List.mem_cons_self ..)).trans ((ju (ts:=ts)).more λz hz=>List.mem_cons_of_mem _ hz)
  |_=>exact .refl _ _
theorem xk{t:Expr}:∀z,z∈aC t->z∈mS t:=by
 intro z hz
 induction t using Expr.casesOn<;>first|exact hz|injections hz
theorem zn{E:Expr->R}{κ:List (Str×NameKind)}{ρ:Rho}{ts:List Expr}{e:Expr}{o:Option (List Expr)}:ar (aC (.Tuple ts 0 default)) ρ (CO E κ ρ ts e o).2:=by
 induction o using Option.casesOn with
 |none=>exact s8 (t := .Tuple ts 0 default)
 |some es=>exact kO
theorem xl{ok:Bool}{ρ:Rho}{x:Nm}{k v:R}{s:Mine.Slot}:ar [x] ρ (AO ok ρ x k v s).2:=by
 induction s using Mine.Slot.casesOn with
 |own l=>
  show ar [x] ρ (CN (ok&&k.1) ρ x l v k.2).2;generalize k.2=j
  induction j using V.casesOn with
  |int j=>exact bt.put (List.mem_singleton.mpr rfl)
  |_=>trivial
 |_=>trivial
theorem zo{E:Expr->R}{κ:List (Str×NameKind)}{μ:List Nm}{ρ:Rho}{t e:Expr}:ar (mS t) ρ (AP E κ μ ρ t e).2:=by
 induction t using Expr.casesOn with
 |Name x p=>exact bt.put (List.mem_singleton.mpr rfl)
 |Tuple ts k p=>exact zn
 |Subscript o i p=>induction o using Expr.casesOn with
  |Name x q=>exact xl
  |_=>trivial
 |_=>trivial
theorem pk{E:Expr->R}{κ:List (Str×NameKind)}{μ:List Nm}{ρ:Rho}{ts:List Expr}{e:Expr}:ar (ts.flatMap mS) ρ (ei E κ μ ρ ts e).2:=by
 induction ts using List.casesOn with
 |nil=>trivial
 |cons t ts=>induction ts using List.casesOn with
  |nil=>
   rw[List.flatMap_cons,List.flatMap_nil,List.append_nil];exact zo
  |cons t2 ts=>induction ts using List.casesOn with
   |nil=>exact ju
   |cons t3 ts=>induction ts using List.casesOn with
    |nil=>exact ju
    |cons _ _=>trivial
theorem u7{E:Expr->R}{κ:List (Str×NameKind)}{Φ:Fns}{ρ:Rho}{t:Expr}{op:Operator}{e:Expr}:ar (mS t) ρ (sH E κ Φ ρ t op e).2:=by
 induction t using Expr.casesOn with
 |Name x p=>exact bt.put (List.mem_singleton.mpr rfl)
 |_=>trivial
theorem xm{ok:Bool}{ρ:Rho}{x:Nm}{v:R}{s:Mine.Slot}:ar [x] ρ (AQ ok ρ x v s).2:=by
 induction s using Mine.Slot.casesOn with
 |own l=>exact bt.put (List.mem_singleton.mpr rfl)
 |_=>trivial
theorem s9{E:Expr->R}{κ:List (Str×NameKind)}{ρ:Rho}{e:Expr}:ar (AN e) ρ (mT E κ ρ e).2:=by
 unfold AN mT;generalize sF e=o
 induction o using Option.casesOn with
 |none=>trivial
 |some x=>exact xm
theorem qb{f:V->Rho->Res}{ns:List Nm}(hf:∀v ρ,ar ns ρ (f v ρ).2):∀(xs:List V) {ρ0 ρ:Rho},bt ns ρ0 ρ->ar ns ρ0 (bY f ρ0 xs ρ).2
 |[],ρ0,ρ,h=>h
 |x::xs,ρ0,ρ,h=>by
  have h1:=hf x ρ;rw[ia];cases e:(f x ρ).2 with
  |next r=>
   rw[e]at h1;exact qb hf xs (h.trans h1).mask
  |brk r=>
   rw[e]at h1;exact(h.trans h1).mask
  |ret v=>trivial
  |bad=>trivial
theorem lA{t:Rho->R}{f:Rho->Res}{ns:List Nm}(hf:∀ρ,ar ns ρ (f ρ).2):∀(W:Nat) (ρ:Rho),ar ns ρ (bR t f W ρ).2
 |0,ρ=>trivial
 |W+1,ρ=>by
  have h1:=hf ρ;rw[jL];cases(aa (t ρ).2).2 with
  |false=>exact bt.refl _ _
  |true=>
   simp only[cond_true];cases e:(f ρ).2 with
   |next r=>
    rw[e]at h1;exact ar.from h1 (lA hf W r)
   |brk r=>rw[e]at h1;exact h1
   |ret v=>trivial
   |bad=>trivial
theorem rt:∀{k:Nat} {s:Stmt},fits k s=true->fits (k+1) s=true/\d9 (k+1) s=d9 k s
 |0,s,h=>by injections h
 |k+1,s,h=>by
  have lists:∀ss:List Stmt,ay (fits k) ss=true->ay (fits (k+1)) ss=true/\aM (d9 (k+1)) ss=aM (d9 k) ss:=λss=>by
   induction ss with
   |nil=>intro _;exact⟨rfl,rfl⟩
   |cons a r ih=>
    intro hs;have hs':fits k a=true/\ay (fits k) r=true:=aG hs;have h1:=rt hs'.1;have h2:=ih hs'.2;exact⟨Bool.and_eq_true_iff.mpr ⟨h1.1,h2.1⟩,by rw[kB,kB,h1.2,h2.2]⟩
  induction s using Stmt.casesOn with
  |For t it b els p=>
   have h':ay (fits k) b=true:=h;have:=lists b h';exact⟨this.1,by show mS t++aM (d9 (k+1)) b=mS t++aM (d9 k) b;rw[this.2]⟩
  |While t b els p=>
   have h':ay (fits k) b=true:=h;have:=lists b h';exact⟨this.1,this.2⟩
  |If t a b p=>
   have h':(ay (fits k) a&&ay (fits k) b)=true:=h;rw[Bool.and_eq_true]at h';have h1:=lists a h'.1;have h2:=lists b h'.2;exact⟨by show(ay (fits (k+1)) a&&ay (fits (k+1)) b)=true;rw[h1.1,h2.1];rfl,by show aM (d9 (k+1)) a++aM (d9 (k+1)) b=aM (d9 k) a++aM (d9 k) b;rw[h1.2,h2.2]⟩
  |_=>exact⟨rfl,rfl⟩
theorem nB{k:Nat}{s:Stmt}(h:fits k s=true):∀j,fits (k+j) s=true/\d9 (k+j) s=d9 k s
 |0=>⟨h,rfl⟩
 |j+1=>by
  have ih:=nB h j;have:=rt ih.1;exact⟨this.1,this.2.trans ih.2⟩
theorem Bi{j k:Nat}{s:Stmt}(h:fits j s=true)(h':fits k s=true):d9 j s=d9 k s:=by
 rcases Nat.le_total j k with e|e
 ·obtain⟨d,rfl⟩:=Nat.le.dest e
  exact(nB h d).2.symm
 ·obtain⟨d,rfl⟩:=Nat.le.dest e
  exact(nB h' d).2
theorem il{j k:Nat}:∀{ss:List Stmt},ay (fits j) ss=true->ay (fits k) ss=true->aM (d9 j) ss=aM (d9 k) ss
 |[],_,_=>rfl
 |a::r,h,h'=>by
  have h1:fits j a=true/\ay (fits j) r=true:=aG h;have h2:fits k a=true/\ay (fits k) r=true:=aG h';rw[kB,kB,Bi h1.1 h2.1,il h1.2 h2.2]
theorem im{k:Nat}:∀{ss:List Stmt},ay (fits k) ss=true->ay (fits (k+1)) ss=true
 |[],_=>rfl
 |a::r,h=>by
  have h1:fits k a=true/\ay (fits k) r=true:=aG h;exact Bool.and_eq_true_iff.mpr ⟨(rt h1.1).1,im h1.2⟩
theorem gE{f:Stmt->Bool}:∀{a b:List Stmt},ay f (a++b)=(ay f a&&ay f b)
 |[],b=>rfl
 |x::a,b=>by rw[List.cons_append,wb,wb,gE (a:=a),Bool.and_assoc]
theorem io{f:Stmt->List Nm}:∀{a b:List Stmt},aM f (a++b)=aM f a++aM f b
 |[],b=>rfl
 |x::a,b=>by rw[List.cons_append,kB,kB,io (a:=a),List.append_assoc]
theorem u8{ns:List Nm}{okc c:Bool}{a b:Res}:(∃ra rb,a.2 = .next ra/\b.2 = .next rb/\(pG ns okc c a b).2 = .next (gQ ns c ra rb))\/(pG ns okc c a b).2 = .bad:=by
 obtain⟨a1,a2⟩:=a;obtain⟨b1,b2⟩:=b
 induction a2 using fV.casesOn with
 |next ra=>induction b2 using fV.casesOn with
  |next rb=>exact .inl ⟨ra,rb,rfl,rfl,rfl⟩
  |_=>exact .inr rfl
 |_=>exact .inr rfl
theorem rx{Φ:Fns}{τ:Tau}{μ:List Nm}{W:Nat}{κ:List (Str×NameKind)}:∀(n:Nat) (ss:List Stmt) (ρ:Rho) (k:Nat),ay (fits k) ss=true->ar (aM (d9 k) ss) ρ (ex Φ τ μ W κ n ss ρ).2
 |0,ss,ρ,k,_=>trivial
 |n+1,[],ρ,k,_=>bt.refl _ _
 |n+1,s::rest,ρ,0,h=>by
  have h1:(fits 0 s&&ay (fits 0) rest)=true:=h;exact ad h1
 |n+1,s::rest,ρ,k+1,h=>by
  have ih:=rx (Φ:=Φ) (τ:=τ) (μ:=μ) (W:=W) (κ:=κ) n;have h1:fits (k+1) s=true/\ay (fits (k+1)) rest=true:=aG h;have inR:∀z,z∈aM (d9 (k+1)) rest->z∈aM (d9 (k+1)) (s::rest):=λz hz=>List.mem_append_right _ hz
  have inS:∀z,z∈d9 (k+1) s->z∈aM (d9 (k+1)) (s::rest):=λz hz=>List.mem_append_left _ hz
  have tail:∀ρ',ar (aM (d9 (k+1)) (s::rest)) ρ' (ex Φ τ μ W κ n rest ρ').2:=λρ'=>(ih rest ρ' (k+1) h1.2).more inR
  induction s using Stmt.casesOn with
  |Assign ts e p=>exact ar.from bt.freeze (ar.seq (pk.more inS) tail)
  |AugAssign t op e p=>exact ar.from bt.freeze (ar.seq (u7.more inS) tail)
  |Expr e p=>exact ar.from bt.freeze (ar.seq (s9.more inS) tail)
  |Pass p=>exact tail ρ
  |Break p=>exact bt.refl _ _
  |Return v p=>induction v using Option.casesOn<;>trivial
  |If t a b p=>
   have h2:ay (fits k) a=true/\ay (fits k) b=true:=by
    have:(ay (fits k) a&&ay (fits k) b)=true:=h1.1
    rwa [Bool.and_eq_true]at this
   have ea:aM (d9 (k+1)) a=aM (d9 k) a:=il (im h2.1) h2.1;have eb:aM (d9 (k+1)) b=aM (d9 k) b:=il (im h2.2) h2.2;have inA:∀z,z∈aM (d9 k) a->z∈aM (d9 (k+1)) (.If t a b p::rest):=λz hz=>inS z (List.mem_append_left _ hz)
   have inB:∀z,z∈aM (d9 k) b->z∈aM (d9 (k+1)) (.If t a b p::rest):=λz hz=>inS z (List.mem_append_right _ hz)
   refine ar.from bt.freeze (b:=freeze (aK 40 t) ρ) ?_;show ar _ (freeze (aK 40 t) ρ) (bif bf a&&bf b&&ay (fits 20) a&&ay (fits 20) b then _ else _:Res).2;cases hc:(bf a&&bf b&&ay (fits 20) a&&ay (fits 20) b)with
   |true=>
    simp only[cond_true];simp only[Bool.and_eq_true]at hc;refine ar.seq ?_ tail;have sa:=ih a (freeze (aK 40 t) ρ) k h2.1;have sb:=ih b (freeze (aK 40 t) ρ) k h2.2
    rcases u8 (ns:=aM (d9 20) a++aM (d9 20) b) (okc:=(ev Φ τ 40 κ (freeze (aK 40 t) ρ) t).1&&(aa (ev Φ τ 40 κ (freeze (aK 40 t) ρ) t).2).1) (c:=(aa (ev Φ τ 40 κ (freeze (aK 40 t) ρ) t).2).2) (a:=ex Φ τ μ W κ n a (freeze (aK 40 t) ρ)) (b:=ex Φ τ μ W κ n b (freeze (aK 40 t) ρ))with⟨ra,rb,e1,e2,ej⟩|ej
    ·rw[ej]
     rw[e1]at sa;rw[e2]at sb;have e20:aM (d9 20) a++aM (d9 20) b=aM (d9 k) a++aM (d9 k) b:=by rw[il hc.1.2 h2.1,il hc.2 h2.2]
     rw[e20];have sa':bt (aM (d9 k) a++aM (d9 k) b) (freeze (aK 40 t) ρ) ra:=bt.more sa λz hz=>List.mem_append_left _ hz
     have sb':bt (aM (d9 k) a++aM (d9 k) b) (freeze (aK 40 t) ρ) rb:=bt.more sb λz hz=>List.mem_append_right _ hz
     exact(sZ sa' sb').1.more λz hz=>by
      rcases List.mem_append.mp hz with hz|hz
      ·exact inA z hz
      ·exact inB z hz
    ·rw[ej];trivial
   |false=>
    simp only[cond_false];unfold jM;have fa:ay (fits (k+1)) (a++rest)=true:=by rw[gE,im h2.1,h1.2];rfl
    have fb:ay (fits (k+1)) (b++rest)=true:=by rw[gE,im h2.2,h1.2];rfl
    have sa:=(ih (a++rest) (freeze (aK 40 t) ρ) (k+1) fa).more (ms:=aM (d9 (k+1)) (.If t a b p::rest)) λz hz=>by
     rw[io,ea]at hz
     rcases List.mem_append.mp hz with hz|hz
     ·exact inA z hz
     ·exact inR z hz
    have sb:=(ih (b++rest) (freeze (aK 40 t) ρ) (k+1) fb).more (ms:=aM (d9 (k+1)) (.If t a b p::rest)) λz hz=>by
     rw[io,eb]at hz
     rcases List.mem_append.mp hz with hz|hz
     ·exact inB z hz
     ·exact inR z hz
    dsimp only;cases(aa (ev Φ τ 40 κ (freeze (aK 40 t) ρ) t).2).2 with
    |true=>exact sa
    |false=>exact sb
  |For t it b els p=>
   induction els using List.casesOn with
   |cons _ _=>trivial
   |nil=>
    have h2:ay (fits k) b=true:=h1.1;refine ar.from bt.freeze (b:=freeze (aK 40 it) ρ) (ar.seq ?_ tail);generalize freeze (aK 40 it) ρ=ρ1;refine ar.more (ns:=mS t++aM (d9 k) b) ?_ inS;dsimp only;refine qb (λv ρ' => ?_) _ (bt.refl _ ρ1);dsimp only;exact ar.from ((s8).more λz hz=>List.mem_append_left _ (xk z hz)) ((ih b _ k h2).more λz hz=>List.mem_append_right _ hz)
  |While t b els p=>
   induction els using List.casesOn with
   |cons _ _=>trivial
   |nil=>
    have h2:ay (fits k) b=true:=h1.1;refine ar.from bt.freeze (b:=freeze (aK 40 t) ρ) (ar.seq ?_ tail);generalize freeze (aK 40 t) ρ=ρ1;exact(lA (λρ'=>ih b ρ' k h2) W ρ1).more inS
  |_=>trivial
theorem lB{x:Nm}:∀{ρ:Rho},x∉keys ρ->lk ρ x = .un
 |[],_=>rfl
 |(y,s)::r,h=>by
  have h':x≠y/\x∉keys r:=by simpa[keys]using h
  show(bif ag x y then s else lk r x)=_;have:ag x y=false:=by rw[<-Bool.not_eq_true,au];exact h'.1
  rw[this];exact lB h'.2
theorem lC{x:Nm}{t:Mine.Slot}:∀{ρ:Rho},x∈keys ρ->lk (put ρ x t) x=t
 |[],h=>by injections h
 |(y,s)::r,h=>by
  rw[yy];cases c:ag x y with
  |true=>
   show(bif ag x y then t else lk r x)=t;rw[c];rfl
  |false=>
   show(bif ag x y then s else lk (put r x t) x)=t;rw[c];have h':x∈keys r:=by
    rcases List.mem_cons.mp h with e|h
    ·rw[au.mpr e]at c;cases c
    ·exact h
   exact lC h'
section
variable {G:Cfg} {A:Around} {env:Env} {X:Addr->Prop} {κ:List (Str×NameKind)} {ρ:Rho} {O:Nm->Option Addr} {Φ:Fns}
noncomputable def dP(G:Cfg)(env:Env)(X:Addr->Prop)(O:Nm->Option Addr)(s:Shared):fV->Flow->Shared->Prop
 | .next ρ', .next,s'=>∃O',cq G env X O' ρ' s'.heap/\Mv env O O' s s'
 | .brk ρ', .brk,s'=>∃O',cq G env X O' ρ' s'.heap/\Mv env O O' s s'
 | .ret v, .ret u,s'=>∃O',am G (ak env X O') s'.heap v u/\Mv env O O' s s'
 |_,_,_=>False
theorem dP.from{O':Nm->Option Addr}{s s' s'':Shared}{o:fV}{f:Flow}(m:Mv env O O' s s')(h:dP G env X O' s' o f s''):dP G env X O s o f s'':=by
 induction o using fV.casesOn<;>cases f<;>first|exact h.elim|(obtain⟨O2,h1,h2⟩:=h;exact⟨O2,h1,m.trans h2⟩)
noncomputable def dQ(G:Cfg)(A:Around)(env:Env)(X:Addr->Prop)(ρ:Rho)(t:Sem Flow)(r:Res):Prop:=
 r.1=true->∀O s,cq G env X O ρ s.heap->∀(E:Value->Shared->Prop) (Q:Flow->Shared->Prop),(∀f s',dP G env X O s r.2 f s'->Q f s')->wpAny (model G.p G.w) A t Q E s
theorem bS{x:Nm}{b:Addr}{P:Addr->Prop}(h:ak env P (upd O x none) b):ak env P O b:=by
 rcases h with h|h|⟨y,h⟩
 ·exact .inl h
 ·exact .inr (.inl h)
 ·unfold upd at h
  split at h
  ·injections h
  ·exact .inr (.inr ⟨y,h⟩)
theorem u9{s s1:Shared}(k:Keeps s s1){h':Heap}{tk:Nat}{x:Str}(kp:∀b o,¬fX env x b->s1.heap.get? b=some o->h'.get? b=some o):Mv env O (upd O (nm x) none) s { s1 with heap:=h',toks:=tk }:=by
 obtain⟨h1,t1,rfl,k1⟩:=k;exact⟨h',tk,rfl,λb o nb e=>kp b o (λpl=>nb (.inr (.inl pl.own))) (k1 b o e),λb o _ f=>bS f⟩
theorem lD{E:Expr->R}(En:ao env κ){x:Str}{p pos:Pos}{e:Expr}{v:V}(he:iN G A env X ρ (eval e env) v)(hx:af (kd κ (nm x))=true)(hs:swapsWith e (some (.Name x p)) pos.line env=pure false):
 dQ G A env X ρ (exec (.Assign [.Name x p] e pos) env) (true, .next (put ρ (nm x) (.val v))):=by
 intro _ O s S E' Q q;refine wpAny_Assign_Name (he O s S _ _ λu s1 k1 r1=>bE (S.keeps (Kp.keep k1)) En hx r1 λh' tk S' kp al => ?_) hs;exact q _ _ ⟨_,S',u9 k1 kp⟩
theorem ry(S:cq G env X O ρ h){a:Addr}(d:h.get? a=none){b:Addr}(f:ak env X O b):b≠a:=λe=>by
 subst e;obtain⟨o,e'⟩:=S.alive b f;rw[d]at e';cases e'
theorem vd{x:Str}{p pos:Pos}{e:Expr}{l:List V}(En:ao env κ)(he:lu G A env X ρ (eval e env) l)(hx:af (kd κ (nm x))=true)(hs:swapsWith e (some (.Name x p)) pos.line env=pure false):
 dQ G A env X ρ (exec (.Assign [.Name x p] e pos) env) (true, .next (put ρ (nm x) (.own l))):=by
 intro _ O s S E' Q q;refine wpAny_Assign_Name (he O s S _ _ λa vs m s1 k1 d el rl => ?_) hs;obtain⟨S1,on1⟩:=S.more (Kp.keep k1) (Z:=λb=>b=a) λb hb=>by rw[hb];exact⟨d,_,el⟩
 have ne:=λb (f:ak env X O b)=>ry S d f
 refine xi (l:=l) (X:=X) (X1:=λb=>X b\/b=a) S1 En hx (.inr rfl) (λb hb=>⟨.inl hb,ne b (.inl hb)⟩) (λh=>ne a (.inr (.inl h)) rfl) el ?_ λh' tk S' kp al => ?_
 ·refine Reps.on ⟨λ_ _ _ e=>e,λb o _ f => ?_⟩ rl
  rcases f with(f|f)|f|f
  ·exact .inl (.inl f)
  ·exact .inr f
  ·exact .inl (.inr (.inl f))
  ·exact .inl (.inr (.inr f))
 ·refine q _ _ ⟨_,S', ?_⟩
  obtain⟨h1,t1,e1,kk⟩:=k1;subst e1;refine⟨h',tk,rfl,λb o nb e=>kp b o (λpl=>nb (.inr (.inl pl.own))) (kk b o e),λb o e f => ?_⟩
  rcases f with f|f|⟨y,f⟩
  ·exact .inl f
  ·exact .inr (.inl f)
  ·unfold upd at f
   split at f
   ·injection f with f;subst f;rw[d]at e;injections e
   ·exact .inr (.inr ⟨y,f⟩)
theorem zp {E:Ev} (En:ao env κ) (GE:az G A env X ρ (E κ ρ)) {es:List Expr} {b:Expr} {p pos:Pos} {l:List V} {n:Int}
 (o1:(E κ ρ (.List es p)).1=true) (o2:(E κ ρ b).1=true) (e1:(E κ ρ (.List es p)).2 = .list l) (e2:(E κ ρ b).2 = .int n) (hn : -1000<=n/\n<=1000) (hl:l.length<=1000):
 lu G A env X ρ (eval (.BinOp (.List es p) .Mult b pos) env) (eZ l n):=by
 intro O s S E' Q q;refine wpAny_BinOp (GE.ok _ o1 O s S _ _ λu s1 k1 r1=>GE.ok b o2 O s1 (S.keeps (Kp.keep k1)) _ _ λv s2 k2 r2 => ?_);rw[e1]at r1;rw[e2]at r2;obtain⟨t,rfl⟩:=am.int_iff.mp r2;refine mY (Seen.of (r1.on (On.of_keeps (Kp.keep k2)))) hn.2 ⋯ hl _ _ λvs tk r => ?_
 refine q _ vs.toArray 0 _ (Kp.trans k1 (Kp.trans k2 (Kp.push s2 _ tk))) ?_ (Heap.get?_push_size _ rfl) ?_
 ·cases e:s.heap.get? s2.heap.objs.size with
  |none=>rfl
  |some o=>exact absurd (Heap.lt_size (Kp.keep k2 _ o (Kp.keep k1 _ o e))) (Nat.lt_irrefl _)
 ·exact Reps.addNew (by simpa using r) (eV _ _) (aX _ (Nat.le_refl _))
theorem Bj {E:Ev} (Fa:aB G A Φ) (En:ao env κ) (GE:az G A env X ρ (E κ ρ)) {a b:Expr} {pos:Pos} {l l':List V}
 (o1:(look κ ρ (E κ ρ) a).1=true) (o2:(E κ ρ b).1=true) (e1:(look κ ρ (E κ ρ) a).2 = .list l) (e2:(E κ ρ b).2 = .list l') (hl:l.length+l'.length<=cap):
 lu G A env X ρ (eval (.BinOp a .Add b pos) env) (l++l'):=by
 intro O s S E' Q q;refine wpAny_BinOp (mj Fa En GE o1 O s S _ _ λu s1 k1 r1=>GE.ok b o2 O s1 (S.keeps (Kp.keep k1)) _ _ λv s2 k2 r2 => ?_);rw[e1]at r1;rw[e2]at r2;refine mX (r1.keeps (Kp.keep k2)) r2 hl _ _ λvs tk r => ?_
 refine q _ vs.toArray 0 _ (Kp.trans k1 (Kp.trans k2 (Kp.push s2 _ tk))) ?_ (Heap.get?_push_size _ rfl) ?_
 ·cases e:s.heap.get? s2.heap.objs.size with
  |none=>rfl
  |some o=>exact absurd (Heap.lt_size (Kp.keep k2 _ o (Kp.keep k1 _ o e))) (Nat.lt_irrefl _)
 ·exact Reps.addNew (by simpa using r) (eV _ _) (aX _ (Nat.le_refl _))
noncomputable def dH:Expr->Bool
 | .ListComp _ _ _ _=>true
 | .SetComp _ _ _ _=>true
 | .DictComp _ _ _ _ _=>true
 |_=>false
inductive i9:Expr->Prop
 |list (es:List Expr) (p:Pos):i9 (.List es p)
 |mult (es:List Expr) (p:Pos) (b:Expr) (q:Pos):i9 (.BinOp (.List es p) .Mult b q)
 |add (a b:Expr) (q:Pos):i9 (.BinOp a .Add b q)
 |range (p q:Pos) (bs:List Expr) (r s:Pos):i9 (.Call (.Name "list" p) [.Call (.Name "range" q) bs [] r] [] s)
theorem xn{a b:Expr}{p:Pos}(h:wc a=true):i9 (.BinOp a .Mult b p):=by
 induction a using Expr.casesOn with
 |List es q=>exact .mult es q b p
 |_=>exact ad h
theorem ve{e:Expr}(h:yH (gx e)=true):i9 e:=by
 generalize c:gx e=o at h
 induction o using Option.casesOn with
 |none=>exact ad h
 |some x=>
  obtain⟨p,q,rfl⟩:=ij c;have h:=aG h;obtain⟨bs,hb⟩:=Option.isSome_iff_exists.mp h.2;obtain⟨p',q',e2⟩:=jU hb;rw[e2,ig h.1];exact .range p p' bs q' q
theorem nD{e:Expr}(h:hW e=true):i9 e:=by
 induction e using Expr.casesOn with
 |List es p=>exact .list es p
 |BinOp a op b q=>induction op using Operator.casesOn with
  |Add=>exact .add a b q
  |Mult=>exact xn h
  |_=>exact ad h
 |_=>exact ve h
theorem zq{xs l:List V}{v:V}(ok:(de .Mult (.list xs) v).1=true)(h:(de .Mult (.list xs) v).2 = .list l):∃i,v = .int i/\vY i xs.length=true/\eZ xs i=l:=by
 induction v using V.casesOn with
 |int i=>exact⟨i,rfl,ok,V.list.inj h⟩
 |_=>exact ad ok
theorem Bk{l:List V}{u v:V}(ok:(de .Add u v).1=true)(h:(de .Add u v).2 = .list l):∃xs ys,u = .list xs/\v = .list ys/\xs.length+ys.length<=cap/\xs++ys=l:=by
 induction u using V.casesOn with
 |list xs=>induction v using V.casesOn with
  |list ys=>exact⟨xs,ys,rfl,rfl,of_decide_eq_true ok,V.list.inj h⟩
  |_=>exact ad ok
 |int i=>induction v using V.casesOn with
  |int j=>injections h
  |_=>exact ad ok
 |str i=>induction v using V.casesOn with
  |str j=>injections h
  |_=>exact ad ok
 |_=>exact ad ok
theorem zr(Fa:aB G A Φ)(En:ao env κ){τ:Tau}{n:Nat}{e:Expr}{l:List V}(hf:hW e=true)(ok:(ev Φ τ (n+2) κ ρ e).1=true)(hv:(ev Φ τ (n+2) κ ρ e).2 = .list l):lu G A env X ρ (eval e env) l:=by
 have GE:=(gC Fa τ (n+1) κ env X ρ En).1
 rcases nD hf with⟨es,p⟩|⟨es,p,b,q⟩|⟨a,b,q⟩|⟨p,q,bs,r,s⟩
 ·rw[<-V.list.inj hv]
  exact zm GE ok
 ·have o2:=aG ok
  have o1:=aG o2.1;obtain⟨i,hb,ht,e⟩:=zq (xs:=(dz (ev Φ τ n κ ρ) es).2) o2.2 hv;have ht:=fi ht;rw[<-e];exact zp En GE o1.1 o1.2 rfl hb ⟨ht.1,ht.2.1⟩ ht.2.2
 ·have o2:=aG ok
  have o1:=aG o2.1;obtain⟨xs,ys,ha,hb,hl,e⟩:=Bk o2.2 hv;rw[<-e];exact Bj Fa En GE o1.1 o1.2 ha hb hl
 ·obtain⟨l',e,h⟩:=pU (p:=p) (p':=q) (q':=r) (pos:=s) Fa En GE ok
  rw[<-V.list.inj (e.symm.trans hv)];exact h
theorem jW{e:Expr}(h:dH e=false)(t:Expr)(k:Nat):swapsWith e (some t) k env=pure false:=by
 induction e using Expr.casesOn<;>first|rfl|exact ad h.symm
theorem i9.comp{e:Expr}(h:i9 e):dH e=false:=by
 induction h using i9.casesOn<;>rfl
noncomputable def FK(e:Expr):Prop:=∃elt gs scope p,e = .ListComp elt gs scope p
theorem xo{τ:Tau}{n:Nat}{e:Expr}(h:dH e=true)(ok:(ev Φ τ (n+1) κ ρ e).1=true):FK e:=by
 induction e using Expr.casesOn with
 |ListComp elt gs scope p=>exact⟨elt,gs,scope,p,rfl⟩
 |SetComp elt gs scope p=>exact ad ok
 |DictComp a b gs scope p=>exact ad ok
 |_=>exact ad h
theorem tc (Fa:aB G A Φ) (En:ao env κ) {E:Ev} (GE:∀κ env X ρ,ao env κ->az G A env X ρ (E κ ρ)) (GT:∀κ env X ρ,ao env κ->i7 G A env X ρ (E κ ρ)) {elt:Expr} {gs:List Comprehension} {scope:Scope} {cp p pos:Pos} {x:Str}
 (ok:(ji E κ ρ elt gs scope).1=true) (hx:af (kd κ (nm x))=true):dQ G A env X ρ (exec (.Assign [.Name x p] (.ListComp elt gs scope cp) pos) env) (true, .next (put ρ (nm x) (.val (ji E κ ρ elt gs scope).2))):=by
 intro _ O s S E' Q q;have hsw:swapsWith (.ListComp elt gs scope cp) (some (.Name x p)) pos.line env=pure (env.blockKind == .function&&env.kindOf x==some .local&&p.line==cp.line && !(scope.names.any λ(n,k)=>n==x&&(k == .local||k == .cell))):=rfl;cases hb:(env.blockKind == .function&&env.kindOf x==some .local&&p.line==cp.line && !(scope.names.any λ(n,k)=>n==x&&(k == .local||k == .cell)))with
 |false=>
  rw[hb]at hsw;exact lD (E:=E κ ρ) En (ly Fa En GE GT ok) hx hsw rfl O s S E' Q q
 |true=>
  rw[hb]at hsw;rw[exec_Assign_Name_used _ _ _ _ hsw];refine wpAny_bind (wpAny_standAt (wpAny_bind ?_));show wpAny _ A (do let _ <-comprehension (.ListComp elt gs scope cp) scope env (firstIterPos gs cp) (newList []) (firstAsync gs) (firstIter gs env) (some (assign (.Name x p) env))) _ _ s;obtain⟨res,e,run⟩:=p0 (pos:=cp) (use:=some (assign (.Name x p) env)) (Q:=λ_ s'=>Q .next s') (E':=E') Fa En GE GT ok S;rw[e]at q;refine wpAny_bind (wpAny_mono (run λacc C s' Rn => ?_) (λ_ s' hq=>wpAny_pure (wpAny_pure hq)) λ_ _ e=>e);obtain⟨us,m,el,rl⟩:=Rn.lst;obtain⟨m',hns⟩:=Rn.ns;have alC:∃o,s'.heap.get? C=some o:=by obtain⟨o,_,_,eo,_⟩:=hns;exact⟨o,eo⟩
  obtain⟨S1,on1⟩:=S.more (Kp.keep Rn.keeps) (Z:=λb=>b=C) λb hb=>by rw[hb];exact⟨Rn.loc,alC⟩
  have neC:=λb (f:ak env X O b)=>ry S Rn.loc f
  have neA:=λb (f:ak env X O b)=>ry S Rn.dead f
  refine wpAny_assign_Name (bE S1 En hx (v := .list res) (am.list_iff.mpr ⟨acc,us,rfl,λfa => ?_,⟨_,el,rfl,_,rfl⟩,Reps.on ⟨λ_ _ _ e=>e,λb o _ f => ?_⟩ rl⟩) λh' tk S' kp al => ?_)
  ·rcases fa with(f|f)|f|f
   ·exact neA _ (.inl f) rfl
   ·exact Rn.ne f.symm
   ·exact neA _ (.inr (.inl f)) rfl
   ·exact neA _ (.inr (.inr f)) rfl
  ·rcases f with(f|f)|f|f
   ·exact .inl (.inl f)
   ·exact .inr (.inr f)
   ·exact .inl (.inr (.inl f))
   ·exact .inl (.inr (.inr f))
  ·have nplC:¬fX env x C:=λpl=>neC C (.inr (.inl pl.own)) rfl
   refine⟨m', ?_,λh'' hs => ?_⟩
   ·obtain⟨o,es,ep,eo,r⟩:=hns
    exact⟨o,es,ep,kp _ _ nplC eo,r⟩
   ·have S2:cq G env X (upd O (nm x) none) (put ρ (nm x) (.val (.list res))) h'':=
     S'.less (Z:=λb=>b=C) (λb hb => .inr hb) (λb hb=>⟨.inl hb,neC b (.inl hb)⟩) (λb hb=>neC b (.inr (.inl hb))) λb o nb e=>(hs.2 b nb).trans e
    refine q _ _ ⟨_,S2, ?_⟩;obtain⟨h1,t1,e1,kk⟩:=Rn.keeps;subst e1;refine⟨h'',tk,rfl,λb o nb e=>(hs.2 b λh => ?_).trans (kp b o (λpl=>nb (.inr (.inl pl.own))) (kk b o e)),λb o _ f=>bS f⟩;rw[h,Rn.loc]at e;injections e
end
end
section
open PySem PySem.W PySem.Calls PyProof.Rows
noncomputable abbrev rz:=Str×V×Value
noncomputable def puts:List rz->Rho->Rho
 |[],ρ=>ρ
 |tr::L,ρ=>puts L (put ρ (nm tr.1) (.val tr.2.1))
noncomputable def rA(G:Cfg)(A:Around)(env:Env)(f:Value->Sem Unit)(tr:rz):Prop:=
 ∀(s:Shared) (E:Value->Shared->Prop) (Q:Unit->Shared->Prop),wpAny (model G.p G.w) A (storeName env tr.1 tr.2.2) Q E s->wpAny (model G.p G.w) A (f tr.2.2) Q E s
section
variable {G:Cfg} {A:Around} {env:Env} {X:Addr->Prop} {κ:List (Str×NameKind)} {ρ:Rho} {O:Nm->Option Addr} {Φ:Fns}
theorem vf (En:ao env κ) {L:List rz} {O:Nm->Option Addr} {ρ:Rho} {s:Shared} {fs:List (Value->Sem Unit)} (S:cq G env X O ρ s.heap) (hT:∀tr∈L,am G (ak env X O) s.heap tr.2.1 tr.2.2)
 (hx:∀tr∈L,af (kd κ (nm tr.1))=true) (hf:mU (rA G A env) fs L) {E:Value->Shared->Prop} {Q:Unit->Shared->Prop}
 (q:∀O' h' tk,cq G env X O' (puts L ρ) h'->(∀b o,¬eF env b->s.heap.get? b=some o->h'.get? b=some o)->(∀P b,ak env P O' b->ak env P O b)->Q () { s with heap:=h',toks:=tk }):
 wpAny (model G.p G.w) A (assignInOrder fs (L.map λtr=>tr.2.2)) Q E s:=by
 induction L generalizing O ρ s fs with
 |nil=>cases hf with
  |nil=>exact wpAny_pure (q O s.heap s.toks S (λ_ _ _ e=>e) λ_ _ f=>f)
 |cons tr L ih=>cases hf with
  |cons h1 hr=>
   refine wpAny_assignInOrder_more (h1 s _ _ (bE S En (hx tr (List.mem_cons_self ..)) (hT tr (List.mem_cons_self ..)) λh' tk S1 kp al => ?_));refine ih (s:={ s with heap:=h',toks:=tk }) S1 (λt m=>(hT t (List.mem_cons_of_mem _ m)).on ⟨λb o nb e=>kp b o (λpl=>nb (.inr (.inl pl.own))) e,λb o _ f=>bS f⟩) (λt m=>hx t (List.mem_cons_of_mem _ m)) hr λO' h2 tk2 S2 kp2 sub2 => ?_
   exact q O' h2 tk2 S2 (λb o nb e=>kp2 b o nb (kp b o (λpl=>nb pl.own) e)) λP b f=>bS (sub2 P b f)
theorem jX:∀(L:List rz) (ρ:Rho) (y:Nm),(∀tr∈L,y≠nm tr.1)->lk (puts L ρ) y=lk ρ y
 |[],_,_,_=>rfl
 |tr::L,ρ,y,h=>(jX L _ y λt m=>h t (List.mem_cons_of_mem _ m)).trans ((fk _ _ ρ y).2 (h tr (List.mem_cons_self ..)))
theorem wv(L:List rz):∀(ρ:Rho),(L.map λtr=>nm tr.1).Nodup->∀tr∈L,lk (puts L ρ) (nm tr.1)=if nm tr.1∈keys ρ then .val tr.2.1 else .un:=by
 induction L with
 |nil=>exact λ_ _ _ m=>nomatch m
 |cons tr L ih=>
  intro ρ hn t m;rw[List.map_cons,List.nodup_cons]at hn
  rcases List.mem_cons.mp m with rfl|m
  ·show lk (puts L (put ρ (nm t.1) (.val t.2.1))) (nm t.1)=_
   rw[jX L _ _ λt' m' e=>hn.1 (List.mem_map.mpr ⟨t',m',e.symm⟩)]
   by_cases hk:nm t.1∈keys ρ
   ·rw[if_pos hk];exact lC hk
   ·rw[if_neg hk];exact lB (by rw[jV];exact hk)
  ·have:=ih (put ρ (nm tr.1) (.val tr.2.1)) hn.2 t m
   rw[jV]at this;exact this
theorem xp{L L':List rz}(hp:L.Perm L')(hn:(L.map λtr=>nm tr.1).Nodup)(ρ:Rho)(y:Nm):lk (puts L ρ) y=lk (puts L' ρ) y:=by
 by_cases h:∃tr∈L,y=nm tr.1
 ·obtain⟨tr,m,rfl⟩:=h
  rw[wv L ρ hn tr m,wv L' ρ ((hp.map _).nodup_iff.mp hn) tr (hp.mem_iff.mp m)]
 ·have h1:∀tr∈L,y≠nm tr.1:=λtr m e=>h ⟨tr,m,e⟩
  rw[jX L ρ y h1,jX L' ρ y λtr m=>h1 tr (hp.mem_iff.mpr m)]
noncomputable def vg:Expr->Option Str
 | .Name id _=>some id
 |_=>none
structure F2(G:Cfg)(A:Around)(env:Env)(P:Addr->Prop)(h:Heap)(ts:List Expr)(vs:List V)(us:List Value)(L:List rz):Prop where
 puts:∀ρ,(eU ts vs ρ).2=puts L ρ
 names:(L.map λtr=>nm tr.1)=aC (.Tuple ts 0 default)
 vals:(L.map λtr=>tr.2.2)=us
 ids:ts.filterMap vg=L.map (·.1)
 len:ts.length=us.length
 rep:∀tr∈L,am G P h tr.2.1 tr.2.2
 each:(assignEach ts env).length=ts.length/\(assignEach ts env).findIdx? (·.1)=none/\mU (rA G A env) ((assignEach ts env).map (·.2)) L
theorem Bl{t:Expr}{ts:List Expr}{vs:List V}(ok:(eU (t::ts) vs ρ).1=true):∃x p v vs',t = .Name x p/\vs=v::vs'/\(eU ts vs' (put ρ (nm x) (.val v))).1=true:=by
 induction t using Expr.casesOn with
 |Name x p=>induction vs using List.casesOn with
  |nil=>exact ad ok
  |cons v vs=>exact⟨x,p,v,vs,rfl,rfl,ok⟩
 |_=>exact ad ok
theorem C5{P:Addr->Prop}{h:Heap}{ts:List Expr}{vs:List V}{us:List Value}{ρ:Rho}(ok:(eU ts vs ρ).1=true)(r:Reps G P h vs us):∃L,F2 G A env P h ts vs us L:=by
 induction ts generalizing vs us ρ with
 |nil=>induction vs using List.casesOn with
  |nil=>rw[Reps.nil_iff.mp r];exact⟨[],λ_=>rfl,rfl,rfl,rfl,rfl,(λ_ m=>nomatch m),rfl,rfl, .nil⟩
  |cons v vs=>exact ad ok
 |cons t ts ih=>
  obtain⟨x,p,v,vs',rfl,rfl,ok⟩:=Bl ok;obtain⟨u,us',rfl,h1,h2⟩:=Reps.cons_iff.mp r;obtain⟨L,I⟩:=ih ok h2;refine⟨(x,v,u)::L,λρ=>I.puts _,congrArg (nm x :: ·) I.names,congrArg (u :: ·) I.vals,congrArg (x :: ·) I.ids,congrArg (· + 1) I.len,List.forall_mem_cons.mpr ⟨h1,I.rep⟩,congrArg (· + 1) I.each.1, ?_, .cons (λs E Q h=>wpAny_assign_Name h) I.each.2.2⟩;show((false,assign (.Name x p) env)::assignEach ts env).findIdx? (·.1)=none;rw[List.findIdx?_cons,I.each.2.1];rfl
end
end
section
open PySem PySem.W PySem.Calls PyProof.Rows
theorem ip{α β:Type}{f g:α->Option β}(hfg:∀a b,f a=some b->g a=some b):∀{l:List α},(l.filterMap f).length=l.length->l.filterMap f=l.filterMap g
 |[],_=>rfl
 |a::l,h=>by
  rw[List.filterMap_cons]at h |-;rw[List.filterMap_cons];cases e:f a with
  |none=>
   rw[e]at h;have:=List.length_filterMap_le f l;simp only[List.length_cons]at h
   omega
  |some b=>
   rw[e]at h;rw[hfg a b e];simp only[List.length_cons]at h |-;rw[ip hfg ⋯]
noncomputable def Fc(ts:List Expr)(m:Sem (Option (List Str))):Prop:=m=pure none\/(m=pure (some (ts.filterMap vg))/\(ts.filterMap vg).length=ts.length)
theorem Fc.ite{ts:List Expr}{c:Prop}[Decidable c]{m:Sem (Option (List Str))}(h:¬c->Fc ts m):Fc ts (if c then pure none else m):=by
 by_cases e:c
 ·rw[if_pos e];exact .inl rfl
 ·rw[if_neg e];exact h e
theorem zs{es:List Expr}(h:bM es=false)(hf:¬es.all (foldedForSure 8)=true):¬es.all (constantsAlone 8)=true:=λe=>by
 unfold bM at h;rw[e,(Bool.not_eq_true _).mp hf]at h;exact ad h.symm
theorem nE{α β:Type}{f g:α->Option β}{l:List α}(h:(l.filterMap f).length=l.length)(hfg:∀a b,f a=some b->g a=some b):l.filterMap f=l.filterMap g:=ip hfg h
theorem Bm{c:Prop}[Decidable c]{x y:Str}(h:(if c then some x else none)=some y):some x=some y:=by
 by_cases e:c
 ·rw[if_pos e]at h;exact h
 ·rw[if_neg e]at h;exact av h
theorem vh{ts es:List Expr}{k k':Nat}{p p':Pos}{env:Env}(hc:bM es=false):Fc ts (swappedStores [.Tuple ts k p] (.Tuple es k' p') env):=by
 unfold swappedStores;dsimp only;refine .ite λ_ => .ite λ_ => .ite λhn => .ite λhf => ?_
 rw[if_neg (zs hc hf)];rw[Bool.or_eq_true,not_or,bne_iff_ne,ne_eq,Decidable.not_not]at hn;have e:=nE (g:=vg) hn.1 λa b h=>by
  induction a using Expr.casesOn with
  |Name id q=>exact Bm h
  |_=>exact av h
 exact .inr ⟨by rw[e],by rw[<-e];exact hn.1⟩
section
variable {G:Cfg} {A:Around} {env:Env} {X:Addr->Prop} {κ:List (Str×NameKind)} {ρ:Rho} {O:Nm->Option Addr} {Φ:Fns}
theorem qc:∀(L:List rz),mU (rA G A env) (L.map λtr=>bindName env tr.1) L
 |[] => .nil
 |tr::L => .cons (λs E Q h=>wpAny_bindName h) (qc L)
theorem nF (En:ao env κ) {ts:List Expr} {vs:List V} {us:List Value} {L L':List rz} {fs:List (Value->Sem Unit)} {h:Heap} {s s2:Shared} (I:F2 G A env (ak env X O) h ts vs us L) (pm:L'.Perm L) (S:cq G env X O ρ s.heap) (k:Keeps s s2) (kh:∀b o,h.get? b=some o->s2.heap.get? b=some o)
 (nd:(L.map λtr=>nm tr.1).Nodup) (hx:i6 κ (aC (.Tuple ts 0 default))=true) (hf:mU (rA G A env) fs L') {E:Value->Shared->Prop} {Q:Flow->Shared->Prop} (q:∀f s',dP G env X O s (.next (eU ts vs ρ).2) f s'->Q f s'):
 wpAny (model G.p G.w) A (assignInOrder fs (L'.map λtr=>tr.2.2)) (λ_=>Q .next) E s2:=by
 refine vf En (S.keeps (Kp.keep k)) (λtr m=>(I.rep tr (pm.mem_iff.mp m)).on (On.of_keeps kh)) (λtr m=>List.all_eq_true.mp hx _ (by rw[<-I.names];exact List.mem_map.mpr ⟨tr,pm.mem_iff.mp m,rfl⟩)) hf λO' h' tk' S4 kp sub => ?_
 obtain⟨O2,S5,f5⟩:=S4.coarse (ρ':=(eU ts vs ρ).2) λy => .inr (.inl (by rw[I.puts ρ];exact xp pm.symm nd ρ y))
 refine q _ _ ⟨O2,S5, ?_⟩;obtain⟨h1,t1,rfl,kk⟩:=k;exact⟨h',tk',rfl,λb o nb e=>kp b o (λh=>nb (.inr (.inl h))) (kk b o e),λb o _ f=>sub _ b (f5 _ b f)⟩
theorem vi (Fh:A.handled=none) (En:ao env κ) {E:Expr->R} (GE:az G A env X ρ E) {ts es:List Expr} {k k':Nat} {p p' pos:Pos} (o1:jj (dz E es)=true) (o2:(eU ts (dz E es).2 ρ).1=true)
 (o3:bM es=false) (o4:dT (aC (.Tuple ts 0 default))=true) (o5:i6 κ (aC (.Tuple ts 0 default))=true):
 dQ G A env X ρ (exec (.Assign [.Tuple ts k p] (.Tuple es k' p') pos) env) (true, .next (eU ts (dz E es).2 ρ).2):=by
 intro _ O s S E' Q q;have o1:=aG o1;rw[exec_Assign_arm];refine wpAny_bind (wpAny_standAt ?_);rw[show swapsWithSole [.Tuple ts k p] (.Tuple es k' p') pos.line env=pure false from rfl];refine wpAny_bind (wpAny_pure ?_);rw[if_neg nofun,arm_eval_Tuple];refine wpAny_bind (wpAny_bind (wpAny_standAt (wpAny_bind (cT GE _ o1.1 O s S _ _ λus s1 k1 r1 => ?_))));refine wpAny_newTuple ?_ (by rw[<-r1.length];exact dD (of_decide_eq_true o1.2));obtain⟨L,I⟩:=C5 (A:=A) (env:=env) o2 r1;have k2:=Kp.push s1 { cls := .type "tuple",data := .seq us.toArray } s1.toks;have hT:(s1.heap.push { cls := .type "tuple",data := .seq us.toArray }).IsTuple s1.heap.objs.size us.toArray:=⟨_,Heap.get?_push_size _ rfl,rfl,_,rfl⟩
 have nd:(L.map λtr=>nm tr.1).Nodup:=by rw[I.names];exact nodup_iff.mp o4
 have he:∀{h3:Heap},(∀b o,b≠(s1.heap.push { cls := .type "tuple",data := .seq us.toArray }).objs.size->(s1.heap.push { cls := .type "tuple",data := .seq us.toArray }).get? b=some o->h3.get? b=some o)->Keeps s { s1 with heap:=h3 }/\∀b o,s1.heap.get? b=some o->h3.get? b=some o:=λ{h3} h=>by
  have kk:∀b o,s1.heap.get? b=some o->h3.get? b=some o:=λb o e=>h b o (Nat.ne_of_lt (Heap.lt_size (Kp.keep k2 b o e))) (Kp.keep k2 b o e)
  exact⟨Kp.trans k1 (Kp.heap s1.toks kk),kk⟩
 rcases vh (ts:=ts) (k:=k) (p:=p) (k':=k') (p':=p') (env:=env) o3 with hsw|⟨hsw,hlen⟩
 ·rw[hsw]
  refine wpAny_bind (wpAny_pure (wpAny_bind ?_));show wpAny _ A (assign (.Tuple ts k p) env (.ref s1.heap.objs.size)) _ _ _;refine wpAny_mono (wpAny_assign_Tuple Fh hT (by rw[I.each.1,I.len];simp) I.each.2.1 λh' e => ?_) (λ_ _ h=>wpAny_pure h) λ_ _ e=>e
  have:=nF (E:=E') En I (List.Perm.refl _) S (he e).1 (he e).2 nd o5 I.each.2.2 q;rw[I.vals]at this
  simpa using this
 ·rw[hsw]
  refine wpAny_bind (wpAny_pure ?_);show wpAny _ A (do
   rule "assign.swapped-stores"
   let items <-unpackItems (.ref s1.heap.objs.size) (ts.filterMap vg).length none
   assignInOrder ((ts.filterMap vg).reverse.map λn=>bindName env n) items.reverse
   pure .next) Q E' _
  rw[show(ts.filterMap vg).length=us.toArray.size by rw[hlen,I.len];simp];refine wpAny_bind (wpAny_rule (wpAny_bind (wpAny_unpackItems_tuple Fh hT λh' e=>wpAny_bind ?_)));refine wpAny_mono ?_ (λ_ _ h=>wpAny_pure h) λ_ _ e=>e
  have:=nF (E:=E') En I (List.reverse_perm L) S (he e).1 (he e).2 nd o5 (qc L.reverse) q;rw[List.map_reverse,List.map_reverse,I.vals]at this;rw[I.ids,List.map_reverse,List.map_map];exact this
end
end
section
open PySem PySem.W PySem.Calls PyProof.Rows
section
variable {prog:Program} {w:World} {A:Around} {E:Value->Shared->Prop} {s:Shared}
theorem td {l:Addr} {items:Array Value} {n:Nat} {k:Int} {t:Tok} {v:Value} {Q:Unit->Shared->Prop} (ho:s.heap.get? l=some { cls := .type "list",data := .seq items n })
 (h0:0<=k) (hfit:k<2^63) (hn:k<items.size)
 (hQ:∀h' n',h'.get? l=some { cls := .type "list",data := .seq (items.setIfInBounds k.toNat v) n' }->Heap.SameBut l s.heap h'->Q () { s with heap:=h' }):
 wpAny (model prog w) A (setItem (.ref l) (.int k t) v) Q E s:=by
 have hl:s.heap.IsList l items:=⟨_,ho,rfl,_,rfl⟩;unfold setItem
 try with_reducible refine wpAny_holding ?_
 first|refine wpAny_bind (wpAny_pure ?_)|skip
 refine wpAny_bind (wpAny_sequenceKey hl.typeIs nofun ?_);refine wpAny_bind (wpAny_callSpecial?_slot (name:=Str.ofString "__setitem__") hl.typeIs slot_list_setitem
  (wpAny_call_entry slot_list_setitem hl.typeIs entry_list_setitem ?_ (args_list_setitem _ _ _)))
 show wpAny _ _ (Builtin.List.listSubscript? (.int k t)>>=_) _ _ s;refine wpAny_bind (wpAny_listSubscript_int (fitsIndex_of h0 hfit) ?_);clear hfit;obtain⟨j,rfl⟩:=Int.eq_ofNat_of_zero_le h0;have hj:j<items.size:=⋯;have hx':items[j]? = some items[j]:=Array.getElem?_eq_getElem hj;show wpAny _ _ ((seqItemAt l j>>=λr=>pure (r.map (j,·)))>>=_) _ _ s;refine wpAny_bind (wpAny_bind (wpAny_seqItemAt ho rfl (wpAny_pure ?_)));rw[hx'];show wpAny _ _ (setSeqItemAt l j v>>=_) _ _ s;have hfin:=get?_update_seq ho (·.setIfInBounds j v);refine wpAny_bind (wpAny_setSeqItemAt ho rfl ?_)
 first
  |exact wpAny_bind (wpAny_pure (wpAny_pure ⟨.none,rfl,wpAny_pure (hQ _ _ hfin (Heap.SameBut.update ..))⟩))
  |exact wpAny_pure ⟨.none,rfl,wpAny_pure (hQ _ _ hfin (Heap.SameBut.update ..))⟩
end
section
variable {G:Cfg} {A:Around} {env:Env} {X:Addr->Prop} {κ:List (Str×NameKind)} {ρ:Rho} {O:Nm->Option Addr} {Φ:Fns}
theorem zt{s s1:Shared}(k:Keeps s s1){h':Heap}{tk:Nat}{x:Nm}{a:Addr}(hO:O x=some a)(kp:∀b o,b≠a->s1.heap.get? b=some o->h'.get? b=some o):Mv env O O s { s1 with heap:=h',toks:=tk }:=by
 obtain⟨h1,t1,rfl,k1⟩:=k;exact⟨h',tk,rfl,λb o nb e=>kp b o (λh=>nb (.inr (.inr ⟨x,h▸hO⟩))) (k1 b o e),λb o _ f=>f⟩
theorem zu{e o i:Expr}{p:Pos}{k:Nat}:swapsWith e (some (.Subscript o i p)) k env=pure false:=by
 induction e using Expr.casesOn<;>rfl
theorem zv{e:Expr}{ts:List Expr}{k l:Nat}{p:Pos}:swapsWith e (some (.Tuple ts k p)) l env=pure false:=by
 induction e using Expr.casesOn<;>rfl
theorem te{e:Expr}{ts:List Expr}{k:Nat}{p:Pos}(h:pF e=none):swappedStores [.Tuple ts k p] e env=pure none:=by
 induction e using Expr.casesOn with
 |Tuple es k p=>exact av h.symm
 |_=>rfl
theorem tf {E:Expr->R} (En:ao env κ) (GE:az G A env X ρ E) {x:Str} {p p' pos:Pos} {i e:Expr} {l:List V} {j:Int} (hl:lk ρ (nm x) = .own l) (hj:(E i).2 = .int j) (oi:(E i).1=true) (oe:(E e).1=true) (hx:af (kd κ (nm x))=true)
 (h0:0<=j) (h1:j<l.length) (hc:l.length<=cap):dQ G A env X ρ (exec (.Assign [.Subscript (.Name x p) i p'] e pos) env) (true, .next (put ρ (nm x) (.own (gW l j.toNat (E e).2)))):=by
 intro _ O s S E' Q q;have hx':af (env.kindOf x)=true:=(En.names x).trans hx;have pl:=En.plain x (by rw[hx'];rfl);refine wpAny_Assign_Subscript (GE.ok e oe O s S _ _ λu s1 k1 r1 => ?_) (zu (env:=env) (o := .Name x p) (i:=i) (p:=p') (k:=pos.line));have S1:=S.keeps (Kp.keep k1);obtain⟨g,F,hg⟩:=S1.look;have hs:=hg x hx';rw[hl]at hs;obtain⟨a,vs,e1,e2,⟨m,e3⟩,rr⟩:=hs;refine wpAny_Name (cM En.kind F hx' pl.2 e1 ?_) pl.1;refine GE.ok i oi O s1 S1 _ _ λv s2 k2 r2 => ?_
 rw[hj]at r2;obtain⟨t,rfl⟩:=am.int_iff.mp r2;have e3':=Kp.keep k2 _ _ e3;have S2:=S1.keeps (Kp.keep k2);have rr2:=Reps.on (On.of_keeps (X:=ak env X O) (Kp.keep k2)) rr;have hsz:vs.size=l.length:=by rw[<-Array.length_toList,<-rr2.length]
 unfold cap at hc;refine td e3' h0 ⋯ ⋯ λh' n' el hs => ?_
 have kp:∀b o,b≠a->s2.heap.get? b=some o->h'.get? b=some o:=λb o nb e=>(hs.2 b nb).trans e
 have S3:=S2.own_set (l':=gW l j.toNat (E e).2) hx' hl e2 kp el (by
  unfold gW;rw[Array.toList_setIfInBounds];exact Reps.set rr2 (r1.on (On.of_keeps (Kp.keep k2))))
 exact q _ _ ⟨O,S3,zt (tk:=s2.toks) (Kp.trans k1 k2) e2 kp⟩
theorem th{E:Expr->R}(En:ao env κ)(GE:az G A env X ρ E){x:Str}{p q' pos spos:Pos}{e:Expr}{l:List V}(hl:lk ρ (nm x) = .own l)(oe:(E e).1=true)(hx:af (kd κ (nm x))=true)(hq:q'.endLine=pos.line)(hc:l.length<=cap):
 dQ G A env X ρ (exec (.Expr (.Call (.Attribute (.Name x p) "append" q') [e] [] pos) spos) env) (true, .next (put ρ (nm x) (.own (l++[(E e).2])))):=by
 intro _ O s S E' Q q;have hx':af (env.kindOf x)=true:=(En.names x).trans hx;have pl:=En.plain x (by rw[hx'];rfl);have hi:interactive env=false:=by unfold interactive;rw[En.kind];rfl
 refine wpAny_Expr ?_ hi rfl;have hst:starEach [e] env=[(false,eval e env)]:=gB GE oe [];refine wpAny_Call_append rfl (by rw[hst];rfl) (by rw[hq];exact beq_self_eq_true _) (by rw[hst];rfl) ?_;obtain⟨g,F,hg⟩:=S.look;have hs:=hg x hx';rw[hl]at hs;obtain⟨a,vs,e1,e2,⟨m,e3⟩,rr⟩:=hs;refine wpAny_Name (cM En.kind F hx' pl.2 e1 ⟨a,vs,rfl,⟨_,_,e3,rfl,rfl,rfl⟩, ?_⟩) pl.1;refine GE.ok e oe O s S _ _ λu s1 k1 r1 => ?_
 have e3':=Kp.keep k1 _ _ e3;have S1:=S.keeps (Kp.keep k1);have rr1:=Reps.on (On.of_keeps (X:=ak env X O) (Kp.keep k1)) rr;have hsz:vs.size=l.length:=by rw[<-Array.length_toList,<-rr1.length]
 refine append_at e3' (λh' hs el => ?_) (by rw[hsz];exact dD hc);have kp:∀b o,b≠a->s1.heap.get? b=some o->h'.get? b=some o:=λb o nb e=>(hs.2 b nb).trans e
 have S2:=S1.own_set (l':=l++[(E e).2]) hx' hl e2 kp el (by
  rw[Array.toList_push];exact Reps.append rr1 (Reps.cons r1 Reps.nil))
 exact q _ _ ⟨O,S2,zt (tk:=s1.toks) k1 e2 kp⟩
theorem C6{op:Operator}{v w:V}{u u':Value}{s:Shared}{P:Addr->Prop}(ob:(de op v w).1=true)(oa:yI op v=true)(r:am G P s.heap v u)(r':am G P s.heap w u'):aw G A P (inplaceOp op u u') (de op v w).2 s:=by
 induction v using V.casesOn with
 |int i=>
  obtain⟨t,rfl⟩:=am.int_iff.mp r;refine ib (c:=λu'=>inplaceOp op (.int i t) u') r' ob λj t' _ => ?_
  induction op using Operator.casesOn with
  |Add=>exact a9 λE Q q=>iadd_int (q _ _)
  |Sub=>exact a9 λE Q q=>isub_int (q _ _)
  |_=>exact ad oa
 |_=>exact ad oa
theorem zw{E:Expr->R}(En:ao env κ)(GE:az G A env X ρ E){x:Str}{p pos:Pos}{op:Operator}{e:Expr}{v:V}(hl:lk ρ (nm x) = .val v)(oe:(E e).1=true)(hx:af (kd κ (nm x))=true)(ob:(de op v (E e).2).1=true)(oa:yI op v=true):
 dQ G A env X ρ (exec (.AugAssign (.Name x p) op e pos) env) (true, .next (put ρ (nm x) (.val (de op v (E e).2).2))):=by
 intro _ O s S E' Q q;have hx':af (env.kindOf x)=true:=(En.names x).trans hx;have pl:=En.plain x (by rw[hx'];rfl);obtain⟨g,F,hg⟩:=S.look;have hs:=hg x hx';rw[hl]at hs;obtain⟨u,e1,r0⟩:=hs;exact wpAny_AugAssign_Name (cM En.kind F hx' pl.2 e1 (GE.ok e oe O s S _ _ λu' s1 k1 r1=>C6 ob oa (r0.on (On.of_keeps (Kp.keep k1))) r1 _ _ λw s2 k2 r2=>
  bE ((S.keeps (Kp.keep k1)).keeps (Kp.keep k2)) En hx r2 λh' tk' S' kp al=>q _ _ ⟨_,S',u9 (Kp.trans k1 k2) kp⟩))
theorem vj{E:Expr->R}(En:ao env κ)(GE:az G A env X ρ E){x y:Str}{p p' pos:Pos}{e:Expr}(oe:(E e).1=true)(hx:af (kd κ (nm x))=true)(hy:af (kd κ (nm y))=true):
 dQ G A env X ρ (exec (.Assign [.Name x p, .Name y p'] e pos) env) (true, .next (put (put ρ (nm x) (.val (E e).2)) (nm y) (.val (E e).2))):=by
 intro _ O s S E' Q q;refine wpAny_Assign_two (GE.ok e oe O s S _ _ λu s1 k1 r1=>wpAny_assign_Name (bE (S.keeps (Kp.keep k1)) En hx r1 λh' tk S' kp al=>wpAny_assign_Name (bE (v:=(E e).2) (s:={ s1 with heap:=h',toks:=tk }) S' En hy ?_ λh2 tk2 S2 kp2 al2 => ?_)))
 ·exact r1.on ⟨λb o nb e=>kp b o (λpl=>nb (.inr (.inl pl.own))) e,λb o _ f=>bS f⟩
 ·refine q _ _ ⟨_,S2, ?_⟩
  obtain⟨h1,t1,e1,kk⟩:=k1;subst e1;exact⟨h2,tk2,rfl,λb o nb e=>kp2 b o (λpl=>nb (.inr (.inl pl.own))) (kp b o (λpl=>nb (.inr (.inl pl.own))) (kk b o e)),λb o _ f=>bS (bS f)⟩
theorem rC{E:Expr->R}(En:ao env κ)(GE:az G A env X ρ E){x y z:Str}{p p' p'' pos:Pos}{e:Expr}(oe:(E e).1=true)(hx:af (kd κ (nm x))=true)(hy:af (kd κ (nm y))=true)(hz:af (kd κ (nm z))=true):
 dQ G A env X ρ (exec (.Assign [.Name x p, .Name y p', .Name z p''] e pos) env) (true, .next (put (put (put ρ (nm x) (.val (E e).2)) (nm y) (.val (E e).2)) (nm z) (.val (E e).2))):=by
 intro _ O s S E' Q q;refine wpAny_Assign_three (GE.ok e oe O s S _ _ λu s1 k1 r1=>wpAny_assign_Name (bE (S.keeps (Kp.keep k1)) En hx r1 λh' tk S' kp al=>wpAny_assign_Name (bE (v:=(E e).2) (s:={ s1 with heap:=h',toks:=tk }) S' En hy ?_ λh2 tk2 S2 kp2 al2=>
  wpAny_assign_Name (bE (v:=(E e).2) (s:={ s1 with heap:=h2,toks:=tk2 }) S2 En hz ?_ λh3 tk3 S3 kp3 al3 => ?_))))
 ·exact r1.on ⟨λb o nb e=>kp b o (λpl=>nb (.inr (.inl pl.own))) e,λb o _ f=>bS f⟩
 ·exact(r1.on ⟨λb o nb e=>kp b o (λpl=>nb (.inr (.inl pl.own))) e,λb o _ f=>bS f⟩).on ⟨λb o nb e=>kp2 b o (λpl=>nb (.inr (.inl pl.own))) e,λb o _ f=>bS f⟩
 ·refine q _ _ ⟨_,S3, ?_⟩
  obtain⟨h1,t1,e1,kk⟩:=k1;subst e1;exact⟨h3,tk3,rfl,λb o nb e=>kp3 b o (λpl=>nb (.inr (.inl pl.own))) (kp2 b o (λpl=>nb (.inr (.inl pl.own))) (kp b o (λpl=>nb (.inr (.inl pl.own))) (kk b o e))),λb o _ f=>bS (bS (bS f))⟩
theorem rD (Fa:aB G A Φ) {E:Expr->R} (En:ao env κ) (GE:az G A env X ρ E) {ts:List Expr} {k:Nat} {p pos:Pos} {e:Expr} (hne:pF e=none) (oe:(E e).1=true) (ot:(bh (.Tuple ts 0 default) (E e).2 ρ).1=true)
 (hx:i6 κ (aC (.Tuple ts 0 default))=true):dQ G A env X ρ (exec (.Assign [.Tuple ts k p] e pos) env) (true, .next (bh (.Tuple ts 0 default) (E e).2 ρ).2):=by
 intro _ O s S E' Q q;refine wpAny_Assign_stores (GE.ok e oe O s S _ _ λu s1 k1 r1 => ?_) (zv (env:=env) (ts:=ts) (k:=k) (p:=p) (l:=pos.line)) (te hne);show wpAny _ A (assign (.Tuple ts k p) env u) _ _ s1;refine uZ (t := .Tuple ts k p) Fa.none En ot (λx hm=>List.all_eq_true.mp hx x hm) (S.keeps (Kp.keep k1)) r1 E' _ λs2 S2 mv => ?_
 refine q _ _ ⟨_,S2, ?_⟩;obtain⟨h1,t1,e1,kk⟩:=k1;subst e1;obtain⟨h2,t2,e3,k2,al⟩:=mv;exact⟨h2,t2,e3,λb o nb e=>k2 b o (λx _ pl=>nb (.inr (.inl pl.own))) (kk b o e),λb o _ f=>ak.upd f⟩
theorem dQ.of{t:Sem Flow}{r:Res}{o:fV}(h:dQ G A env X ρ t (true,o))(e:r.2=o):dQ G A env X ρ t r:=λ_ O s S E Q q=>h rfl O s S E Q (by rw[e]at q;exact q)
theorem zx(Fa:aB G A Φ)(En:ao env κ){τ:Tau}{e:Expr}{pos p:Pos}{x:Str}(h1:(ev Φ τ 40 κ ρ e).1=true)(h2:af (kd κ (nm x))=true):dQ G A env X ρ (exec (.Assign [.Name x p] e pos) env) (true, .next (put ρ (nm x) (.val (ev Φ τ 40 κ ρ e).2))):=by
 generalize hc:dH e=b
 induction b using Bool.casesOn with
 |false=>exact lD (E:=ev Φ τ 40 κ ρ) En ((gC Fa τ 40 κ env X ρ En).1.ok _ h1) h2 (jW hc _ _)
 |true=>
  obtain⟨elt,gs,scope,cp,rfl⟩:=xo hc h1;exact tc (E:=ev Φ τ 39) Fa En (λκ env X ρ h=>(gC Fa τ 39 κ env X ρ h).1) (λκ env X ρ h=>(gC Fa τ 39 κ env X ρ h).2) h1 h2
theorem vk{μ:List Nm}{x:Nm}{e:Expr}{v:V}:(∃l,v = .list l/\hW e=true/\hZ μ x e v = .own l)\/hZ μ x e v = .val v:=by
 induction v using V.casesOn with
 |list l=>
  show(∃l',V.list l = .list l'/\hW e=true/\(bif jI x μ&&hW e then Mine.Slot.own l else .val (.list l)) = .own l')\/(bif jI x μ&&hW e then Mine.Slot.own l else .val (.list l)) = .val (.list l);generalize h:(jI x μ&&hW e)=b
  induction b using Bool.casesOn with
  |true=>exact .inl ⟨l,rfl,(aG h).2,rfl⟩
  |false=>exact .inr rfl
 |_=>exact .inr rfl
theorem xq(Fa:aB G A Φ)(En:ao env κ){τ:Tau}{μ:List Nm}{e:Expr}{pos p:Pos}{x:Str}:dQ G A env X ρ (exec (.Assign [.Name x p] e pos) env) (AP (ev Φ τ 40 κ ρ) κ μ ρ (.Name x p) e):=λok=>by
 have ok':=aG ok;refine dQ.of (o := .next (put ρ (nm x) (hZ μ (nm x) e (ev Φ τ 40 κ ρ e).2))) ?_ rfl ok
 rcases vk (μ:=μ) (x:=nm x) (e:=e) (v:=(ev Φ τ 40 κ ρ e).2)with⟨l,hv,hf,h⟩|h
 ·rw[h]
  exact vd En (zr Fa En (n:=38) hf ok'.1 hv) ok'.2 (jW (nD hf).comp _ _)
 ·rw[h];exact zx Fa En ok'.1 ok'.2
theorem vl{e:Expr}{es:List Expr}(h:pF e=some es):∃k p,e = .Tuple es k p:=by
 induction e using Expr.casesOn with
 |Tuple es' k p=>rw[<-Option.some.inj h];exact⟨k,p,rfl⟩
 |_=>exact av h
theorem zy(Fa:aB G A Φ)(En:ao env κ){E:Expr->R}(GE:az G A env X ρ E){ts:List Expr}{e:Expr}{k:Nat}{p pos:Pos}:dQ G A env X ρ (exec (.Assign [.Tuple ts k p] e pos) env) (CO E κ ρ ts e (pF e)):=by
 generalize h:pF e=o
 induction o using Option.casesOn with
 |some es=>
  obtain⟨k',p',rfl⟩:=vl h;intro ok;have a1:=aG ok;have a2:=aG a1.1;have a3:=aG a1.2;have a4:=aG a3.1;exact(vi Fa.none En GE a2.1 a2.2 ((Bool.not_eq_true' _).mp a4.1) a4.2 a3.2).of rfl ok
 |none=>
  intro ok;have a1:=aG ok;have a2:=aG a1.1;exact(rD Fa En GE h a2.1 a2.2 a1.2).of rfl ok
theorem zz(En:ao env κ){E:Expr->R}(GE:az G A env X ρ E){x:Str}{i e:Expr}{p p' pos:Pos}:dQ G A env X ρ (exec (.Assign [.Subscript (.Name x p) i p'] e pos) env) (AO (af (kd κ (nm x))) ρ (nm x) (E i) (E e) (lk ρ (nm x))):=by
 generalize hl:lk ρ (nm x)=sl
 induction sl using Mine.Slot.casesOn with
 |own l=>
  show dQ G A env X ρ _ (CN (af (kd κ (nm x))&&(E i).1) ρ (nm x) l (E e) (E i).2);generalize hj:(E i).2=j
  induction j using V.casesOn with
  |int j=>
   intro ok;have a1:=aG ok;have a2:=aG a1.1;have a3:=aG a2.2;have a4:=aG a1.2;have a5:=aG a4.1;exact(tf En GE hl hj a3.2 a2.1 a3.1 (of_decide_eq_true a5.1) (of_decide_eq_true a5.2) (of_decide_eq_true a4.2)).of rfl ok
  |_=>exact λok=>ad ok
 |_=>exact λok=>ad ok
theorem fm{v:V}{t:Expr}{ts:List Expr}(h:(sG v (t::ts) ρ).1=true):∃x p,t = .Name x p/\(sG v ts (put ρ (nm x) (.val v))).1=true:=by
 induction t using Expr.casesOn with
 |Name x p=>exact⟨x,p,rfl,h⟩
 |_=>exact ad h
theorem zA(Fa:aB G A Φ)(En:ao env κ){τ:Tau}{μ:List Nm}{t e:Expr}{pos:Pos}:dQ G A env X ρ (exec (.Assign [t] e pos) env) (AP (ev Φ τ 40 κ ρ) κ μ ρ t e):=by
 induction t using Expr.casesOn with
 |Name x p=>exact xq Fa En
 |Tuple ts k p=>exact zy Fa En (gC Fa τ 40 κ env X ρ En).1
 |Subscript o i p'=>induction o using Expr.casesOn with
  |Name x p=>exact zz En (gC Fa τ 40 κ env X ρ En).1
  |_=>exact λok=>ad ok
 |_=>exact λok=>ad ok
theorem ti(Fa:aB G A Φ)(En:ao env κ){τ:Tau}{μ:List Nm}{ts:List Expr}{e:Expr}{pos:Pos}:dQ G A env X ρ (exec (.Assign ts e pos) env) (ei (ev Φ τ 40 κ ρ) κ μ ρ ts e):=by
 have GE:=(gC (G:=G) (A:=A) Fa τ 40 κ env X ρ En).1
 induction ts using List.casesOn with
 |nil=>exact λok=>ad ok
 |cons t ts=>induction ts using List.casesOn with
  |nil=>exact zA Fa En
  |cons t2 ts=>induction ts using List.casesOn with
   |nil=>
    intro ok;have a1:=aG ok;have a2:=aG a1.1;obtain⟨x,p,rfl,b2⟩:=fm a2.2;obtain⟨y,p',rfl,_⟩:=fm b2;have hn:=List.all_eq_true.mp a1.2;exact(vj En GE a2.1 (hn _ (List.mem_cons_self ..)) (hn _ (List.mem_cons_of_mem _ (List.mem_cons_self ..)))).of rfl ok
   |cons t3 ts=>induction ts using List.casesOn with
    |nil=>
     intro ok;have a1:=aG ok;have a2:=aG a1.1;obtain⟨x,p,rfl,b2⟩:=fm a2.2;obtain⟨y,p',rfl,b3⟩:=fm b2;obtain⟨z,p'',rfl,_⟩:=fm b3;have hn:=List.all_eq_true.mp a1.2;exact(rC En GE a2.1 (hn _ (List.mem_cons_self ..)) (hn _ (List.mem_cons_of_mem _ (List.mem_cons_self ..))) (hn _ (List.mem_cons_of_mem _ (List.mem_cons_of_mem _ (List.mem_cons_self ..))))).of rfl ok
    |cons _ _=>exact λok=>ad ok
theorem C7{x:Nm}(h1:af (kd κ x)=true)(h:(rd κ Φ ρ x).1=true):∃v,lk ρ x = .val v/\(rd κ Φ ρ x).2=v:=by
 unfold rd at h |-;rw[h1]at h |-;generalize lk ρ x=sl at h |-
 induction sl using Mine.Slot.casesOn with
 |val v=>exact⟨v,rfl,rfl⟩
 |_=>exact ad h
theorem zB(Fa:aB G A Φ)(En:ao env κ){τ:Tau}{t:Expr}{op:Operator}{e:Expr}{pos:Pos}:dQ G A env X ρ (exec (.AugAssign t op e pos) env) (sH (ev Φ τ 40 κ ρ) κ Φ ρ t op e):=by
 induction t using Expr.casesOn with
 |Name x p=>
  intro ok;have a5:=aG ok;have a4:=aG a5.1;have a3:=aG a4.1;have a2:=aG a3.1;obtain⟨v,h1,h2⟩:=C7 a2.1 a2.2;have b4:=a4.2;have b5:=a5.2;rw[h2]at b4 b5;refine(zw En (gC Fa τ 40 κ env X ρ En).1 h1 a3.2 a2.1 b4 b5).of ?_ ok;show fV.next (put ρ (nm x) (.val (de op (rd κ Φ ρ (nm x)).2 (ev Φ τ 40 κ ρ e).2).2))=_;rw[h2]
 |_=>exact λok=>ad ok
noncomputable def Eu(e:Expr)(x:Str×Expr):Prop:=∃p q pos,e = .Call (.Attribute (.Name x.1 p) "append" q) [x.2] [] pos/\q.endLine=pos.line
theorem vm{e:Expr}{x:Str×Expr}(h:sF e=some x):Eu e x:=by
 induction e using Expr.casesOn with
 |Call f as kw pos=>induction f using Expr.casesOn with
  |Attribute o m q=>induction o using Expr.casesOn with
   |Name y p=>induction as using List.casesOn with
    |nil=>exact av h
    |cons a as=>
     have h:(bif ag (nm m) (nm "append")&&(q.endLine==pos.line)&&as.isEmpty&&kw.isEmpty then some (y,a)else none)=some x:=h;generalize c:(ag (nm m) (nm "append")&&(q.endLine==pos.line)&&as.isEmpty&&kw.isEmpty)=b at h
     induction b using Bool.casesOn with
     |true=>
      have c1:=aG c;have c2:=aG c1.1;have c3:=aG c2.1;rw[<-Option.some.inj h,ig c3.1,List.isEmpty_iff.mp c2.2,List.isEmpty_iff.mp c1.2];exact⟨p,q,pos,rfl,eq_of_beq c3.2⟩
     |false=>exact av h
   |_=>exact av h
  |_=>exact av h
 |_=>exact av h
theorem zC(En:ao env κ){E:Expr->R}(GE:az G A env X ρ E){x:Str}{a:Expr}{p q pos spos:Pos}(hq:q.endLine=pos.line):dQ G A env X ρ (exec (.Expr (.Call (.Attribute (.Name x p) "append" q) [a] [] pos) spos) env) (AQ (af (kd κ (nm x))) ρ (nm x) (E a) (lk ρ (nm x))):=by
 generalize hl:lk ρ (nm x)=sl
 induction sl using Mine.Slot.casesOn with
 |own l=>
  intro ok;have a1:=aG ok;have a2:=aG a1.1;exact(th En GE hl a2.1 a2.2 hq (of_decide_eq_true a1.2)).of rfl ok
 |_=>exact λok=>ad ok
theorem xr(Fa:aB G A Φ)(En:ao env κ){τ:Tau}{e:Expr}{pos:Pos}:dQ G A env X ρ (exec (.Expr e pos) env) (mT (ev Φ τ 40 κ ρ) κ ρ e):=by
 unfold mT;generalize h:sF e=o
 induction o using Option.casesOn with
 |none=>exact λok=>ad ok
 |some x=>
  obtain⟨p,q,pos',rfl,hq⟩:=vm h;exact zC En (gC Fa τ 40 κ env X ρ En).1 hq
end
end
section
open PySem PySem.W PySem.Calls PyProof.Rows
section
variable {G:Cfg} {A:Around} {env:Env} {X:Addr->Prop} {κ:List (Str×NameKind)} {ρ:Rho} {O:Nm->Option Addr} {Φ:Fns}
noncomputable def rE(M:Model)(A:Around)(env:Env)(E:Value->Shared->Prop):List (List Stmt)->(Flow->Shared->Prop)->Shared->Prop
 |[],Q,s=>Q .next s
 |a::r,Q,s=>wpAny M A (execs a env) (λf s'=>match f with
  | .next=>rE M A env E r Q s'
  |f=>Q f s') E s
theorem dm {M:Model} {E:Value->Shared->Prop} {st:Stmt} {a:List Stmt} {r:List (List Stmt)} {Q:Flow->Shared->Prop} {s:Shared}
 (h:wpAny M A (exec st env) (λf s'=>match f with
   | .next=>rE M A env E (a::r) Q s'
   |f=>Q f s') E s):rE M A env E ((st::a)::r) Q s:=
 wpAny_execs_cons (wpAny_mono h (λf s' h'=>by induction f using Flow.casesOn<;>exact h') λ_ _ e=>e)
noncomputable def iq(G:Cfg)(A:Around)(env:Env)(X:Addr->Prop)(ρ:Rho)(segs:List (List Stmt))(r:Res):Prop:=
 r.1=true->∀O s,cq G env X O ρ s.heap->∀(E:Value->Shared->Prop) (Q:Flow->Shared->Prop),(∀f s',dP G env X O s r.2 f s'->Q f s')->rE (model G.p G.w) A env E segs Q s
theorem dP.next{s s':Shared}{o:fV}(h:dP G env X O s o .next s'):∃ρ' O',o = .next ρ'/\cq G env X O' ρ' s'.heap/\Mv env O O' s s':=by
 induction o using fV.casesOn with
 |next ρ'=>obtain⟨O',h1,h2⟩:=h;exact⟨ρ',O',rfl,h1,h2⟩
 |_=>exact h.elim
theorem dP.other{s s':Shared}{o:fV}{f:Flow}(hf:f ≠ .next)(h:dP G env X O s o f s'):(∀ρ',o ≠ .next ρ'):=by
 induction o using fV.casesOn with
 |next ρ'=>induction f using Flow.casesOn<;>first|exact absurd rfl hf|exact h.elim
 |_=>intro _ e;injections e
theorem iQ{st:Stmt}{a:List Stmt}{r:List (List Stmt)}{q:Res}{k:Rho->Res}(h1:dQ G A env X ρ (exec st env) q)(h2:∀ρ',iq G A env X ρ' (a::r) (k ρ')):iq G A env X ρ ((st::a)::r) (seq q k):=by
 intro ok O s S E Q post;obtain⟨b,o⟩:=q;have hb:b=true:=by
  induction o using fV.casesOn with
  |next ρ'=>have:(b&&(k ρ').1)=true:=ok;rw[Bool.and_eq_true]at this;exact this.1
  |_=>exact ok
 refine dm (h1 hb O s S E _ λf s' hf => ?_)
 by_cases hn:f = .next
 ·subst hn
  obtain⟨ρ',O',e,S',m⟩:=dP.next hf;have e:o = .next ρ':=e;subst e;have ok':(b&&(k ρ').1)=true:=ok;rw[Bool.and_eq_true]at ok';exact h2 ρ' ok'.2 O' s' S' E Q λf' s'' h'=>post f' s'' (dP.from m h')
 ·have ho:=dP.other hn hf
  have e2:(seq (b,o) k).2=o:=by
   induction o using fV.casesOn with
   |next ρ'=>exact absurd rfl (ho ρ')
   |_=>rfl
  rw[e2]at post;have hq:=post f s' hf
  induction f using Flow.casesOn<;>first|exact absurd rfl hn|exact hq
theorem dh{ns:List Nm}{segs:List (List Stmt)}{r:Res}(h:iq G A env X (freeze ns ρ) segs r):iq G A env X ρ segs r:=by
 intro ok O s S E Q post;obtain⟨O',S',f⟩:=S.coarse (ρ':=freeze ns ρ) (p9 ns ρ);refine h ok O' s S' E Q λf' s' hr=>post f' s' (dP.from ⟨s.heap,s.toks,rfl,λ_ _ _ e=>e,λb o _ fb=>f _ b fb⟩ hr)
theorem zD(Fa:aB G A Φ)(En:ao env κ){τ:Tau}{t:Expr}{b:List Stmt}{pos:Pos}{f:Rho->Res}{W:Nat}(hb:∀ρ',iq G A env X ρ' [b] (f ρ')):
 dQ G A env X ρ (exec (.While t b [] pos) env) (bR (λρ=>ev Φ τ 40 κ ρ t) f W ρ):=by
 intro ok O s S E Q post;refine wpAny_While (codeAny_whileLoop (λn s'=>∃ρ' O',cq G env X O' ρ' s'.heap/\Mv env O O' s s'/\(bR (λρ=>ev Φ τ 40 κ ρ t) f n ρ').1=true/\(bR (λρ=>ev Φ τ 40 κ ρ t) f n ρ').2=(bR (λρ=>ev Φ τ 40 κ ρ t) f W ρ).2) (λn s' hI => ?_) W ⟨ρ,O,S,Mv.refl s,ok,rfl⟩);obtain⟨ρ',O',S',m,o1,o2⟩:=hI
 induction n using Nat.casesOn with
 |zero=>cases o1
 |succ n=>
  rw[jL]at o1 o2;have GT:=(gC (G:=G) (A:=A) Fa τ 40 κ env X ρ' En).2;cases hc:(aa (ev Φ τ 40 κ ρ' t).2).2 with
  |false=>
   rw[hc]at o1 o2;simp only[cond_false,Bool.and_eq_true]at o1 o2;refine GT.ok t o1.1 o1.2 O' s' S' _ _ λs2 k2 => ?_
   rw[hc];simp only[Bool.false_eq_true,if_false];refine wpAny_execs_nil (post .next s2 ?_);rw[<-o2];exact⟨O',S'.keeps (Kp.keep k2),m.trans (Mv.of_keeps k2)⟩
  |true=>
   rw[hc]at o1 o2;simp only[cond_true]at o1 o2;have hz:(ev Φ τ 40 κ ρ' t).1=true/\(aa (ev Φ τ 40 κ ρ' t).2).1=true/\(f ρ').1=true:=by
    cases e:(f ρ').2<;>rw[e]at o1<;>simp only[Bool.and_eq_true]at o1
    ·exact⟨o1.1.1.1,o1.1.1.2,o1.1.2⟩
    ·exact⟨o1.1.1,o1.1.2,o1.2⟩
    ·exact⟨o1.1.1,o1.1.2,o1.2⟩
    ·exact⟨o1.1.1,o1.1.2,o1.2⟩
   refine GT.ok t hz.1 hz.2.1 O' s' S' _ _ λs2 k2 => ?_
   rw[hc];simp only[if_true];have S2:=S'.keeps (Kp.keep k2);have m2:=m.trans (Mv.of_keeps k2);have body:=hb ρ' hz.2.2 O' s2 S2;refine wpAny_mono (body _ (λfl s3=>match fl with
    | .next| .cont=>∃m',m'<n+1/\∃ρ'' O'',cq G env X O'' ρ'' s3.heap/\Mv env O O'' s s3/\(bR (λρ=>ev Φ τ 40 κ ρ t) f m' ρ'').1=true/\(bR (λρ=>ev Φ τ 40 κ ρ t) f m' ρ'').2=(bR (λρ=>ev Φ τ 40 κ ρ t) f W ρ).2
    | .brk=>Q .next s3
    | .ret v=>Q (.ret v) s3) λfl s3 hr => ?_) (λfl s3 h=>by induction fl using Flow.casesOn<;>exact h) λ_ _ e=>e
   cases e:(f ρ').2 with
   |next ρ''=>
    rw[e]at hr o1 o2
    induction fl using Flow.casesOn with
    |next=>
     obtain⟨O3,S3,m3⟩:=hr;simp only[Bool.and_eq_true]at o1;exact⟨n,Nat.lt_succ_self n,ρ'',O3,S3,m2.trans m3,o1.2,o2⟩
    |_=>exact hr.elim
   |brk ρ''=>
    rw[e]at hr o2
    induction fl using Flow.casesOn with
    |brk=>
     obtain⟨O3,S3,m3⟩:=hr;refine post .next s3 ?_;rw[<-o2];exact⟨O3,S3,m2.trans m3⟩
    |_=>exact hr.elim
   |ret v=>
    rw[e]at hr o2
    induction fl using Flow.casesOn with
    |ret u=>
     obtain⟨O3,r3,m3⟩:=hr;refine post (.ret u) s3 ?_;rw[<-o2];exact⟨O3,r3,m2.trans m3⟩
    |_=>exact hr.elim
   |bad=>rw[e]at hr;induction fl using Flow.casesOn<;>exact hr.elim
theorem It.draw {t:Expr} {X0:Addr->Prop} {hp:Heap} {it:Value} {fp wr:List Addr} {xs:List V} {St:Nat->Heap->Prop} (I:It G A t X0 hp it fp wr xs St) {i:Nat} {s:Shared} {Y:Addr->Prop} (hi:i<xs.length) (st:St i s.heap) (on:On X0 Y hp s.heap) (al:aS Y s.heap) (hw:∀b∈wr,Y b)
 {E:Value->Shared->Prop} {N:Shared->Prop} {P:Value->Shared->Prop}
 (q:∀v h' tk,am G Y h' (xs.getD i .none) v->St (i+1) h'->(∀b o,b∉wr->s.heap.get? b=some o->h'.get? b=some o)->P v { s with heap:=h',toks:=tk }):
 wpAny (model G.p G.w) A (pyNext it) (λr s₁=>match r with
  |none=>N s₁
  |some v=>wpAny (model G.p G.w) A (letOwnedTupleGo t it v) (λ_ s₂=>P v s₂) E s₁) E s:=
 wpAny_mono (I.item i s Y hi st on al hw E P q) (λr s1 h=>by obtain⟨v,rfl,h⟩:=h;exact h) λ_ _ e=>e
theorem C8(Fa:aB G A Φ)(En:ao env κ){τ:Tau}{t it:Expr}{b:List Stmt}{pos:Pos}{f:Rho->Res}(hb:∀(X:Addr->Prop) ρ',iq G A env X ρ' [b] (f ρ'))(oi:(aR κ (ev Φ τ 40 κ ρ) t it).1=true)(ht:i6 κ (aC t)=true):
 dQ G A env X ρ (exec (.For t it b [] pos) env) (bY (λv ρ=>((bh t v ρ).1&&(f (bh t v ρ).2).1,(f (bh t v ρ).2).2)) ρ (aR κ (ev Φ τ 40 κ ρ) t it).2 ρ):=by
 generalize hF:(λv ρ=>((bh t v ρ).1&&(f (bh t v ρ).2).1,(f (bh t v ρ).2).2):V->Rho->Res)=F;intro ok O s S E Q post;have GE:=(gC (G:=G) (A:=A) Fa τ 40 κ env X ρ En).1;have htn:∀x∈aC t,af (kd κ x)=true:=λx hx=>List.all_eq_true.mp ht x hx
 refine wpAny_For ?_ (ro GE oi);refine rk (t:=t) Fa En GE oi O s S _ _ λitv s4 k4 I4 => ?_
 obtain⟨s1,fp,wr,St,k1,k14,I,st4,nfp,nwr⟩:=I4;generalize hxs:(aR κ (ev Φ τ 40 κ ρ) t it).2=xs at I ok post;have live4:=I.live _ _ st4;have S1:=S.keeps (Kp.keep k1);have dead:∀b,(∃o,s1.heap.get? b=some o)->b∉wr:=λb ⟨o,e⟩ hb=>by rw[nwr b hb]at e;injections e
 obtain⟨S4,_⟩:=S1.more (Kp.keep k14) (Z:=λb=>b∈wr) λb hb=>⟨nwr b hb,live4 b (I.sub b hb)⟩
 have fpN:∀b∈fp,¬ak env mm O b:=λb hb f=>nfp b hb (f.elim (λh=>h.elim) Or.inr)
 have away:∀{O':Nm->Option Addr} {ρ':Rho} {h:Heap},cq G env (λb=>X b\/b∈wr) O' ρ' h->∀{h'},(∀b o,b∉wr->h.get? b=some o->h'.get? b=some o)->cq G env X O' ρ' h':=λ{O' ρ' h} S' {h'} k=>
  S'.less (Z:=λb=>b∈wr) (λb hb => .inr hb) (λb hb=>⟨.inl hb,dead b (S1.alive b (.inl hb))⟩) (λb hb=>dead b (S1.alive b (.inr (.inl hb)))) λb o nz e=>k b o nz e
 refine codeAny_forLoop_any (λn s'=>∃i ρ' O',n=xs.length-i/\i<=xs.length/\cq G env (λb=>X b\/b∈wr) O' ρ' s'.heap/\St i s'.heap/\(∃h tk,s'={ s4 with heap:=h,toks:=tk }) /\
  (∀b o,¬ak env mm O b->b∉wr->s4.heap.get? b=some o->s'.heap.get? b=some o)/\(∀b o,s4.heap.get? b=some o->ak env mm O' b->ak env mm O b) /\
  (bY F ρ (xs.drop i) ρ').1=true/\(bY F ρ (xs.drop i) ρ').2=(bY F ρ xs ρ).2) (λn s' hI => ?_) xs.length
  ⟨0,ρ,O,rfl,Nat.zero_le _,S4,st4,⟨s4.heap,s4.toks,rfl⟩,λb o _ _ e=>e,λb o _ f=>f,ok,rfl⟩
 obtain⟨i,ρ',O',rfl,hi,S',st',⟨h',tk',e'⟩,kp,off,o1,o2⟩:=hI;have mvT:∀{O'':Nm->Option Addr} {h'':Heap} {tk'':Nat},(∀b o,¬ak env mm O b->b∉wr->s4.heap.get? b=some o->h''.get? b=some o)->(∀b o,s4.heap.get? b=some o->ak env mm O'' b->ak env mm O b) ->
  Mv env O O'' s { s4 with heap:=h'',toks:=tk'' }:=λ{O'' h'' tk''} kp' off'=>by
  obtain⟨h4,t4,e4,kk4⟩:=k4;subst e4;exact⟨h'',tk'',rfl,λb o nb e=>kp' b o nb (dead b ⟨o,Kp.keep k1 b o e⟩) (kk4 b o e),λb o e f=>off' b o (kk4 b o e) f⟩
 by_cases hlt:i<xs.length
 ·rw[rm hlt]at o1 o2
  generalize hx:xs.getD i .none=x at o1 o2;have oF:(F x ρ').1=true:=by
   rw[ia]at o1;generalize (F x ρ').2=o at o1
   induction o using fV.casesOn with
   |next r=>exact(aG o1).1
   |_=>exact o1
  have eF1:(F x ρ').1=((bh t x ρ').1&&(f (bh t x ρ').2).1):=by rw[<-hF]
  have eF2:(F x ρ').2=(f (bh t x ρ').2).2:=by rw[<-hF]
  rw[eF1,Bool.and_eq_true]at oF;have onX:On (ak env X O) (ak env (λb=>X b\/b∈wr) O') s1.heap s'.heap:=⟨λb o nb e=>kp b o (λf=>nb (f.elim (λh=>h.elim) Or.inr)) (dead b ⟨o,e⟩) (Kp.keep k14 b o e),λb o e f=>by
   rcases f with(f|f)|f|f
   ·exact .inl f
   ·exact absurd f (dead b ⟨o,e⟩)
   ·exact .inr (.inl f)
   ·rcases off b o (Kp.keep k14 b o e) (.inr (.inr f))with f|f|f
    ·exact f.elim
    ·exact .inr (.inl f)
    ·exact .inr (.inr f)⟩
  refine I.draw (Y:=ak env (λb=>X b\/b∈wr) O') hlt st' onX S'.full (λb hb => .inl (.inr hb)) λv h2 tk2 rv st2 k2 => ?_
  have S2:cq G env (λb=>X b\/b∈wr) O' ρ' h2:=S'.skip (Z:=λb=>b∈wr) (λb hb => .inr hb) (λb hb=>dead b (S1.alive b (.inr (.inl hb)))) (λb o nz e=>k2 b o nz e) λb hb=>I.live _ _ st2 b (I.sub b hb)
  rw[hx]at rv;refine uZ (s:={ s' with heap:=h2,toks:=tk2 }) Fa.none En oF.1 htn S2 rv _ _ λs3 S3 mv3 => ?_
  obtain⟨h3,tk3,e3,k3,al3⟩:=mv3;have own4:∀b,eF env b->∀c∈fp,b≠c:=λb hb c hc e=>nfp c hc (.inr (.inl (e▸hb)))
  have st3:St (i+1) h3:=I.frame _ _ _ st2 λb hb o e=>k3 b o (λy _ pl=>own4 b pl.own b hb rfl) e
  have hs3:s3.heap=h3:=by rw[e3]
  have kp3:∀b o,¬ak env mm O b->b∉wr->s4.heap.get? b=some o->s3.heap.get? b=some o:=λb o nb nw e=>by
   rw[hs3];exact k3 b o (λy _ pl=>nb (.inr (.inl pl.own))) (k2 b o nw (kp b o nb nw e))
  have off3:∀b o,s4.heap.get? b=some o->ak env mm (jS O' (aC t)) b->ak env mm O b:=λb o e fb=>off b o e (ak.upd fb)
  have same3:∃h tk,s3={ s4 with heap:=h,toks:=tk }:=⟨h3,tk3,by rw[e3,e']⟩;refine wpAny_mono (hb (λb=>X b\/b∈wr) _ oF.2 _ s3 S3 _ (λfl s5=>match fl with
   | .next| .cont=>∃m',m'<xs.length-i/\∃i ρ' O',m'=xs.length-i/\i<=xs.length/\cq G env (λb=>X b\/b∈wr) O' ρ' s5.heap/\St i s5.heap/\(∃h tk,s5={ s4 with heap:=h,toks:=tk }) /\
       (∀b o,¬ak env mm O b->b∉wr->s4.heap.get? b=some o->s5.heap.get? b=some o)/\(∀b o,s4.heap.get? b=some o->ak env mm O' b->ak env mm O b) /\
       (bY F ρ (xs.drop i) ρ').1=true/\(bY F ρ (xs.drop i) ρ').2=(bY F ρ xs ρ).2
   | .brk=>Q .next s5
   | .ret v=>Q (.ret v) s5) λfl s5 hr => ?_) (λfl s5 h=>by induction fl using Flow.casesOn<;>exact h) λ_ _ e=>e
  have fin:∀{O5:Nm->Option Addr},Mv env (jS O' (aC t)) O5 s3 s5->(∃h tk,s5={ s4 with heap:=h,toks:=tk })/\(∀b o,¬ak env mm O b->b∉wr->s4.heap.get? b=some o->s5.heap.get? b=some o) /\
   (∀b o,s4.heap.get? b=some o->ak env mm O5 b->ak env mm O b\/b∈wr)/\(∀b o,b∈fp->s3.heap.get? b=some o->s5.heap.get? b=some o):=λ{O5} mv5=>by
   obtain⟨h5,t5,e5,on5⟩:=mv5;subst e5;obtain⟨h3',tk3',e3'⟩:=same3;refine⟨⟨h5,t5,by rw[e3']⟩,λb o nb nw e => ?_,λb o e fb => ?_,λb o hb e => ?_⟩
   ·refine on5.keep b o (λf=>nb (off3 b o e f)) (kp3 b o nb nw e)
   ·by_cases hw:b∈wr
    ·exact .inr hw
    ·by_cases nb:ak env mm O b
     ·exact .inl nb
     ·exact .inl (off3 b o e (on5.off b o (kp3 b o nb hw e) fb))
   ·refine on5.keep b o (λf => ?_) e
    obtain⟨o4,e4⟩:=live4 b hb;exact fpN b hb (off3 b o4 e4 f)
  cases e:(f (bh t x ρ').2).2 with
  |next ρ''=>
   rw[e]at hr
   induction fl using Flow.casesOn with
   |next=>
    obtain⟨O5,S5,mv5⟩:=hr;obtain⟨g1,g2,g3,g4⟩:=fin mv5;obtain⟨O6,S6,f6⟩:=S5.coarse (ρ':=mask ρ ρ'') (rq ρ ρ'');have un:bY F ρ (x::xs.drop (i+1)) ρ'=((F x ρ').1&&(bY F ρ (xs.drop (i+1)) (mask ρ ρ'')).1,(bY F ρ (xs.drop (i+1)) (mask ρ ρ'')).2):=by
     rw[ia,eF2,e]
    rw[un]at o1 o2;simp only[Bool.and_eq_true]at o1;refine⟨xs.length-(i+1),⋯,i+1,mask ρ ρ'',O6,rfl,hlt,S6,I.frame _ _ _ (hs3▸st3) λb hb o e=>g4 b o hb e,g1,g2,λb o e fb => ?_,o1.2,o2⟩;have fb5:=f6 mm b fb
    rcases g3 b o e fb5 with h|h
    ·exact h
    ·rcases fb5 with f|f|⟨y,f⟩
     ·exact f.elim
     ·exact .inr (.inl f)
     ·exact absurd (Or.inr h) (S5.apart y b f).1
   |_=>exact hr.elim
  |brk ρ''=>
   rw[e]at hr
   induction fl using Flow.casesOn with
   |brk=>
    obtain⟨O5,S5,mv5⟩:=hr;obtain⟨⟨h5,t5,e5⟩,g2,g3,g4⟩:=fin mv5;have S5':=away S5 (h':=s5.heap) λ_ _ _ e=>e
    obtain⟨O6,S6,f6⟩:=S5'.coarse (ρ':=mask ρ ρ'') (rq ρ ρ'');have un:bY F ρ (x::xs.drop (i+1)) ρ'=((F x ρ').1, .next (mask ρ ρ'')):=by
     rw[ia,eF2,e]
    rw[un]at o2;refine post .next s5 ?_;rw[<-o2];refine⟨O6,S6, ?_⟩;subst e5;refine mvT g2 λb o e fb => ?_
    have fb5:=f6 mm b fb
    rcases g3 b o e fb5 with h|h
    ·exact h
    ·rcases fb5 with f|f|⟨y,f⟩
     ·exact f.elim
     ·exact .inr (.inl f)
     ·exact absurd (Or.inr h) (S5.apart y b f).1
   |_=>exact hr.elim
  |ret v=>
   rw[e]at hr
   induction fl using Flow.casesOn with
   |ret u=>
    obtain⟨O5,r5,mv5⟩:=hr;obtain⟨⟨h5,t5,e5⟩,g2,g3,g4⟩:=fin mv5;have un:bY F ρ (x::xs.drop (i+1)) ρ'=((F x ρ').1, .ret v):=by
     rw[ia,eF2,e]
    rw[un]at o2;refine post (.ret u) s5 ?_;rw[<-o2];subst e5;refine⟨λy=>match O5 y with|some a=>if a∈wr then none else some a|none=>none,r5.on ⟨λ_ _ _ e=>e,λb o _ fb => ?_⟩,mvT g2 λb o e fb => ?_⟩
    ·rcases fb with f|f|⟨y,f⟩
     ·exact .inl (.inl f)
     ·exact .inr (.inl f)
     ·dsimp only at f
      split at f
      ·split at f
       ·cases f
       ·injection f with f;subst f;exact .inr (.inr ⟨y,by assumption⟩)
      ·cases f
    ·rcases fb with f|f|⟨y,f⟩
     ·exact f.elim
     ·exact .inr (.inl f)
     ·dsimp only at f
      split at f
      ·rename_i a ha
       split at f
       ·cases f
       ·rename_i hw
        injection f with f;subst f
        exact(g3 _ o e (.inr (.inr ⟨y,ha⟩))).elim id λh=>absurd h hw
      ·cases f
   |_=>exact hr.elim
  |bad=>rw[e]at hr;induction fl using Flow.casesOn<;>exact hr.elim
 ·have hi':i=xs.length:=⋯
  subst hi';refine I.done s' st' _ _ λh2 tk2 k2 => ?_
  refine wpAny_execs_nil (post .next _ ?_);rw[List.drop_length]at o2;have e2:(bY F ρ xs ρ).2 = .next ρ':=o2.symm;rw[e2];refine⟨O',away S' k2, ?_⟩;subst e';exact mvT (λb o nb nw e=>k2 b o nw (kp b o nb nw e)) off
end
end
section
open PySem PySem.W PySem.Calls PyProof.Rows
section
variable {G:Cfg} {A:Around} {env:Env} {X:Addr->Prop} {κ:List (Str×NameKind)} {ρ:Rho} {O:Nm->Option Addr} {Φ:Fns}
theorem dP.coarser{s s':Shared}{ρ1 ρ2:Rho}(h:dP G env X O s (.next ρ1) .next s')(l:∀x,jt (lk ρ2 x) (lk ρ1 x)):dP G env X O s (.next ρ2) .next s':=by
 obtain⟨O',S,h1,t,e,on⟩:=h;obtain⟨O2,S2,f⟩:=S.coarse l;exact⟨O2,S2,h1,t,e,on.trans ⟨λb o nb hb=>hb,λb o _ fb=>f _ b fb⟩|>λm=>⟨m.keep,m.off⟩⟩
theorem Bo(Fa:aB G A Φ)(En:ao env κ){τ:Tau}{t:Expr}{a b:List Stmt}{pos:Pos}{ns:List Nm}{ra rb:Res}(ha:iq G A env X ρ [a] ra)(hb:iq G A env X ρ [b] rb)(sa:ar ns ρ ra.2)(sb:ar ns ρ rb.2):
 dQ G A env X ρ (exec (.If t a b pos) env) (pG ns ((ev Φ τ 40 κ ρ t).1&&(aa (ev Φ τ 40 κ ρ t).2).1) (aa (ev Φ τ 40 κ ρ t).2).2 ra rb):=by
 have GT:=(gC (G:=G) (A:=A) Fa τ 40 κ env X ρ En).2;intro ok O s S E Q post;obtain⟨ba,oa⟩:=ra;obtain⟨bb,ob⟩:=rb
 induction oa using fV.casesOn with
 |next ρa=>
  induction ob using fV.casesOn with
  |next ρb=>
   have ok':(((ev Φ τ 40 κ ρ t).1&&(aa (ev Φ τ 40 κ ρ t).2).1)&&(bif (aa (ev Φ τ 40 κ ρ t).2).2 then ba else bb))=true:=ok;simp only[Bool.and_eq_true]at ok';obtain⟨⟨o1,o2⟩,o3⟩:=ok';have post':∀f s',dP G env X O s (.next (gQ ns (aa (ev Φ τ 40 κ ρ t).2).2 ρa ρb)) f s'->Q f s':=post
   refine wpAny_If (GT.ok t o1 o2 O s S _ _ λs1 k1 => ?_);have mo:=sZ (ns:=ns) (c:=(aa (ev Φ τ 40 κ ρ t).2).2) (ρ:=ρ) (a:=ρa) (b:=ρb) sa sb;cases hc:(aa (ev Φ τ 40 κ ρ t).2).2 with
   |true=>
    rw[hc]at o3 post' mo;simp only[cond_true]at o3 mo;simp only[if_true];refine wpAny_mono (ha o3 O s1 (S.keeps (Kp.keep k1)) E (λf s'=>f = .next/\dP G env X O s1 (.next ρa) .next s') λf s' hr => ?_) (λf s' h => ?_) λ_ _ e=>e
    ·induction f using Flow.casesOn with
     |next=>exact⟨rfl,hr⟩
     |_=>exact hr.elim
    ·induction f using Flow.casesOn with
     |next=>exact post' _ _ (dP.from (Mv.of_keeps k1) (dP.coarser h.2 mo.2))
     |_=>cases h.1
   |false=>
    rw[hc]at o3 post' mo;simp only[cond_false]at o3 mo;simp only[Bool.false_eq_true,if_false];refine wpAny_mono (hb o3 O s1 (S.keeps (Kp.keep k1)) E (λf s'=>f = .next/\dP G env X O s1 (.next ρb) .next s') λf s' hr => ?_) (λf s' h => ?_) λ_ _ e=>e
    ·induction f using Flow.casesOn with
     |next=>exact⟨rfl,hr⟩
     |_=>exact hr.elim
    ·induction f using Flow.casesOn with
     |next=>exact post' _ _ (dP.from (Mv.of_keeps k1) (dP.coarser h.2 mo.2))
     |_=>cases h.1
  |_=>injections ok
 |_=>injections ok
theorem tm(Fa:aB G A Φ)(En:ao env κ){τ:Tau}{μ:List Nm}{W:Nat}:∀(n:Nat) (segs:List (List Stmt)) (X:Addr->Prop) (ρ:Rho),iq G A env X ρ segs (ex Φ τ μ W κ n segs.flatten ρ)
 |0,segs,X,ρ=>λok=>absurd ok Bool.false_ne_true
 |n+1,[],X,ρ=>λok O s S E Q post=>post .next s ⟨O,S,Mv.refl s⟩
 |n+1,[]::r,X,ρ=>λok O s S E Q post=>wpAny_execs_nil (tm Fa En (n+1) r X ρ ok O s S E Q post)
 |n+1,(st::a)::r,X,ρ=>by
  have ih:=tm Fa En (τ:=τ) (μ:=μ) (W:=W) n;have fl:((st::a)::r).flatten=st::(a::r).flatten:=rfl;rw[fl];have one:∀(b:List Stmt) (X:Addr->Prop) (ρ':Rho),iq G A env X ρ' [b] (ex Φ τ μ W κ n b ρ'):=λb X ρ'=>by
   have:=ih [b] X ρ'
   rwa [show[b].flatten=b by simp]at this
  induction st using Stmt.casesOn with
  |Assign ts e p=>exact dh (iQ (ti Fa En) λρ'=>ih (a::r) X ρ')
  |AugAssign t op e p=>exact dh (iQ (zB Fa En) λρ'=>ih (a::r) X ρ')
  |Expr e p=>exact dh (iQ (xr Fa En) λρ'=>ih (a::r) X ρ')
  |Pass p=>exact λok O s S E Q post=>dm (wpAny_Pass (ih (a::r) X ρ ok O s S E Q post))
  |Break p=>exact λok O s S E Q post=>dm (wpAny_Break (post .brk s ⟨O,S,Mv.refl s⟩))
  |Return v p=>
   induction v using Option.casesOn with
   |none=>exact λok O s S E Q post=>dm (wpAny_Return_none (post (.ret .none) s ⟨O,am.none_iff.mpr rfl,Mv.refl s⟩))
   |some e=>
    refine dh (ns:=aK 40 e) ?_;intro ok O s S E Q post;have GE:=(gC (G:=G) (A:=A) Fa τ 40 κ env X (freeze (aK 40 e) ρ) En).1;exact dm (wpAny_Return_some (GE.ok e ok O s S _ _ λu s1 k1 r1=>post (.ret u) s1 ⟨O,r1,Mv.of_keeps k1⟩))
  |If t b c p=>
   refine dh (ns:=aK 40 t) ?_;show iq G A env X (freeze (aK 40 t) ρ) _ (bif bf b&&bf c&&ay (fits 20) b&&ay (fits 20) c then _ else _:Res);cases hc:(bf b&&bf c&&ay (fits 20) b&&ay (fits 20) c)with
   |true=>
    simp only[cond_true];simp only[Bool.and_eq_true]at hc;refine iQ (Bo Fa En (one b X _) (one c X _) ?_ ?_) λρ'=>ih (a::r) X ρ'
    ·exact(rx n b _ 20 hc.1.2).more λz hz=>List.mem_append_left _ hz
    ·exact(rx n c _ 20 hc.2).more λz hz=>List.mem_append_right _ hz
   |false=>
    simp only[cond_false];have GT:=(gC (G:=G) (A:=A) Fa τ 40 κ env X (freeze (aK 40 t) ρ) En).2;intro ok O s S E Q post;unfold jM at ok post;simp only[Bool.and_eq_true]at ok;obtain⟨⟨o1,o2⟩,o3⟩:=ok;dsimp only at post;refine dm (wpAny_If (GT.ok t o1 o2 O s S _ _ λs1 k1 => ?_));cases hc2:(aa (ev Φ τ 40 κ (freeze (aK 40 t) ρ) t).2).2 with
    |true=>
     rw[hc2]at o3 post;simp only[cond_true]at o3 post;simp only[if_true];exact ih (b::a::r) X _ o3 O s1 (S.keeps (Kp.keep k1)) E Q λf s' h=>post f s' (dP.from (Mv.of_keeps k1) h)
    |false=>
     rw[hc2]at o3 post;simp only[cond_false]at o3 post;simp only[Bool.false_eq_true,if_false];exact ih (c::a::r) X _ o3 O s1 (S.keeps (Kp.keep k1)) E Q λf s' h=>post f s' (dP.from (Mv.of_keeps k1) h)
  |For t it b els p=>
   induction els using List.casesOn with
   |cons _ _=>exact λok=>absurd ok Bool.false_ne_true
   |nil=>
    refine dh (ns:=aK 40 it) (iQ ?_ λρ'=>ih (a::r) X ρ');intro ok;simp only[Bool.and_eq_true]at ok;exact C8 Fa En (f:=ex Φ τ μ W κ n b) (λX ρ'=>one b X ρ') ok.1.1 ok.1.2 ok.2
  |While t b els p=>
   induction els using List.casesOn with
   |cons _ _=>exact λok=>absurd ok Bool.false_ne_true
   |nil=>exact dh (ns:=aK 40 t) (iQ (zD Fa En (f:=ex Φ τ μ W κ n b) λρ'=>one b X ρ') λρ'=>ih (a::r) X ρ')
  |_=>exact λok=>absurd ok Bool.false_ne_true
end
theorem kP{kindOf:Str->Option NameKind}:∀{bs:List (Str×Value)} {m:Str->Option Value} {x:Str},(∀b∈bs,b.1≠x)->bindL kindOf bs m x=m x/\bindC kindOf bs m x=m x
 |[],m,x,_=>⟨rfl,rfl⟩
 |(n,v)::r,m,x,h=>by
  have hn:x≠n:=λe=>h _ (List.mem_cons_self ..) e.symm
  have hr:=λb hb=>h b (List.mem_cons_of_mem _ hb)
  constructor
  ·unfold bindL
   rw[(kP hr).1]
   split
   ·show(if x=n then _ else _)=_;rw[if_neg hn]
   ·rfl
  ·unfold bindC
   rw[(kP hr).2]
   split
   ·rfl
   ·show(if x=n then _ else _)=_;rw[if_neg hn]
theorem rF{kindOf:Str->Option NameKind}:∀{bs:List (Str×Value)} {m:Str->Option Value} {x:Str} {u:Value},(bs.map (·.1)).Nodup->(x,u)∈bs->(kindOf x=some .local->bindL kindOf bs m x=some u)/\(kindOf x≠some .local->bindC kindOf bs m x=some u)
 |(n,v)::r,m,x,u,hn,h=>by
  rw[List.map_cons,List.nodup_cons]at hn
  rcases List.mem_cons.mp h with e|h
  ·injection e with e1 e2
   subst e1;subst e2;have off:=λm=>kP (kindOf:=kindOf) (bs:=r) (m:=m) (x:=x) λb hb e=>hn.1 (List.mem_map.mpr ⟨b,hb,e⟩)
   constructor
   ·intro hk
    unfold bindL;rw[(off _).1,if_pos hk];show(if x=x then some u else _)=_;rw[if_pos rfl]
   ·intro hk
    unfold bindC;rw[(off _).2,if_neg hk];show(if x=x then some u else _)=_;rw[if_pos rfl]
  ·have ih:=λm=>rF (kindOf:=kindOf) (m:=m) hn.2 h
   constructor
   ·intro hk;unfold bindL;exact(ih _).1 hk
   ·intro hk;unfold bindC;exact(ih _).2 hk
structure cH(G:Cfg)(a:Addr)(d:Def):Prop where
 ex:∃(o:Obj) (fd:FuncData) (ids:List Str),G.h0.get? a=some o/\o.data = .func fd/\G.h0.CodeRec fd.code fd.qualname/\fd.body = .stmts d.body/\fd.closure=[]/\fd.scope.names=d.κ/\fd.scope.kind = .function /\
  fd.scope.isCoroutine=false/\fd.scope.isGenerator=false/\fd.globals=mainGlobals/\fd.builtins=builtinsNs/\ids.map nm=d.params/\ids.Nodup /\
  (∀us:List Value,us.length=ids.length->bindArgs fd ⟨us,[]⟩=pure (ids.zip us))/\(∀x∈ids,fd.scope.names.lookup x=some .local\/fd.scope.names.lookup x=some .cell)
 once:jq d.κ
 nofree:∀x,(x,NameKind.free)∉d.κ
 plain:∀x k,(x,k)∈d.κ->(x==("__debug__":Str))=false/\(x==("__classdict__":Str))=false
theorem mq(bs:List (Nm×V)):∀(κ:List (Str×NameKind)) (x:Nm),lk (cK κ bs) x = .un\/∃v,me bs x=some v/\lk (cK κ bs) x = .val v
 |[],x => .inl rfl
 |(y,k)::r,x=>by
  have ih:=mq bs r x;unfold cK at ih |-;rw[List.filterMap_cons];cases hk:af (some k)with
  |false=>simpa[hk]using ih
  |true=>
   simp only[hk,cond_true];cases hb:me bs (nm y)with
   |none=>
    show lk ((nm y, .un)::_) x = .un\/∃v,_/\lk ((nm y, .un)::_) x = .val v;rw[jg];cases e:ag x (nm y)with
    |true=>exact .inl rfl
    |false=>exact ih
   |some v=>
    show lk ((nm y, .val v)::_) x = .un\/∃v',_/\lk ((nm y, .val v)::_) x = .val v';rw[jg];cases e:ag x (nm y)with
    |true=>exact .inr ⟨v,by rw[au.mp e];exact hb,rfl⟩
    |false=>exact ih
theorem vn{G:Cfg}{X:Addr->Prop}{h:Heap}:∀{ids:List Str} {as:List V} {us:List Value} {x:Str} {v:V},Reps G X h as us->me (lX (ids.map nm) as) (nm x)=some v->∃u,(x,u)∈ids.zip us/\am G X h v u
 |[],as,us,x,v,_,e=>by induction as using List.casesOn<;>injections e
 |i::ids,[],us,x,v,_,e=>by injections e
 |i::ids,y::as,us,x,v,r,e=>by
  obtain⟨u,us',rfl,h1,h2⟩:=Reps.cons_iff.mp r;have e':(bif ag (nm x) (nm i)then some y else me (lX (ids.map nm) as) (nm x))=some v:=e;cases hx:ag (nm x) (nm i)with
  |true=>
   rw[hx]at e'
   injection e' with e'
   subst e';rw[cy (au.mp hx)];exact⟨u,List.mem_cons_self ..,h1⟩
  |false=>
   rw[hx]at e';obtain⟨u',m,h3⟩:=vn h2 e';exact⟨u',List.mem_cons_of_mem _ m,h3⟩
theorem iR{ids:List Str}{us:List Value}(h:us.length=ids.length):(ids.zip us).map (·.1)=ids:=by
 rw[List.map_fst_zip ⋯]
theorem ir{α:Type}:∀{l:List (Str×α)} {x:Str} {c:α},l.Pairwise (λa b=>a.1≠b.1)->(x,c)∈l->l.lookup x=some c
 |(y,d)::r,x,c,p,h=>by
  rw[List.pairwise_cons]at p;rw[List.lookup_cons]
  rcases List.mem_cons.mp h with e|h
  ·injection e with e1 e2
   subst e1;subst e2;rw[show(x==x)=true from beq_self_eq_true x]
  ·have:(x==y)=false:=by
    rw[<-Bool.not_eq_true];exact λe=>p.1 _ h (eq_of_beq e).symm
   rw[this];exact ir p.2 h
theorem dI:∀{names:List (Str×NameKind)} {n:Nat} {acc:List (Str×Addr)},jq names->(∀x∈acc,∀k,(x.1,k)∉names)->acc.Pairwise (λx y=>x.1≠y.1)->(cellsFrom n names acc).Pairwise λx y=>x.1≠y.1
 |[],n,acc,_,_,p=>p
 |(m,k)::r,n,acc,ho,ha,p=>by
  have ho':nm m∉r.map (λx=>nm x.1)/\jq r:=by
   unfold jq at ho;rw[List.map_cons,List.nodup_cons]at ho;exact ho
  unfold cellsFrom
  split
  ·refine dI ho'.2 (λx hx k' hk' => ?_) (List.pairwise_cons.mpr ⟨λy hy e => ?_,p⟩)
   ·rcases List.mem_cons.mp hx with e|hx
    ·subst e
     exact ho'.1 (List.mem_map.mpr ⟨_,hk',rfl⟩)
    ·exact ha x hx k' (List.mem_cons_of_mem _ hk')
   ·have e:m=y.1:=e
    exact ha y hy k (by rw[<-e];exact List.mem_cons_self ..)
  ·exact dI ho'.2 (λx hx k' hk'=>ha x hx k' (List.mem_cons_of_mem _ hk')) p
section
variable {G:Cfg} {A:Around} {Φ:Fns}
theorem C9 {a:Addr} {d:Def} {τ:Tau} {W:Nat} (hd:cH G a d) (hroom:A.depth<recursionLimit) (hlim:G.h0.NoLimit) (Fa:∀e,aB G (A.deeper e) Φ) {X:Addr->Prop} {s:Shared} {as:List V} {us:List Value} (old:pi G s.heap) (off:w6 G X) (al:aS X s.heap)
 (r:Reps G X s.heap as us) (ok:(bN Φ τ W d as).1=true):aw G A X (call (.ref a) us) (bN Φ τ W d as).2 s:=by
 obtain⟨o,fd,ids,ho,hdata,hcd,hbody,hclo,hnames,hkind,hco,hgen,hgl,hbu,hids,hnd,hbind,hloc⟩:=hd.ex;unfold bN at ok |-;simp only[Bool.and_eq_true]at ok;obtain⟨hlen,ok⟩:=ok;have hlen':us.length=ids.length:=by
  have:=Nat.eq_of_beq_eq_true hlen;rw[<-hids,List.length_map]at this;rw[this,<-r.length]
 intro E Q q;have ho':s.heap.get? a=some o:=old a o ho;have hlim':s.heap.NoLimit:=hlim.keeps old;have hcd':s.heap.CodeRec fd.code fd.qualname:=hcd.keeps old;refine wpAny_call (codeAny_call_cells hroom ho' hdata hlim' hcd' hbody (hbind us hlen') hclo (λx hx => ?_) (λs₁ C => ?_) hco hgen hkind)
 ·have hm:x.1∈ids:=by rw[<-iR hlen'];exact List.mem_map.mpr ⟨x,hx,rfl⟩
  rcases hloc x.1 hm with h|h
  ·exact .inl h
  ·refine .inr ⟨h, ?_⟩
   obtain⟨c,hc⟩:=bP (n:=s.heap.objs.size+1) (acc:=[]) (mem_of_lookup h);obtain⟨c',e⟩:=dk hc;rw[e];rfl
 ·generalize henv:callEnvC fd s.heap.objs.size a=env at C |-
  have eScope:env.scope=fd.scope:=by rw[<-henv];rfl
  have eLoc:env.locals=s.heap.objs.size:=by rw[<-henv];rfl
  have eCells:env.cells=cellsFrom (s.heap.objs.size+1) fd.scope.names []:=by rw[<-henv];rfl
  have eKind:∀x,env.kindOf x=d.κ.lookup x:=λx=>by show env.scope.names.lookup x=_;rw[eScope,hnames]
  have noF:∀x,env.kindOf x≠some .free:=λx e=>hd.nofree x (mem_of_lookup (eKind x▸e))
  have En:ao env d.κ:=
   { kind:=by rw[eScope];exact hkind
     names:=λx=>by rw[eKind,bF]
     free:=λx=>by rw[eKind,bF]
     glob:=λx=>by rw[eKind,bF]
     plain:=λx h=>by
      rw[eKind]at h;cases e:d.κ.lookup x with
      |none=>rw[e]at h;injections h
      |some k=>exact hd.plain x k (mem_of_lookup e)
     globals:=by rw[<-henv];exact hgl
     builtins:=by rw[<-henv];exact hbu }
  have kp:∀b o,s.heap.get? b=some o->s₁.heap.get? b=some o:=C.toInCall.keep
  have above:∀b,eF env b->s.heap.objs.size<=b:=λb hb=>by
   rcases hb with e|⟨x,m⟩
   ·rw[e,eLoc];exact Nat.le_refl _
   ·have:=C.above x b m
    rw[eLoc]at this;exact Nat.le_of_lt this
  have dead:∀b,eF env b->s.heap.get? b=none:=λb hb=>aX _ (above b hb)
  have cellsOnce:env.cells.Pairwise λx y=>x.1≠y.1:=by
   rw[eCells];exact dI (hnames▸hd.once) (λ_ h=>nomatch h) List.Pairwise.nil
  have aliveOwn:∀b,eF env b->∃o,s₁.heap.get? b=some o:=λb hb=>by
   rcases hb with e|⟨x,m⟩
   ·obtain⟨o',_,_,e',_⟩:=C.toInCall.ns;rw[e];exact⟨o',e'⟩
   ·obtain⟨o',e',_⟩:=C.cell x b (ir cellsOnce m);exact⟨o',e'⟩
  have on:On X (ak env X λ_=>none) s.heap s₁.heap:=⟨λb o _ e=>kp b o e,λb o e f=>by
   rcases f with f|f|⟨y,f⟩
   ·exact f
   ·rw[dead b f]at e;injections e
   ·cases f⟩
  have S:cq G env X (λ_=>none) (cK d.κ (lX d.params as)) s₁.heap:=
   { old:=λb o e=>kp b o (old b o e)
     new:=λb f=>by
      rcases f with f|f|⟨y,f⟩
      ·exact off b f
      ·cases e:G.h0.get? b with
       |none=>rfl
       |some o=>
        have:=old b o e;rw[dead b f]at this;injections this
      ·cases f
     alive:=λb f=>by
      rcases f with f|f|⟨y,f⟩
      ·obtain⟨o,e⟩:=al b f;exact⟨o,kp b o e⟩
      ·exact aliveOwn b f
      ·cases f
     look:=by
      refine⟨λx=>if env.kindOf x=some .local then bindL env.kindOf (ids.zip us) (λ_=>none) x else bindC env.kindOf (ids.zip us) (λ_=>none) x,⟨⟨_,C.toInCall.ns,λx hx=>by rw[if_pos hx]⟩,λx hx => ?_,C.apart⟩,λx hx => ?_⟩
      ·have hc:env.kindOf x=some .cell:=by
        cases e:env.kindOf x with
        |none=>rw[e]at hx;injections hx
        |some k=>induction k using NameKind.casesOn<;>first|rfl|exact absurd e (noF x)|(rw[e]at hx;injections hx)
       have hm:(x,NameKind.cell)∈fd.scope.names:=mem_of_lookup (by have:=eKind x;rw[hc]at this;rw[hnames];exact this.symm);obtain⟨c,hcm⟩:=bP (n:=s.heap.objs.size+1) (acc:=[]) hm;obtain⟨c',e⟩:=dk hcm;have e':env.cells.lookup x=some c':=by rw[eCells];exact e
       refine⟨c',e', ?_⟩
       skip
       rw[if_neg (by rw[hc];decide)];exact C.cell x c' e'
      ·rcases mq (lX d.params as) d.κ (nm x)with e|⟨v,e1,e2⟩
       ·rw[e];trivial
       ·rw[e2]
        rw[<-hids]at e1;obtain⟨u,m,hr⟩:=vn r e1;refine⟨u, ?_,hr.on on⟩;have b:=rF (kindOf:=env.kindOf) (m:=λ_=>none) (by rw[iR hlen'];exact hnd) m;dsimp only
        by_cases hk:env.kindOf x=some .local
        ·rw[if_pos hk];exact b.1 hk
        ·rw[if_neg hk];exact b.2 hk
     inj:=λx y a e=>nomatch e
     apart:=λx a e=>nomatch e }
  obtain⟨hh,tk,es1⟩:=C.toInCall.same;have fin:∀O' s',Mv env (λ_=>none) O' s₁ s'->Keeps s s'/\∀v u,am G (ak env X O') s'.heap v u->am G X s'.heap v u:=λO' s' mv=>by
   obtain⟨h',tk',e,m⟩:=mv;subst e;refine⟨⟨h',tk',by rw[es1],λb o e => ?_⟩,λv u hr=>hr.on ⟨λ_ _ _ e=>e,λb o e xb => .inl xb⟩⟩;refine m.keep b o (λf => ?_) (kp b o e)
   rcases f with f|f|⟨y,f⟩
   ·exact f
   ·rw[dead b f]at e;injections e
   ·cases f
  unfold jN at ok q;have X0:=tm (G:=G) (A:=A.deeper env) (Fa env) En (τ:=τ) (μ:=aM (fW 20) d.body) (W:=W) 200 [d.body] X (cK d.κ (lX d.params as));have fl:[d.body].flatten=d.body:=by simp
  rw[fl]at X0;generalize ex Φ τ (aM (fW 20) d.body) W d.κ 200 d.body (cK d.κ (lX d.params as))=res at X0 ok q;obtain⟨b,out⟩:=res;have X2:∀(E:Value->Shared->Prop) (Q:Flow->Shared->Prop) (hb:b=true),(∀f s',dP G env X (λ_=>none) s₁ out f s'->Q f s')->wpAny (model G.p G.w) (A.deeper env) (execs d.body env) Q E s₁:=λE Q hb hq=>
   wpAny_mono (X0 hb _ s₁ S E Q hq) (λf s' h'=>by induction f using Flow.casesOn<;>exact h') λ_ _ e=>e
  induction out using fV.casesOn with
  |ret v=>
   refine X2 _ _ ok λf s' ho => ?_
   induction f using Flow.casesOn with
   |ret u=>
    obtain⟨O',h1,h2⟩:=ho;exact q u s' (fin O' s' h2).1 ((fin O' s' h2).2 _ _ h1)
   |_=>exact ho.elim
  |next ρ'=>
   refine X2 _ _ ok λf s' ho => ?_
   induction f using Flow.casesOn with
   |next=>
    obtain⟨O',h1,h2⟩:=ho;exact q .none s' (fin O' s' h2).1 (am.none_iff.mpr rfl)
   |_=>exact ho.elim
  |_=>injections ok
end
end
section
open PySem PySem.W PySem.Calls PyProof.Rows
noncomputable def dJ(G:Cfg)(n:Nat)(a:Addr)(F:List V->R):Prop:=∀A,gA n A->AZ G A (.ref a) /\
 ∀X s as us,pi G s.heap->w6 G X->aS X s.heap->Reps G X s.heap as us->(F as).1=true->aw G A X (call (.ref a) us) (F as).2 s
noncomputable def cj:List Str:=["raw","n","nt","norm","is_simple"]
structure iY(G:Cfg)(N:Addr)(mN mg mb:Str->Option Value):Prop where
 cls:ClsAt G.h0 G.C N mN
 noGA:mN "__getattribute__"=none
 noGet:mN "__getattr__"=none
 noSet:mN "__setattr__"=none
 noF:∀x∈cj,mN x=none
 noF0:∀x∈cj,typeLookup (.type "object") x=pure none
 glob:G.h0.Ns mainGlobals mg
 blt:G.h0.Ns builtinsNs mb
 bi:∀f v,CT f->bootBuiltins f=some v->mg f=none/\mb f=some v
 lim:G.h0.NoLimit
 S:∃t,mN "S"=some (.str (tx [32]) t)
 T:∃t,mN "T"=some (.str (tx [9]) t)
 tp:∃ms,G.h0.Ns cStatics ms/\ms "thirdparty.any"=none
inductive FL(h:Heap)(C N:Addr):Prop
 |mk (nm q:Str) (bs:List Value) (sn:List Str) (sub:List Value) (col:Option Bool) (dd:Option Addr) (k0 k1 k2 k3 k5:Option Value) (e:h.get? C=some (excClassObj nm q C N bs [.type "object"] true sn sub false col dd k0 k1 k2 k3 k5 "object.__new__"))
theorem iY.o{G:Cfg}{N:Addr}{mN mg mb:Str->Option Value}(B:iY G N mN mg mb){h:Heap}(old:pi G h):FL h G.C N:=by
 obtain⟨nm,q,bs,sn,sub,col,dd,k0,k1,k2,k3,k5,e⟩:=B.cls.obj;exact⟨nm,q,bs,sn,sub,col,dd,k0,k1,k2,k3,k5,old _ _ e⟩
structure vo(G:Cfg)(mN:Str->Option Value)(m:Str)(f:Addr):Prop where
 at_:mN m=some (.ref f)
 obj:∃o fd,G.h0.get? f=some o/\o.cls = .type "function"/\o.data = .func fd
 none0:∃y,typeLookup (.type "object") m=pure y
 notF:m∉cj
theorem gA.less{n m:Nat}{A:Around}(r:gA n A)(h:m<=n):gA m A:=⟨r.none,by have:=r.depth;omega,by have:=r.units;omega⟩
theorem gA.deeper{n:Nat}{A:Around}(r:gA (n+1) A)(e:Env):gA n (A.deeper e):=⟨r.none,by have:=r.depth;show A.depth+1+n<_;omega,by have:=r.units;show A.units+3+_+_<_;omega⟩
theorem mr{G:Cfg}{A:Around}{a:Addr}{o:Obj}{fd:FuncData}(h:G.h0.get? a=some o)(hd:o.data = .func fd):AZ G A (.ref a):=λpos trees s E Q hp q=>
 Calls.callWith_function (o:=o) (fd:=fd) (wpAny_mono q (λx s1 h1=>⟨⟨h1.1 _ _ h,hd⟩,h1.2⟩) λ_ _ e=>e)
theorem fo{G:Cfg}{n:Nat}{a:Addr}{d:Def}{τ:Tau}{W:Nat}{Φ:Fns}(hd:cH G a d)(hlim:G.h0.NoLimit)(Fa:∀A,gA n A->aB G A Φ):dJ G (n+1) a (bN Φ τ W d):=λA r=>by
 obtain⟨o,fd,ids,ho,hdata,_⟩:=hd.ex;exact⟨mr ho hdata,λX s as us old off al rp ok=>C9 hd (by have:=r.depth;omega) hlim (λe=>Fa _ (r.deeper e)) old off al rp ok⟩
section
variable {G:Cfg} {A:Around} {X:Addr->Prop} {N:Addr} {mN mg mb:Str->Option Value}
theorem ww{h:Heap}{a:Addr}{raw n nt cnt b sm}(W:qW G X h a raw n nt cnt b sm):∃m,h.Inst a G.C m/\(∀x:Str,x∉cj->m x=none) /\
 (∀(name:Str) v,yF (nm name) (.ws raw n nt cnt b sm)=(true,v)->∃u,name∈cj/\m name=some u/\handedOut u=pure u/\am G X h v u):=by
 obtain⟨o,d,m,T,T2,t,vs,g,h1,h2,h3,h4,h5,h6,h60,h7,h8,h9,h10,h11,h12,h13,h14,h15,h16⟩:=W;refine⟨m,⟨o,g,h1,h3, .inr ⟨d,h2,h4,h6⟩⟩,λx hx => ?_,λname v e => ?_⟩
 ·unfold cj at hx
  simp only[List.mem_cons,List.not_mem_nil,or_false,not_or]at hx;exact h60 x hx.1 hx.2.1 hx.2.2.1 hx.2.2.2.1 hx.2.2.2.2
 ·have e':(bif ag (nm name) (nm "n")then(true,V.int n)else bif ag (nm name) (nm "nt")then(true, .int nt)else bif ag (nm name) (nm "norm")then(true, .tup [.tup (cnt.map .int), .int b])else bif ag (nm name) (nm "is_simple")then(true, .bool sm)else bad)=(true,v):=e
  have uF:∀{x:Str},ag (nm name) (nm x)=true->name=x:=λh=>cy (au.mp h)
  cases c1:ag (nm name) (nm "n")with
  |true=>
   rw[c1]at e';injection e' with _ e'
   rw[uF c1,<-e'];obtain⟨t,e2⟩:=h8;exact⟨_,by simp[cj],e2,rfl,am.int_iff.mpr ⟨t,rfl⟩⟩
  |false=>
  rw[c1]at e';cases c2:ag (nm name) (nm "nt")with
  |true=>
   rw[c2]at e';injection e' with _ e'
   rw[uF c2,<-e'];obtain⟨t,e2⟩:=h9;exact⟨_,by simp[cj],e2,rfl,am.int_iff.mpr ⟨t,rfl⟩⟩
  |false=>
  rw[c2]at e';cases c3:ag (nm name) (nm "norm")with
  |true=>
   rw[c3]at e';injection e' with _ e'
   rw[uF c3,<-e'];have two:∀{cnt:List Int} {l:List Value},mU AS l cnt->Reps G X h (cnt.map V.int) l:=λ{cnt l} h=>by
    induction h with
    |nil=>exact Reps.nil
    |cons a b ih=>exact Reps.cons (am.int_iff.mpr a) ih
   exact⟨_,by simp[cj],h10,rfl,am.tup_iff.mpr ⟨T,_,rfl,h12,h13,Reps.cons (am.tup_iff.mpr ⟨T2,vs,rfl,h14,h15,two h16⟩) (Reps.cons (am.int_iff.mpr ⟨t,rfl⟩) Reps.nil)⟩⟩
  |false=>
  rw[c3]at e';cases c4:ag (nm name) (nm "is_simple")with
  |true=>
   rw[c4]at e';injection e' with _ e'
   rw[uF c4,<-e'];exact⟨_,by simp[cj],h11,rfl,am.bool_iff.mpr rfl⟩
  |false=>rw[c4]at e';cases e'
theorem pn{M:Model}{h:Heap}{C:Addr}{ms:Str->Option Value}(hs:h.Ns cStatics ms)(e:ms "thirdparty.any"=none):Looks M h (opaqueClassAbove (.ref C)) none:=
 Looks.andThen (a:=false) (λA Q E s k q=>wpAny_bind (wpAny_nsGet (hs.keeps k) (by rw[e];exact wpAny_pure q))) (by show Looks M h (if(!false)=true then pure none else _) none;rw[if_pos (show(!false)=true from rfl)];exact .now)
theorem xt{M:Model}{h:Heap}{x:Str}{t:Tok}:Looks M h (typeOf (.str x t)) (.type "str"):=Looks.of_pure rfl
theorem wx {prog:Program} {w:World} {E:Value->Shared->Prop} {s:Shared} {C:Addr} {nm q:Str} {bs:List Value} {sn:List Str} {sub:List Value} {col:Option Bool} {dd:Option Addr} {k0 k1 k2 k3 k5:Option Value} {newId:String} {ms:Str->Option Value} {name x:Str} {t:Tok} {expr:Bool} {Q:Value->Shared->Prop}
 (hC:s.heap.get? C=some (excClassObj nm q C N bs [.type "object"] true sn sub false col dd k0 k1 k2 k3 k5 newId)) (hn:s.heap.Ns N mN) (hv:mN name=some (.str x t)) (hs:s.heap.Ns cStatics ms) (e:ms "thirdparty.any"=none)
 (ma:findIn [] (.type "type") name=some none) {y:Option Value} (hB:typeLookup (.type "object") name=pure y) (hq:Q (.str x t) { s with toks:=s.toks+1 }):wpAny (model prog w) A (getAttr (.ref C) name expr) Q E s:=by
 have X:Frag.In [] s.heap:=λa o h=>by injections h
 have ho:Looks (model prog w) s.heap (opaqueClassAbove (.ref C)) none:=pn hs e;have ht:Looks (model prog w) s.heap (typeOf (.ref C)) (.type "type"):=λA Q E s k q=>wpAny_typeOf (T:="type") ⟨_,k _ _ hC,rfl⟩ q
 have hlk:Looks (model prog w) s.heap (typeLookup (.ref C) name) (some (.str x t)):=λA Q E s' k q=>by
  obtain⟨hh,g,d,tk,os⟩:=s';refine wpAny_typeLookup_exc (k _ _ hC) (hn.keeps k) ∅ hB ?_;rw[hv];exact q
 have hmro:mroOf (.type "object")=pure [.type "object"]:=∅;refine wpAny_bind (wpAny_mkText (wpAny_holding (wpAny_bind (ht _ _ _ _ (λ_ _ e=>e) (wpAny_bind (looks_findIn X (show findIn [] (.type "type") "__getattribute__"=some (some (.builtin "type.__getattribute__"))by decide +kernel) _ _ _ _ (λ_ _ e=>e) ?_))))));dsimp only;rw[show(onTheHeap (Value.type "type")&&Value.builtin "type.__getattribute__"==Value.builtin "object.__getattribute__")=false from by decide +kernel,if_neg nofun];refine wpAny_bind (looks_hook X (show(if onTheHeap (Value.type "type")then findIn [] (.type "type") "__getattr__" else some none)=some none by decide +kernel) _ _ _ _ (λ_ _ e=>e) (wpAny_bind (wpAny_attempt (wpAny_holding ?_))))
 unfold callGetattribute;rw[show(expr&&onTheHeap (Value.builtin "type.__getattribute__"))=false from Bool.and_false _,if_neg nofun];unfold boundAndCalled;rw[KF.slot_tga.bind];refine wpAny_bind (wpAny_pure ?_);show wpAny _ _ (call (.builtin "type.__getattribute__") [.ref C, .str name s.toks]) _ _ _;refine wpAny_call ?_;refine codeAny_call_builtin KF.slot_tga.plain KF.entry_tga ?_;refine @check_slot (model prog w) _ _ { s with toks:=s.toks+1 } "type.__getattribute__" "type" "__getattribute__" (.ref C) [.str name s.toks] [] _ (by decide +kernel) (by decide +kernel) (ht.andThen (looks_subIn X (by decide +kernel))) (KF.args_tga (.ref C) (.str name s.toks)) ?_
 unfold Builtin.«type.__getattribute__»;refine wpAny_bind (wpAny_pure (wpAny_bind (ho _ _ _ _ (λ_ _ e=>e) (wpAny_bind (ht _ _ _ _ (λ_ _ e=>e) (wpAny_bind (looks_findIn X ma _ _ _ _ (λ_ _ e=>e) ?_)))))));refine wpAny_bind (wpAny_pure (wpAny_bind (hlk _ _ _ _ (λ_ _ e=>e) ?_)));dsimp only;rw[if_neg (by simp[Builtin.heldUnderItsOwnName])];refine wpAny_bind (xt _ _ _ _ (λ_ _ e=>e) ?_);rw[if_neg (by decide +kernel)];refine wpAny_bind (looks_specialIn X (show specialIn [] (.str x t) "__get__"=some none from∅) _ _ _ _ (λ_ _ e=>e) ?_);dsimp only;refine wpAny_bind (wpAny_pure (wpAny_pure ?_));show wpAny _ _ (handedOut (.str x t)) _ _ _
 exact wpAny_pure hq
theorem Bp (B:iY G N mN mg mb) {s:Shared} {x:V} {u:Value} {name:Str} {v:V} (old:pi G s.heap) (r:am G X s.heap x u)
 (e:yF (nm name) x=(true,v)):aw G A X (getAttr u name true) v s:=by
 intro E Q q;obtain⟨nm',qn,bs,sn,sub,col,dd,k0,k1,k2,k3,k5,hC⟩:=B.o old;have uF:∀{x:Str},ag (nm name) (nm x)=true->name=x:=λh=>cy (au.mp h)
 induction x using V.casesOn with
 |ws raw n nt cnt b sm=>
  obtain⟨a,rfl,nx,W⟩:=am.ws_iff.mp r;obtain⟨m,I,_,hf⟩:=ww W;obtain⟨u,hm,e1,e2,r⟩:=hf name v e;obtain⟨hh,g,d,t,os⟩:=s;exact load_attr hC (B.cls.keeps old).ns B.noGA (B.noF _ hm) (B.noF0 _ hm) I e1 e2 (q _ _ (Kp.toks _ _) r)
 |obj a raw=>
  obtain⟨rfl,nx,W⟩:=am.obj_iff.mp r;obtain⟨o,d,m,t,g,h1,h2,h3,h4,h5,h6,h7,h8⟩:=W;have e':(bif ag (nm name) (nm "raw")then(true,V.str raw)else bad)=(true,v):=e;cases c1:ag (nm name) (nm "raw")with
  |true=>
   rw[c1]at e';injection e' with _ e'
   subst e';have en:=uF c1;obtain⟨hh,g,d,t,os⟩:=s;exact load_attr hC (B.cls.keeps old).ns B.noGA (B.noF _ (by rw[en];simp[cj])) (B.noF0 _ (by rw[en];simp[cj])) ⟨o,by assumption,h1,h3, .inr ⟨_,h2,h4,h6⟩⟩ (by rw[en];exact h7) rfl (q _ _ (Kp.toks _ _) (am.str_iff.mpr ⟨_,rfl⟩))
  |false=>rw[c1]at e';cases e'
 |cls=>
  rw[am.cls_iff.mp r];obtain⟨ms,hs,es⟩:=B.tp;have e':(bif ag (nm name) (nm "S")then(true,V.str [32])else bif ag (nm name) (nm "T")then(true, .str [9])else bad)=(true,v):=e;cases c1:ag (nm name) (nm "S")with
  |true=>
   rw[c1]at e';injection e' with _ e'
   obtain⟨t,hv⟩:=B.S;rw[uF c1];subst e';exact wx (y:=none) hC (B.cls.keeps old).ns hv (hs.keeps old) es (by decide +kernel) (by rw[typeLookup_type,builtinLookup_eq_fast];kernel_rfl) (q _ _ (Kp.toks _ _) (am.str_iff.mpr ⟨_,rfl⟩))
  |false=>
  rw[c1]at e';cases c2:ag (nm name) (nm "T")with
  |true=>
   rw[c2]at e';injection e' with _ e'
   obtain⟨t,hv⟩:=B.T;rw[uF c2];subst e';exact wx (y:=none) hC (B.cls.keeps old).ns hv (hs.keeps old) es (by decide +kernel) (by rw[typeLookup_type,builtinLookup_eq_fast];kernel_rfl) (q _ _ (Kp.toks _ _) (am.str_iff.mpr ⟨_,rfl⟩))
  |false=>rw[c2]at e';cases e'
 |_=>injections e
theorem Bq (B:iY G N mN mg mb) {s:Shared} {raw n nt cnt b sm} {a f:Addr} {name:Str} {F:List V->R} {k:Nat} (room:gA k A) (M:vo G mN name f) (hF:dJ G k f F) {as:List V} {o:Expr} {apos pos:Pos} {env:Env} {trees:List (Bool×Sem Value)}
 (old:pi G s.heap) (off:w6 G X) (al:aS X s.heap) (nx:¬X a) (W:qW G X s.heap a raw n nt cnt b sm) (ok:(F (.ws raw n nt cnt b sm::as)).1=true) (ht:trees.any (·.1)=false) (hl:trees.length<30) (hp:apos.endLine=pos.line)
 {E:Value->Shared->Prop} {Q:Value->Shared->Prop}
 (h:wpAny (model G.p G.w) A (spliced trees) (λus s₁=>Keeps s s₁/\Reps G X s₁.heap as us/\∀u s',Keeps s₁ s'->am G X s'.heap (F (.ws raw n nt cnt b sm::as)).2 u->Q u s') E s):
 wpAny (model G.p G.w) A (methodCall o name apos pos env (.ref a) trees.length trees []) Q E s:=by
 obtain⟨m,I,hm,_⟩:=ww W;obtain⟨nm,qn,bs,sn,sub,col,dd,k0,k1,k2,k3,k5,hC⟩:=B.o old;obtain⟨of,fd,ho,hc,hdt⟩:=M.obj;obtain⟨y,hy⟩:=M.none0;have form:methodCallForm trees.length trees []=true:=by
  unfold methodCallForm;have h1:trees.all (λx => !x.1)=true:=by
   rw[List.any_eq_false]at ht;rw[List.all_eq_true];intro x hx;have:=ht x hx
   simpa using this
  rw[h1];show(true&&true&&decide (trees.length+0<30))=true;rw[Bool.and_self,Bool.true_and,decide_eq_true_eq];omega
 have pos':methodCallPos true o env apos pos=pure pos:=by
  unfold methodCallPos;rw[if_pos (by rw[hp];simp)]
 unfold methodCall;rw[form,pos'];refine wpAny_bind (wpAny_holding ?_);unfold calleeOf;rw[if_pos rfl];have key:∀{Q:Value×List Value->Shared->Prop},Q (.ref f,[.ref a]) s->wpAny (model G.p G.w) A (getMethod (.ref a) name (do return (<-importBound o env).getD true)) Q E s:=λ{Q} q=>by
  obtain⟨hh,g,d,t,os⟩:=s;exact method_of hC (B.cls.keeps old).ns B.noGA B.noGet M.at_ (old _ _ ho) hc hy I (hm _ M.notF) q
 refine key ?_;refine wpAny_bind (wpAny_pure ?_);refine Calls.callWith_function (o:=of) (fd:=fd) (bZ ht (wpAny_mono h (λus s1 h1 => ?_) λ_ _ e=>e));obtain⟨k1,r1,q1⟩:=h1;have old1:pi G s1.heap:=λb o e=>Kp.keep k1 b o (old b o e)
 refine⟨⟨old1 _ _ ho,hdt⟩, ?_⟩;exact(hF A room).2 X s1 (.ws raw n nt cnt b sm::as) (.ref a::us) old1 off (al.keeps (Kp.keep k1)) (Reps.cons (am.ws_iff.mpr ⟨a,rfl,(On.of_keeps (Kp.keep k1)).ws nx W |>.1,((On.of_keeps (Kp.keep k1)).ws nx W).2⟩) r1) ok E Q q1
theorem mu{α:Type}:∀{l:List (Nm×α)} {x:Nm} {v:α},me l x=some v->(x,v)∈l
 |(y,w)::r,x,v,h=>by
  have h':(bif ag x y then some w else me r x)=some v:=h;cases e:ag x y with
  |true=>rw[e]at h';injection h' with h';rw[au.mp e,h'];exact List.mem_cons_self ..
  |false=>rw[e]at h';exact List.mem_cons_of_mem _ (mu h')
theorem zE (B:iY G N mN mg mb) {n:Nat} {Φ:Fns} (hg:∀x∈Φ.glob,∃f u,x.1=nm f/\mg f=some u/\∀X h,pi G h->w6 G X->am G X h x.2 u)
 (hf:∀x∈Φ.fn,∃f a,x.1=nm f/\mg f=some (.ref a)/\dJ G n a x.2) (hm:∀x∈Φ.meth,∃m f,x.1=nm m/\vo G mN m f/\dJ G n f x.2)
 : ∀A,gA n A->aB G A Φ:=λA r=>
 { none:=r.none
   units:=by have:=r.units;omega
   names:=⟨mg,mb,B.glob,B.blt,λx v h=>by
    obtain⟨f,u,e1,e2,e3⟩:=hg _ (mu h);rw[cy e1];exact⟨u,e2,e3⟩,
    λf F h=>by
     obtain⟨f',a,e1,e2,e3⟩:=hf _ (mu h);rw[cy e1];exact⟨a,e2,(e3 A r).1,(e3 A r).2⟩,B.bi⟩
   attr:=λX s x u name v old r e=>Bp B old r e
   meth:=λX s raw k nt cnt b sm a name F as o apos pos env trees h old off al nx W ok ht hl hp E Q q=>by
    obtain⟨m,f,e1,e2,e3⟩:=hm _ (mu h);have e1:nm name=nm m:=e1;rw[cy e1];exact Bq B r e2 e3 old off al nx W ok ht hl hp q
   }
end
end
section
open PySem PySem.W PySem.Calls PyProof.Rows
section
variable {G:Cfg} {A:Around} {X:Addr->Prop}
structure gF(G:Cfg)(env:Env)(κ:List (Str×NameKind))(s s₁:Shared)(g:Str->Option Value)(ids:List Str)(us:List Value):Prop where
 En:ao env κ
 frame:cG env s₁.heap g
 has:∀x u,(x,u)∈ids.zip us->g x=some u
 own:∀b,eF env b->s.heap.get? b=none/\∃o,s₁.heap.get? b=some o
 keeps:Keeps s s₁
theorem wy {a:Addr} {d:Def} (hd:cH G a d) (hroom:A.depth<recursionLimit) (hlim:G.h0.NoLimit) {s:Shared} {us:List Value} (old:pi G s.heap) (hlen:us.length=d.params.length)
 {E Q:Value->Shared->Prop} (h:∀env s₁ g ids,ids.map nm=d.params->gF G env d.κ s s₁ g ids us->∀E',wpAny (model G.p G.w) (A.deeper env) (execs d.body env) (λf s'=>Q (match f with| .ret v=>v|_ => .none) s') E' s₁):
 wpAny (model G.p G.w) A (call (.ref a) us) Q E s:=by
 obtain⟨o,fd,ids,ho,hdata,hcd,hbody,hclo,hnames,hkind,hco,hgen,hgl,hbu,hids,hnd,hbind,hloc⟩:=hd.ex;have hlen':us.length=ids.length:=by rw[hlen,<-hids,List.length_map]
 have ho':s.heap.get? a=some o:=old a o ho;have hlim':s.heap.NoLimit:=hlim.keeps old;have hcd':s.heap.CodeRec fd.code fd.qualname:=hcd.keeps old;refine wpAny_call (codeAny_call_cells hroom ho' hdata hlim' hcd' hbody (hbind us hlen') hclo (λx hx => ?_) (λs₁ C => ?_) hco hgen hkind)
 ·have hm:x.1∈ids:=by rw[<-iR hlen'];exact List.mem_map.mpr ⟨x,hx,rfl⟩
  rcases hloc x.1 hm with h|h
  ·exact .inl h
  ·refine .inr ⟨h, ?_⟩
   obtain⟨c,hc⟩:=bP (n:=s.heap.objs.size+1) (acc:=[]) (mem_of_lookup h);obtain⟨c',e⟩:=dk hc;rw[e];rfl
 ·generalize henv:callEnvC fd s.heap.objs.size a=env at C |-
  have eScope:env.scope=fd.scope:=by rw[<-henv];rfl
  have eLoc:env.locals=s.heap.objs.size:=by rw[<-henv];rfl
  have eCells:env.cells=cellsFrom (s.heap.objs.size+1) fd.scope.names []:=by rw[<-henv];rfl
  have eKind:∀x,env.kindOf x=d.κ.lookup x:=λx=>by show env.scope.names.lookup x=_;rw[eScope,hnames]
  have noF:∀x,env.kindOf x≠some .free:=λx e=>hd.nofree x (mem_of_lookup (eKind x▸e))
  have En:ao env d.κ:=
   { kind:=by rw[eScope];exact hkind
     names:=λx=>by rw[eKind,bF]
     free:=λx=>by rw[eKind,bF]
     glob:=λx=>by rw[eKind,bF]
     plain:=λx h=>by
      rw[eKind]at h;cases e:d.κ.lookup x with
      |none=>rw[e]at h;injections h
      |some k=>exact hd.plain x k (mem_of_lookup e)
     globals:=by rw[<-henv];exact hgl
     builtins:=by rw[<-henv];exact hbu }
  have kp:∀b o,s.heap.get? b=some o->s₁.heap.get? b=some o:=C.toInCall.keep
  have above:∀b,eF env b->s.heap.objs.size<=b:=λb hb=>by
   rcases hb with e|⟨x,m⟩
   ·rw[e,eLoc];exact Nat.le_refl _
   ·have:=C.above x b m
    rw[eLoc]at this;exact Nat.le_of_lt this
  have cellsOnce:env.cells.Pairwise λx y=>x.1≠y.1:=by
   rw[eCells];exact dI (hnames▸hd.once) (λ_ h=>nomatch h) List.Pairwise.nil
  obtain⟨hh,tk,es1⟩:=C.toInCall.same;refine h env s₁ (λx=>if env.kindOf x=some .local then bindL env.kindOf (ids.zip us) (λ_=>none) x else bindC env.kindOf (ids.zip us) (λ_=>none) x) ids hids
   ⟨En,⟨⟨_,C.toInCall.ns,λx hx=>by rw[if_pos hx]⟩,λx hx => ?_,C.apart⟩,λx u m => ?_,λb hb=>⟨aX _ (above b hb), ?_⟩,⟨hh,tk,es1,λb o e=>by have:=kp b o e;rwa [es1]at this⟩⟩ _
  ·have hc:env.kindOf x=some .cell:=by
    cases e:env.kindOf x with
    |none=>rw[e]at hx;injections hx
    |some k=>induction k using NameKind.casesOn<;>first|rfl|exact absurd e (noF x)|(rw[e]at hx;injections hx)
   have hm:(x,NameKind.cell)∈fd.scope.names:=mem_of_lookup (by have:=eKind x;rw[hc]at this;rw[hnames];exact this.symm);obtain⟨c,hcm⟩:=bP (n:=s.heap.objs.size+1) (acc:=[]) hm;obtain⟨c',e⟩:=dk hcm;have e':env.cells.lookup x=some c':=by rw[eCells];exact e
   refine⟨c',e', ?_⟩;rw[if_neg (by rw[hc];decide)];exact C.cell x c' e'
  ·have b:=rF (kindOf:=env.kindOf) (m:=λ_=>none) (by rw[iR hlen'];exact hnd) m
   by_cases hk:env.kindOf x=some .local
   ·rw[if_pos hk];exact b.1 hk
   ·rw[if_neg hk];exact b.2 hk
  ·rcases hb with e|⟨x,m⟩
   ·obtain⟨o',_,_,e',_⟩:=C.toInCall.ns;rw[e];exact⟨o',e'⟩
   ·obtain⟨o',e',_⟩:=C.cell x b (ir cellsOnce m);exact⟨o',e'⟩
theorem vp {env:Env} {h:Heap} {g:Str->Option Value} {ρ:Rho} (old:pi G h) (off:w6 G X) (al:aS X h) (F:cG env h g) (own:∀b,eF env b->G.h0.get? b=none/\∃o,h.get? b=some o)
 (sl:∀x,af (env.kindOf x)=true->gS G (ak env X λ_=>none) h none (lk ρ (nm x)) (g x)):cq G env X (λ_=>none) ρ h where
 old:=old
 new:=λb f=>by
  rcases f with f|f|⟨y,f⟩
  ·exact off b f
  ·exact(own b f).1
  ·cases f
 alive:=λb f=>by
  rcases f with f|f|⟨y,f⟩
  ·exact al b f
  ·exact(own b f).2
  ·cases f
 look:=⟨g,F,sl⟩
 inj:=λx y a e=>nomatch e
 apart:=λx a e=>nomatch e
structure rG(G:Cfg)(h:Heap)(x dx:Addr)(m:Str->Option Value):Prop where
 obj:∃o,h.get? x=some o/\o.cls = .ref G.C/\o.dict=some dx/\∀c,o.data ≠ .cls c
 ns:h.Ns1 dx m
 ne:dx≠x
 only:∀y,y∉cj->m y=none
variable {N:Addr} {mN mg mb:Str->Option Value}
theorem qd (B:iY G N mN mg mb) {s:Shared} {x dx:Addr} {m:Str->Option Value} {f:Str} {v:Value} (old:pi G s.heap) (K:rG G s.heap x dx m) (newx:G.h0.get? x=none) (hf:f∈cj)
 {E:Value->Shared->Prop} {Q:Unit->Shared->Prop} (q:∀h' tk,rG G h' x dx (λy=>if y=f then some v else m y)->(∀b o,b≠x->b≠dx->s.heap.get? b=some o->h'.get? b=some o)->Q () { s with heap:=h',toks:=tk }):
 wpAny (model G.p G.w) A (setAttr (.ref x) f v) Q E s:=by
 obtain⟨nm',qn,bs,sn,sub,col,dd,k0,k1,k2,k3,k5,hC⟩:=B.o old;obtain⟨o,ho,hc,hd,hn⟩:=K.obj;have hxC:x≠G.C:=λe=>by
  obtain⟨_,_,_,_,_,_,_,_,_,_,_,_,hC0⟩:=B.o λ_ _ e=>e
  rw[<-e,newx]at hC0;exact av hC0
 obtain⟨hh,g,d,t,os⟩:=s;refine store_attr F.store_object hC (B.cls.keeps old).ns B.noSet (B.noF f hf) (B.noF0 f hf) hxC ⟨o,ho,hc,hn, .inr ⟨dx,hd,K.ne,K.ns⟩⟩ (λh' tk' I kp sx => ?_) (ns:=cj) (λy hy => ?_) (by rw[sizeLine_eq];decide)
 ·obtain⟨o1,e1,c1,d1,_,dd1⟩:=sx o ho
  have ed:=dd1 dx hd;obtain⟨o2,e2,c2,n2,dr⟩:=I;obtain rfl:=Option.some.inj (e1.symm.trans e2)
  rcases dr with⟨hn0,_⟩|⟨d',hd',ne',ns'⟩
  ·rw[ed]at hn0;injections hn0
  ·obtain rfl:=Option.some.inj (ed.symm.trans hd')
   refine q h' tk' ⟨⟨o1,e1,c2,ed,n2⟩,ns',K.ne,λy hy => ?_⟩ λb o' nb nd e=>kp b o' nb (λo₀ dx' g0 gd=>by
    obtain rfl:=Option.some.inj (ho.symm.trans g0);obtain rfl:=Option.some.inj (hd.symm.trans gd);exact nd) e
   show(if y=f then some v else m y)=none;rw[if_neg (λe:y=f=>hy (e▸hf))];exact K.only y hy
 ·by_cases h:y∈cj
  ·exact h
  ·exact absurd (K.only y h) hy
noncomputable def X1(X:Addr->Prop)(x dx:Addr):Addr->Prop:=λb=>X b\/b=x\/b=dx
theorem cG.off{env:Env}{h h':Heap}{g}(F:cG env h g)(k:∀b o,eF env b->h.get? b=some o->h'.get? b=some o):cG env h' g:=
 ⟨let⟨m,⟨o,es,ep,e,r⟩,hm⟩:=F.ns;⟨m,⟨o,es,ep,k _ _ (.inl rfl) e,r⟩,hm⟩,λx hx=>let⟨c,hc,o,e,r⟩:=F.cell x hx;⟨c,hc,o,k _ _ (.inr ⟨x,mem_of_lookup hc⟩) e,r⟩,F.apart⟩
structure Tl(G:Cfg)(env:Env)(X:Addr->Prop)(g:Str->Option Value)(x dx:Addr)(m:Str->Option Value)(ρ:Rho)(h:Heap):Prop where
 old:pi G h
 al:aS X h
 F:cG env h g
 own:∀b,eF env b->G.h0.get? b=none/\b≠x/\b≠dx/\∃o,h.get? b=some o
 K:rG G h x dx m
 self:g "self"=some (.ref x)
 sl:∀y,af (env.kindOf y)=true->gS G (ak env (X1 X x dx) λ_=>none) h none (lk ρ (nm y)) (g y)
structure vq(G:Cfg)(X:Addr->Prop)(x dx:Addr):Prop where
 off:w6 G X
 newx:G.h0.get? x=none
 newd:G.h0.get? dx=none
 nx:¬X x
 nd:¬X dx
variable {κ:List (Str×NameKind)} {ρ:Rho} {Φ:Fns} {env:Env} {g:Str->Option Value} {x dx:Addr} {m:Str->Option Value}
theorem Tl.sta{h:Heap}(T:Tl G env X g x dx m ρ h)(o1:vq G X x dx):cq G env (X1 X x dx) (λ_=>none) ρ h:=
 vp T.old (λb hb=>by rcases hb with h|h|h<;>first|exact o1.off b h|(rw[h];first|exact o1.newx|exact o1.newd))
  (λb hb=>by
    rcases hb with h|h|h
    ·exact T.al b h
    ·obtain⟨o,e,_⟩:=T.K.obj;rw[h];exact⟨o,e⟩
    ·obtain⟨o,_,_,e,_⟩:=T.K.ns;rw[h];exact⟨o,e⟩) T.F (λb hb=>⟨(T.own b hb).1,(T.own b hb).2.2.2⟩) T.sl
theorem Tl.move{h h':Heap}{m':Str->Option Value}(T:Tl G env X g x dx m ρ h)(o1:vq G X x dx)(k:∀b o,b≠x->b≠dx->h.get? b=some o->h'.get? b=some o)(K':rG G h' x dx m'):Tl G env X g x dx m' ρ h' where
 old:=λb o e=>k b o (λh=>by rw[h,o1.newx]at e;injections e) (λh=>by rw[h,o1.newd]at e;injections e) (T.old b o e)
 al:=λb hb=>let⟨o,e⟩:=T.al b hb;⟨o,k b o (λh=>o1.nx (h▸hb)) (λh=>o1.nd (h▸hb)) e⟩
 F:=T.F.off λb o hb e=>k b o (T.own b hb).2.1 (T.own b hb).2.2.1 e
 own:=λb hb=>let⟨h1,h2,h3,o,e⟩:=T.own b hb;⟨h1,h2,h3,o,k b o h2 h3 e⟩
 K:=K'
 self:=T.self
 sl:=λy hy=>(T.sl y hy).on ⟨λb o nb e=>k b o (λh=>nb (.inl (.inr (.inl h)))) (λh=>nb (.inl (.inr (.inr h)))) e,λ_ _ _ f=>f⟩ λa e=>by injections e
theorem iS (B:iY G N mN mg mb) (Fa:aB G A Φ) (En:ao env κ) {τ:Tau} {s:Shared} (T:Tl G env X g x dx m ρ s.heap) (o1:vq G X x dx) (hs:af (kd κ (nm "self"))=true) {f:Str} (hf:f∈cj) {e:Expr} {v:V} (ok:ev Φ τ 40 κ ρ e=(true,v)) (hc:dH e=false) {p p1 p2:Pos}
 {E:Value->Shared->Prop} {Q:Flow->Shared->Prop} (q:∀u s',Tl G env X g x dx (λy=>if y=f then some u else m y) ρ s'.heap->am G (ak env (X1 X x dx) λ_=>none) s'.heap v u->(∃h tk,s'={ s with heap:=h,toks:=tk }) ->
   (∀b o,b≠x->b≠dx->s.heap.get? b=some o->s'.heap.get? b=some o)->Q .next s'):wpAny (model G.p G.w) A (exec (.Assign [.Attribute (.Name "self" p) f p1] e p2) env) Q E s:=by
 have GE:=(gC (G:=G) (A:=A) Fa τ 40 κ env (X1 X x dx) ρ En).1;have hx:af (env.kindOf "self")=true:=(En.names _).trans hs;have pl:=En.plain "self" (by rw[hx];rfl);refine plainObj_wpAny_Assign_Attribute (GE.ok e (by rw[ok]) _ s (T.sta o1) _ _ λu s1 k1 r1 => ?_) (jW hc _ _);have T1:Tl G env X g x dx m ρ s1.heap:=T.move o1 (λb o _ _ h=>Kp.keep k1 b o h)
  { obj:=let⟨o,h,r⟩:=T.K.obj;⟨o,Kp.keep k1 _ _ h,r⟩,ns:=T.K.ns.keeps (Kp.keep k1),ne:=T.K.ne,only:=T.K.only }
 refine wpAny_Name (cM En.kind T1.F hx pl.2 T1.self ?_) pl.1;refine qd B T1.old T1.K o1.newx hf λh' tk K' kp => ?_
 rw[ok]at r1;obtain⟨h1,t1,rfl,kk⟩:=k1;exact q u _ (T1.move o1 kp K') (r1.on ⟨λb o nb e=>kp b o (λh=>nb (.inl (.inr (.inl h)))) (λh=>nb (.inl (.inr (.inr h)))) e,λ_ _ _ f=>f⟩) ⟨h',tk,rfl⟩ λb o nx nd e=>kp b o nx nd (kk b o e)
theorem zF(B:iY G N mN mg mb):AZ G A (.ref G.C):=λpos trees s E Q hp q=>by
 have hst:(trees.any (λx=>x.fst)||([]:List (Option Str×Sem Value)).any λx=>x.fst.isNone)=false:=by rw[hp];rfl
 unfold callWith;refine wpAny_bind (wpAny_holding (wpAny_mono q (λas s₁ h₁ => ?_) λ_ _ x=>x));obtain⟨hk,hc⟩:=h₁;obtain⟨hh,g,d,t,os⟩:=s₁;obtain⟨nm',qn,bs,sn,sub,col,dd,k0,k1,k2,k3,k5,hC⟩:=B.o hk;have f1:=tc_lookup;have hT:(⟨hh,g,d,t,os⟩:Shared).TypeIs (.ref G.C) "type":=⟨_,hC,rfl⟩;refine wpAny_bind (wpAny_standAt ?_);show wpAny _ _ (keeperOf (.ref G.C)>>=_) _ _ _;unfold keeperOf specialOf
 repeat(any_goals(first|assumption|with_reducible refine wpAny_loadPart_at hC ?_ |with_reducible refine wpAny_load' hC ?_ |wp_step))
 rw[if_pos (by rfl),hst];show wpAny _ _ (call (.ref G.C) as.pos as.kw>>=λr=>do holding [r] point;pure r) _ _ _;exact wpAny_bind (wpAny_mono hc (λr s' hr=>wpAny_bind (wpAny_holding (wpAny_point (wpAny_pure hr)))) λ_ _ x=>x)
theorem jY(env:Env)(b:List Stmt):∀a:List Stmt,execs (a++b) env=execs a env>>=(λf=>match f with
 | .next=>execs b env
 |f=>pure f)
 |[]=>by show execs b env=_;rw[show execs [] env=pure .next from rfl,pure_bind]
 |st::a=>by
  rw[List.cons_append,execs_cons,execs_cons,bind_assoc]
  congr 1
  funext f
  induction f using Flow.casesOn with
  |next=>exact jY env b a
  |_=>simp
theorem jv {M:Model} {E:Value->Shared->Prop} {s:Shared} {a b:List Stmt} {Q:Flow->Shared->Prop} (h:wpAny M A (execs a env) (λf s'=>(match f with
 | .next=>wpAny M A (execs b env) Q E s'
 |f=>Q f s')) E s):wpAny M A (execs (a++b) env) Q E s:=by
 rw[jY];exact wpAny_bind (wpAny_mono h (λf s' h'=>by induction f using Flow.casesOn<;>first|exact h'|exact wpAny_pure h') λ_ _ e=>e)
noncomputable abbrev WsRun:=List Nat->Bool×Int×Int×List Int×Int
noncomputable def Cj(run:WsRun):List V->R:=fU (vX λs=>((run s).1, .ws s (run s).2.1 (run s).2.2.1 (run s).2.2.2.1 (run s).2.2.2.2 (decide ((run s).2.2.2.1.length<=1))))
noncomputable def iZ(n nt:Int)(cnt:List Int)(b:Int):Rho:=[(nm "n", .val (.int n)),(nm "nt", .val (.int nt)),(nm "b", .val (.int b)),(nm "count", .val (.list (cnt.map .int)))]
inductive rH(Φ:Fns)(τ:Tau)(W:Nat)(d:Def)(run:WsRun):Prop
 |mk (p1 p2 p3 p4:Pos) (mid:List Stmt) (q:Nat->Pos) (e1 e2 e3 e4:Expr) (params:d.params=[nm "self",nm "ws"])
  (self:af (kd d.κ (nm "self"))=true) (text:af (kd d.κ (nm "ws"))=true) (ns:∀x∈(["n","nt","b","count"]:List Str),af (kd d.κ (nm x))=true)
  (body:d.body = .Assign [.Attribute (.Name "self" p1) "raw" p2] (.Name "ws" p3) p4::(mid++[.Assign [.Attribute (.Name "self" (q 0)) "n" (q 1)] e1 (q 2),
    .Assign [.Attribute (.Name "self" (q 3)) "nt" (q 4)] e2 (q 5), .Assign [.Attribute (.Name "self" (q 6)) "norm" (q 7)] e3 (q 8), .Assign [.Attribute (.Name "self" (q 9)) "is_simple" (q 10)] e4 (q 11)]))
  (c1:dH e1=false) (c2:dH e2=false) (c3:dH e3=false) (c4:dH e4=false)
  (hmid:∀x raw,(run raw).1=true->∃ρ' μ,ex Φ τ μ W d.κ 200 mid (cK d.κ [(nm "self", .obj x raw),(nm "ws", .str raw)])=(true, .next ρ')/\lk ρ' (nm "self") = .val (.obj x raw)/\lk ρ' (nm "n") = .val (.int (run raw).2.1) /\
    lk ρ' (nm "nt") = .val (.int (run raw).2.2.1)/\lk ρ' (nm "b") = .val (.int (run raw).2.2.2.2)/\lk ρ' (nm "count") = .own ((run raw).2.2.2.1.map .int))
  (htail:∀raw,(run raw).1=true->∀n nt cnt b,run raw=(true,n,nt,cnt,b)->ev Φ τ 40 d.κ (iZ n nt cnt b) e1=(true, .int n)/\ev Φ τ 40 d.κ (iZ n nt cnt b) e2=(true, .int nt) /\
    ev Φ τ 40 d.κ (iZ n nt cnt b) e3=(true, .tup [.tup (cnt.map .int), .int b])/\ev Φ τ 40 d.κ (iZ n nt cnt b) e4=(true, .bool (decide (cnt.length<=1))))
theorem Br{n nt:Int}{cnt:List Int}{b:Int}(x:Nm):lk (iZ n nt cnt b) x = .un\/(x=nm "n"/\lk (iZ n nt cnt b) x = .val (.int n))\/(x=nm "nt"/\lk (iZ n nt cnt b) x = .val (.int nt))\/(x=nm "b"/\lk (iZ n nt cnt b) x = .val (.int b)) \/
 (x=nm "count"/\lk (iZ n nt cnt b) x = .val (.list (cnt.map .int))):=by
 have e:lk (iZ n nt cnt b) x=bif ag x (nm "n")then .val (.int n)else bif ag x (nm "nt")then .val (.int nt)else bif ag x (nm "b")then .val (.int b)else bif ag x (nm "count")then .val (.list (cnt.map .int))else .un:=rfl
 rw[e];cases c1:ag x (nm "n")with
 |true=>exact .inr (.inl ⟨au.mp c1,rfl⟩)
 |false=>
 cases c2:ag x (nm "nt")with
 |true=>exact .inr (.inr (.inl ⟨au.mp c2,rfl⟩))
 |false=>
 cases c3:ag x (nm "b")with
 |true=>exact .inr (.inr (.inr (.inl ⟨au.mp c3,rfl⟩)))
 |false=>
 cases c4:ag x (nm "count")with
 |true=>exact .inr (.inr (.inr (.inr ⟨au.mp c4,rfl⟩)))
 |false=>exact .inl rfl
theorem nG{P:Addr->Prop}{h:Heap}:∀{cnt:List Int} {vs:List Value},Reps G P h (cnt.map V.int) vs->mU AS vs cnt
 |[],vs,r=>by rw[Reps.nil_iff.mp r];exact .nil
 |i::cnt,vs,r=>by
  obtain⟨v,r',rfl,h1,h2⟩:=Reps.cons_iff.mp r;exact .cons (am.int_iff.mp h1) (nG h2)
theorem zG{P:Addr->Prop}{h:Heap}{cnt:List Int}{vs:List Value}(r:mU AS vs cnt):Reps G P h (cnt.map V.int) vs:=by
 induction r with
 |nil=>exact Reps.nil
 |cons a b ih=>exact Reps.cons (am.int_iff.mpr a) ih
end
end
section
open PySem PySem.W PySem.Calls PyProof.Rows
section
variable {G:Cfg} {A:Around} {X:Addr->Prop} {N:Addr} {mN mg mb:Str->Option Value} {Φ:Fns} {κ:List (Str×NameKind)} {env:Env} {g:Str->Option Value} {x dx:Addr} {m:Str->Option Value}
theorem Da:∀{l:List Str} {a b:Str},l.map nm=[nm a,nm b]->l=[a,b]
 |[],_,_,h=>by cases h
 |[_],_,_,h=>by cases(List.cons.inj h).2
 |[x,y],_,_,h=>by rw[cy (List.cons.inj h).1,cy (List.cons.inj (List.cons.inj h).2).1]
 |_::_::_::_,_,_,h=>by cases(List.cons.inj (List.cons.inj h).2).2
noncomputable def ja(x dx:Addr)(s s':Shared):Prop:=(∃h tk,s'={ s with heap:=h,toks:=tk })/\∀b o,b≠x->b≠dx->s.heap.get? b=some o->s'.heap.get? b=some o
theorem ja.trans{s s1 s2:Shared}(a:ja x dx s s1)(b:ja x dx s1 s2):ja x dx s s2:=by
 obtain⟨⟨h,t,rfl⟩,k⟩:=a;obtain⟨⟨h',t',rfl⟩,k'⟩:=b;exact⟨⟨h',t',rfl⟩,λq o n1 n2 e=>k' q o n1 n2 (k q o n1 n2 e)⟩
theorem zH (B:iY G N mN mg mb) (Fa:aB G A Φ) (En:ao env κ) {τ:Tau} {s:Shared} {raw:List Nat} {n nt:Int} {cnt:List Int} {b:Int} (T:Tl G env X g x dx m (iZ n nt cnt b) s.heap) (o1:vq G X x dx) (hs:af (kd κ (nm "self"))=true) (hm:∀y:Str,y≠"raw"->m y=none) (hr:∃t,m "raw"=some (.str (tx raw) t))
 {e1 e2 e3 e4:Expr} (c1:dH e1=false) (c2:dH e2=false) (c3:dH e3=false) (c4:dH e4=false) (v1:ev Φ τ 40 κ (iZ n nt cnt b) e1=(true, .int n)) (v2:ev Φ τ 40 κ (iZ n nt cnt b) e2=(true, .int nt))
 (v3:ev Φ τ 40 κ (iZ n nt cnt b) e3=(true, .tup [.tup (cnt.map .int), .int b])) (v4:ev Φ τ 40 κ (iZ n nt cnt b) e4=(true, .bool (decide (cnt.length<=1)))) {q:Nat->Pos} {E:Value->Shared->Prop} {Q:Flow->Shared->Prop}
 (k:∀s',ja x dx s s'->qW G X s'.heap x raw n nt cnt b (decide (cnt.length<=1))->Q .next s'):
 wpAny (model G.p G.w) A (execs [.Assign [.Attribute (.Name "self" (q 0)) "n" (q 1)] e1 (q 2), .Assign [.Attribute (.Name "self" (q 3)) "nt" (q 4)] e2 (q 5), .Assign [.Attribute (.Name "self" (q 6)) "norm" (q 7)] e3 (q 8), .Assign [.Attribute (.Name "self" (q 9)) "is_simple" (q 10)] e4 (q 11)] env) Q E s:=by
 refine wpAny_execs_cons (iS B Fa En T o1 hs (f:="n") nofun v1 c1 λw1 s4 T4 r4 e4 k4 => ?_);refine wpAny_execs_cons (iS B Fa En T4 o1 hs (f:="nt") nofun v2 c2 λw2 s5 T5 r5 e5 k5 => ?_);refine wpAny_execs_cons (iS B Fa En T5 o1 hs (f:="norm") nofun v3 c3 λw3 s6 T6 r6 e6 k6 => ?_);refine wpAny_execs_cons (iS B Fa En T6 o1 hs (f:="is_simple") nofun v4 c4 λw4 s7 T7 r7 e7 k7 => ?_);refine wpAny_execs_nil (k s7 (ja.trans ⟨e4,k4⟩ (ja.trans ⟨e5,k5⟩ (ja.trans ⟨e6,k6⟩ ⟨e7,k7⟩))) ?_);have r6:=r6.on (X':=X) ⟨λb o nb e=>k7 b o (λh=>nb (.inl (.inr (.inl h)))) (λh=>nb (.inl (.inr (.inr h)))) e,λb o _ f => .inl (.inl f)⟩
 clear T6 T5 T4 T e7 e6 e5 e4 k4 k5 k6 k7;obtain⟨T,vT,rfl,nT,hT6,rT⟩:=am.tup_iff.mp r6;obtain⟨w,l,eT,h1,h2⟩:=Reps.cons_iff.mp rT;obtain⟨w',l',rfl,h3',h4⟩:=Reps.cons_iff.mp h2;rw[Reps.nil_iff.mp h4]at eT;obtain⟨T2,vT2,rfl,nT2,hT2,rT2⟩:=am.tup_iff.mp h1;obtain⟨tb2,rfl⟩:=am.int_iff.mp h3';obtain⟨t1,rfl⟩:=am.int_iff.mp r4;obtain⟨t2,rfl⟩:=am.int_iff.mp r5;rw[am.bool_iff.mp r7]at T7;obtain⟨o,a1,a2,a3,a4⟩:=T7.K.obj;have evT:vT = #[.ref T2, .int b tb2]:=Array.ext' eT;subst evT;refine⟨o,dx,_,T,T2,tb2,vT2,a1,a2,a3,a4,T7.K.ne,o1.nd,T7.K.ns,λz z1 z2 z3 z4 z5 => ?_, ?_,⟨t1, ?_⟩,⟨t2, ?_⟩, ?_, ?_,nT,hT6,nT2,hT2,nG rT2⟩
 ·rw[if_neg z5,if_neg z4,if_neg z3,if_neg z2];exact hm z z1
 ·rw[if_neg nofun,if_neg nofun,if_neg nofun,if_neg nofun];exact hr
 ·rfl
 ·rfl
 ·rfl
 ·rfl
structure Db(G:Cfg)(X:Addr->Prop)(s:Shared)(x dx:Addr)(s':Shared):Prop where
 old:pi G s'.heap
 al:aS X s'.heap
 o1:vq G X x dx
 K:rG G s'.heap x dx λ_=>none
theorem tn{P:Prop}{b:Addr}(f:ak env X (λ_=>none) b)(h1:X b->P)(h2:eF env b->P):P:=by
 rcases f with f|f|⟨y,f⟩
 ·exact h1 f
 ·exact h2 f
 ·exact av f
theorem xu (B:iY G N mN mg mb) {s s1:Shared} {raw:List Nat} {tR:Tok} (Bn:Db G X s x dx s) (En1:gF G env κ s s1 g ["self","ws"] [.ref x, .str (tx raw) tR]) (hs:af (kd κ (nm "self"))=true) (ht:af (kd κ (nm "ws"))=true)
 {p1 p2 p3 p4:Pos} {E:Value->Shared->Prop} {Q:Flow->Shared->Prop}
 (q:∀s2,(∃h tk,s2={ s1 with heap:=h,toks:=tk })->(∀b o,b≠x->b≠dx->s.heap.get? b=some o->s2.heap.get? b=some o)->(∀b,eF env b->G.h0.get? b=none/\s.heap.get? b=none/\b≠x/\b≠dx)->rG G s2.heap x dx (λy=>if y="raw" then some (.str (tx raw) tR)else none) ->
   cq G env X (λ_=>none) (cK κ [(nm "self", .obj x raw),(nm "ws", .str raw)]) s2.heap->Q .next s2):
 wpAny (model G.p G.w) A (exec (.Assign [.Attribute (.Name "self" p1) "raw" p2] (.Name "ws" p3) p4) env) Q E s1:=by
 have En:=En1.En;have gself:g "self"=some (.ref x):=En1.has _ _ (List.mem_cons_self ..);have gws:g "ws"=some (.str (tx raw) tR):=En1.has _ _ (List.mem_cons_of_mem _ (List.mem_cons_self ..));have hS:af (env.kindOf "self")=true:=(En.names _).trans hs;have hT:af (env.kindOf "ws")=true:=(En.names _).trans ht;have plS:=En.plain "self" (by rw[hS];rfl);have plT:=En.plain "ws" (by rw[hT];rfl);have kp1:=Kp.keep En1.keeps;have old1:pi G s1.heap:=λb o e=>kp1 b o (Bn.old b o e)
 have K1:rG G s1.heap x dx λ_=>none:=⟨let⟨o,h,r⟩:=Bn.K.obj;⟨o,kp1 _ _ h,r⟩,Bn.K.ns.keeps kp1,Bn.K.ne,Bn.K.only⟩
 have own:∀b,eF env b->G.h0.get? b=none/\s.heap.get? b=none/\b≠x/\b≠dx:=λb hb=>by
  have h1:=(En1.own b hb).1;refine⟨?_,h1,λe => ?_,λe => ?_⟩
  ·cases e:G.h0.get? b with
   |none=>rfl
   |some o=>exact av (h1.symm.trans (Bn.old b o e))
  ·obtain⟨o,h,_⟩:=Bn.K.obj;exact av (h1.symm.trans (e▸h))
  ·obtain⟨o,_,_,h,_⟩:=Bn.K.ns;exact av (h1.symm.trans (e▸h))
 refine plainObj_wpAny_Assign_Attribute (wpAny_Name (cM En.kind En1.frame hT plT.2 gws (wpAny_Name (cM En.kind En1.frame hS plS.2 gself ?_) plS.1)) plT.1) (jW rfl _ _);refine qd B old1 K1 Bn.o1.newx nofun λh2 tk2 K2 kp2=>q _ ⟨h2,tk2,rfl⟩ (λb o n1 n2 e=>kp2 b o n1 n2 (kp1 b o e)) own K2 ?_
 have nfx:¬ak env X (λ_=>none) x:=λf=>tn f Bn.o1.nx λf=>(own _ f).2.2.1 rfl
 have nfd:¬ak env X (λ_=>none) dx:=λf=>tn f Bn.o1.nd λf=>(own _ f).2.2.2 rfl
 refine vp (λb o e=>kp2 b o (λh => ?_) (λh => ?_) (old1 b o e)) Bn.o1.off (λb hb=>let⟨o,e⟩:=Bn.al b hb;⟨o,kp2 b o (λh=>Bn.o1.nx (h▸hb)) (λh=>Bn.o1.nd (h▸hb)) (kp1 b o e)⟩)
  (En1.frame.off λb o hb e=>kp2 b o (own b hb).2.2.1 (own b hb).2.2.2 e) (λb hb=>⟨(own b hb).1,let⟨o,e⟩:=(En1.own b hb).2;⟨o,kp2 b o (own b hb).2.2.1 (own b hb).2.2.2 e⟩⟩) λy hy => ?_
 ·rw[h,Bn.o1.newx]at e;exact av e
 ·rw[h,Bn.o1.newd]at e;exact av e
 ·rcases mq [(nm "self", .obj x raw),(nm "ws", .str raw)] κ (nm y)with e|⟨v,ev1,ev2⟩
  ·rw[e];trivial
  ·rw[ev2]
   have ev1:(bif ag (nm y) (nm "self")then some (V.obj x raw)else bif ag (nm y) (nm "ws")then some (.str raw)else none)=some v:=ev1;generalize cs:ag (nm y) (nm "self")=b at ev1
   induction b using Bool.casesOn with
   |true=>
    rw[<-Option.some.inj ev1,ig cs];refine⟨_,gself,am.obj_iff.mpr ⟨rfl,nfx, ?_⟩⟩;obtain⟨o,a1,a2,a3,a4⟩:=K2.obj;exact⟨o,dx,_,tR,a1,a2,a3,a4,K2.ne,nfd,K2.ns,rfl,λz hz=>if_neg hz⟩
   |false=>
    generalize ct:ag (nm y) (nm "ws")=b at ev1
    induction b using Bool.casesOn with
    |true=>rw[<-Option.some.inj ev1,ig ct];exact⟨_,gws,am.str_iff.mpr ⟨_,rfl⟩⟩
    |false=>exact av ev1
theorem Dc {s2 s3:Shared} {raw:List Nat} {tR:Tok} {n nt:Int} {cnt:List Int} {b:Int} {ρ':Rho} {O':Nm->Option Addr} (o1:vq G X x dx) (own:∀b,eF env b->G.h0.get? b=none/\b≠x/\b≠dx) (En:ao env κ)
 (K2:rG G s2.heap x dx (λy=>if y="raw" then some (.str (tx raw) tR)else none)) (S3:cq G env X O' ρ' s3.heap) (mv:Mv env (λ_=>none) O' s2 s3) (hs:af (kd κ (nm "self"))=true) (ns:∀x∈(["n","nt","b","count"]:List Str),af (kd κ (nm x))=true)
 (l1:lk ρ' (nm "self") = .val (.obj x raw)) (l2:lk ρ' (nm "n") = .val (.int n)) (l3:lk ρ' (nm "nt") = .val (.int nt)) (l4:lk ρ' (nm "b") = .val (.int b)) (l5:lk ρ' (nm "count") = .own (cnt.map .int)):
 ∃g3 m3,Tl G env X g3 x dx m3 (iZ n nt cnt b) s3.heap/\(∀y:Str,y≠"raw"->m3 y=none)/\∃t,m3 "raw"=some (.str (tx raw) t):=by
 obtain⟨g3,F3,sl3⟩:=S3.look;have get:∀{y:Str} {v:V},af (kd κ (nm y))=true->lk ρ' (nm y) = .val v->∃u,g3 y=some u/\am G (ak env X O') s3.heap v u:=λ{y v} hy e=>by
  have:=sl3 y ((En.names _).trans hy);rw[e]at this;exact this
 obtain⟨u1,gu1,ru1⟩:=get hs l1;obtain⟨rfl,nfx3,ob3⟩:=am.obj_iff.mp ru1;have hc:=sl3 "count" ((En.names _).trans (ns _ nofun));rw[l5]at hc;obtain⟨ac,vsc,gc,Oc,⟨mc,elc⟩,rc⟩:=hc;obtain⟨o3,d3,m3,t3,b1,b2,b3,b4,b5,b6,b7,b8,b9⟩:=ob3;have hd3:d3=dx:=by
  obtain⟨o,a1,_,a3,_⟩:=K2.obj;obtain⟨h3,tk3,es3,on3⟩:=mv;have e:s3.heap.get? x=some o:=by
   rw[es3];exact on3.keep x o (λf=>tn f (λf=>f) λf=>(own _ f).2.1 rfl) a1
  rw[<-Option.some.inj (b1.symm.trans e)]at a3;exact Option.some.inj (b3.symm.trans a3)
 subst hd3;have apc:=S3.apart _ ac Oc;have cx:ac≠x:=λe=>by rw[e,b1]at elc;obtain rfl:=Option.some.inj elc;cases b2
 have cd:ac≠d3:=λe=>by
  obtain⟨o',es',ep',ge',de',_⟩:=b7;rw[e,ge']at elc;obtain rfl:=Option.some.inj elc;cases de'
 have icnt:=nG rc;refine⟨g3,m3,⟨S3.old,λb hb=>S3.alive b (.inl hb),F3,λb hb=>⟨(own b hb).1,(own b hb).2.1,(own b hb).2.2,S3.alive b (.inr (.inl hb))⟩,⟨⟨o3,b1,b2,b3,b4⟩,b7,b5,λy hy=>b9 y λe=>hy (by rw[e];decide)⟩,gu1,λy hy => ?_⟩,b9,t3,b8⟩;have int:∀{y:Str} {i:Int},y∈(["n","nt","b","count"]:List Str)->lk ρ' (nm y) = .val (.int i)->gS G (ak env (X1 X x d3) λ_=>none) s3.heap none (.val (.int i)) (g3 y):=λ{y i} hm e=>by
  obtain⟨u,gu,ru⟩:=get (ns y hm) e;exact⟨u,gu,am.int_iff.mpr (am.int_iff.mp ru)⟩
 rcases Br (n:=n) (nt:=nt) (cnt:=cnt) (b:=b) (nm y)with e|⟨e0,e⟩|⟨e0,e⟩|⟨e0,e⟩|⟨e0,e⟩<;>rw[e]
 ·trivial
 ·rw[cy e0];exact int nofun l2
 ·rw[cy e0];exact int nofun l3
 ·rw[cy e0];exact int nofun l4
 ·rw[cy e0]
  refine⟨_,gc,am.list_iff.mpr ⟨ac,vsc,rfl,λf=>tn f (λf => ?_) λf=>apc.2 f,⟨_,elc,rfl,_,rfl⟩,zG icnt⟩⟩
  rcases f with f|f|f
  ·exact apc.1 f
  ·exact cx f
  ·exact cd f
theorem zI (B:iY G N mN mg mb) {d:Def} {τ:Tau} {W:Nat} {run:WsRun} (I:rH Φ τ W d run) (Fa:aB G A Φ) {s s1:Shared} {raw:List Nat} {tR:Tok} (ok:(run raw).1=true) (Bn:Db G X s x dx s) {ids:List Str} (hids:ids.map nm=d.params) (En1:gF G env d.κ s s1 g ids [.ref x, .str (tx raw) tR])
 {E:Value->Shared->Prop} {Q:Flow->Shared->Prop} (q:∀s',ja x dx s s'->qW G X s'.heap x raw (run raw).2.1 (run raw).2.2.1 (run raw).2.2.2.1 (run raw).2.2.2.2 (decide ((run raw).2.2.2.1.length<=1))->Q .next s'):
 wpAny (model G.p G.w) A (execs d.body env) Q E s1:=by
 obtain⟨p1,p2,p3,p4,mid,qp,e1,e2,e3,e4,params,hs,ht,ns,hbody,c1,c2,c3,c4,hmid,htail⟩:=I;rw[params]at hids;obtain rfl:=Da hids;rw[hbody];refine wpAny_execs_cons (xu B Bn En1 hs ht λs2 e2' k2 own K2 S2 => ?_);obtain⟨ρ',μ,hex,l1,l2,l3,l4,l5⟩:=hmid x raw ok;have X0:=tm (G:=G) (A:=A) Fa En1.En (τ:=τ) (μ:=μ) (W:=W) 200 [mid] X (cK d.κ [(nm "self", .obj x raw),(nm "ws", .str raw)]);rw[show[mid].flatten=mid by simp,hex]at X0;refine jv (wpAny_mono (X0 rfl _ s2 S2 E (λf s3=>f = .next/\∃O',cq G env X O' ρ' s3.heap/\Mv env (λ_=>none) O' s2 s3) λf s3 ho => ?_) (λf s3 h3 => ?_) λ_ _ e=>e)
 ·induction f using Flow.casesOn with
  |next=>exact⟨rfl,ho⟩
  |_=>exact ho.elim
 induction f using Flow.casesOn with
 |next=>
  obtain⟨_,O',S3,mv⟩:=h3;obtain⟨v1,v2,v3,v4⟩:=htail raw ok (run raw).2.1 (run raw).2.2.1 (run raw).2.2.2.1 (run raw).2.2.2.2 (by rw[<-ok]);obtain⟨g3,m3,T,hm,hr⟩:=Dc Bn.o1 (λb hb=>⟨(own b hb).1,(own b hb).2.2⟩) En1.En K2 S3 mv hs ns l1 l2 l3 l4 l5;refine zH B Fa En1.En T Bn.o1 hs hm hr c1 c2 c3 c4 v1 v2 v3 v4 λs' sn W=>q s' (ja.trans ⟨?_,λb o n1 n2 e => ?_⟩ sn) W
  ·obtain⟨h3,tk3,rfl,_⟩:=mv
   obtain⟨h2,tk2,rfl⟩:=e2';obtain⟨h1,tk1,rfl,_⟩:=En1.keeps;exact⟨h3,tk3,rfl⟩
  ·obtain⟨h3,tk3,rfl,on3⟩:=mv
   exact on3.keep b o (λf=>tn f (λf=>f) λf=>av ((own b f).2.1.symm.trans e)) (k2 b o n1 n2 e)
 |_=>cases h3.1
theorem Bt (B:iY G N mN mg mb) {n:Nat} {fI:Addr} {d:Def} {τ:Tau} {W:Nat} {run:WsRun} (hd:cH G fI d) (hI:mN "__init__"=some (.ref fI)) (hfc:∃o,G.h0.get? fI=some o/\o.cls = .type "function") (hp:d.params.length=2)
 (I:rH Φ τ W d run) (Fa:∀A,gA n A->aB G A Φ) (room:gA (n+2) A) {s:Shared} (old:pi G s.heap) (off:w6 G X) (al:aS X s.heap) {raw:List Nat} {tR:Tok} (ok:(run raw).1=true):
 aw G A X (call (.ref G.C) [.str (tx raw) tR]) (.ws raw (run raw).2.1 (run raw).2.2.1 (run raw).2.2.2.1 (run raw).2.2.2.2 (decide ((run raw).2.2.2.1.length<=1))) s:=λE Q q=>by
 obtain⟨nm',qn,bs,sn,sub,col,dd,k0,k1,k2,k3,k5,hC⟩:=B.o old;obtain⟨oI,hoI,hcI⟩:=hfc;obtain⟨hh,gg,dr,tk,os⟩:=s;refine wpAny_call_obj_init F.objNew hC (B.cls.keeps old).ns hI (old _ _ hoI) hcI λh' x dx Mk => ?_
 clear hC k0 k1 k2 k3 k5 dd col sub sn bs qn nm';have room1:gA (n+1) (A.under (.builtin "type.__call__" ⟨.ref G.C::[.str (tx raw) tR],[]⟩)):=
  ⟨room.none,by have:=room.depth;show A.depth+1+(n+1)<recursionLimit;omega,by
    have:=room.units;show A.units+(1+3*_)+_+_<cLine;have hf:(Code.builtin "type.__call__" ⟨.ref G.C::[.str (tx raw) tR],[]⟩).frames=0:=by rfl
    rw[hf];omega⟩
 generalize A.under (.builtin "type.__call__" ⟨.ref G.C::[.str (tx raw) tR],[]⟩)=A1 at room1;have none0:∀{b:Addr},hh.get? b=none->G.h0.get? b=none:=λ{b} n=>by
  cases e:G.h0.get? b with
  |none=>rfl
  |some o=>exact av (n.symm.trans (old b o e))
 have notX:∀{b:Addr},hh.get? b=none->¬X b:=λ{b} n h=>let⟨o,e⟩:=al b h;av (n.symm.trans e)
 have o1:vq G X x dx:=⟨off,none0 Mk.newX,none0 Mk.newD,notX Mk.newX,notX Mk.newD⟩;obtain⟨ox,hox,hcx,hnx,hdx⟩:=Mk.inst;have hdd:=Mk.dict ox hox;have K0:rG G h' x dx λ_=>none:=by
  rcases hdx with⟨hn0,_⟩|⟨d',hd',hne',hns'⟩
  ·exact av (hn0.symm.trans hdd)
  ·obtain rfl:=Option.some.inj (hd'.symm.trans hdd)
   exact⟨⟨ox,hox,hcx,hdd,hnx⟩,hns',hne',λ_ _=>rfl⟩
 have Bn:Db G X ⟨h',gg,dr,tk,os⟩ x dx ⟨h',gg,dr,tk,os⟩:=⟨λb o e=>Mk.keeps b o (old b o e),λb hb=>let⟨o,e⟩:=al b hb;⟨o,Mk.keeps b o e⟩,o1,K0⟩;refine wy hd (by have:=room1.depth;omega) B.lim Bn.old (us:=[.ref x, .str (tx raw) tR]) hp.symm λenv s1 g ids hids En1 E' => ?_
 refine zI B I (Fa _ (room1.deeper env)) ok Bn hids En1 λs' sn W=>⟨rfl,q _ s' ?_ (am.ws_iff.mpr ⟨x,rfl,o1.nx,W⟩)⟩
 obtain⟨⟨h2,t2,rfl⟩,k⟩:=sn;exact⟨h2,t2,rfl,λb o e=>k b o (λh=>av (Mk.newX.symm.trans (h▸e))) (λh=>av (Mk.newD.symm.trans (h▸e))) (Mk.keeps b o e)⟩
theorem Bu (B:iY G N mN mg mb) {n:Nat} {fI:Addr} {d:Def} {τ:Tau} {W:Nat} {run:WsRun} (hd:cH G fI d) (hI:mN "__init__"=some (.ref fI)) (hfc:∃o,G.h0.get? fI=some o/\o.cls = .type "function")
 (I:rH Φ τ W d run) (Fa:∀A,gA n A->aB G A Φ):dJ G (n+2) G.C (Cj run):=λA room=>
 ⟨zF B,λX s as us old off al r ok=>d6 (c:=λus=>call (.ref G.C) us) r ok λv u h ok=>m0 (c:=λu=>call (.ref G.C) [u]) h ok λraw tR ok=>Bt B hd hI hfc (by
   obtain⟨_,_,_,_,_,_,_,_,_,_,params,_⟩:=I;rw[params];rfl) I Fa room old off al ok⟩
end
end
section
open PySem PySem.W PySem.Calls PyProof.Rows
section
variable {G:Cfg} {A:Around} {X:Addr->Prop} {Φ:Fns}
theorem gF.sta{env:Env}{κ:List (Str×NameKind)}{s s1:Shared}{g:Str->Option Value}{ids:List Str}{us:List Value}{as:List V}(en:gF G env κ s s1 g ids us)(old:pi G s.heap)(off:w6 G X)(al:aS X s.heap)(r:Reps G X s.heap as us):
 cq G env X (λ_=>none) (cK κ (lX (ids.map nm) as)) s1.heap:=by
 have kp:=Kp.keep en.keeps;have on:On X (ak env X λ_=>none) s.heap s1.heap:=⟨λb o _ e=>kp b o e,λb o e f=>by
  rcases f with f|f|⟨y,f⟩
  ·exact f
  ·rw[(en.own b f).1]at e;injections e
  ·cases f⟩
 refine vp (λb o e=>kp b o (old b o e)) off (al.keeps kp) en.frame (λb hb=>⟨?_,(en.own b hb).2⟩) λx hx => ?_
 ·cases e:G.h0.get? b with
  |none=>rfl
  |some o=>have:=old b o e;rw[(en.own b hb).1]at this;injections this
 ·rcases mq (lX (ids.map nm) as) κ (nm x)with e|⟨v,e1,e2⟩
  ·rw[e];trivial
  ·rw[e2]
   obtain⟨u,m,hr⟩:=vn r e1;exact⟨u,en.has _ _ m,hr.on on⟩
theorem gF.fin{env:Env}{κ:List (Str×NameKind)}{s s1 s':Shared}{g:Str->Option Value}{ids:List Str}{us:List Value}{O':Nm->Option Addr}(en:gF G env κ s s1 g ids us)(mv:Mv env (λ_=>none) O' s1 s'):
 Keeps s s'/\∀v u,am G (ak env X O') s'.heap v u->am G X s'.heap v u:=by
 obtain⟨h',tk',e,m⟩:=mv;subst e;obtain⟨h1,t1,rfl,kk⟩:=en.keeps;refine⟨⟨h',tk',rfl,λb o e => ?_⟩,λv u hr=>hr.on ⟨λ_ _ _ e=>e,λb o e xb => .inl xb⟩⟩;refine m.keep b o (λf => ?_) (kk b o e)
 rcases f with f|f|⟨y,f⟩
 ·exact f
 ·rw[(en.own b f).1]at e;injections e
 ·cases f
theorem mw {env:Env} {κ:List (Str×NameKind)} {ρ:Rho} {O} (Fa:aB G A Φ) (En:ao env κ) {mg:Str->Option Value} (hm:G.h0.Ns mainGlobals mg) {x:Str} {u:Value} (hu:mg x=some u) (hx:aO (kd κ (nm x))=true) {s:Shared} (S:cq G env X O ρ s.heap) {p:Pos}
 {E Q:Value->Shared->Prop} (q:Q u s):wpAny (model G.p G.w) A (eval (.Name x p) env) Q E s:=by
 have hk:aO (env.kindOf x)=true:=(En.glob x).trans hx;have pl:=En.plain x (by rw[hk,Bool.or_true]);exact Name_function_global En.kind (kI hk) (loadGlobal_global (mg:=mg) (by rw[En.globals];exact hm.keeps S.old) hu q) pl.1
noncomputable def F4(set:Int->Bool):List V->R:=fU (E9 λc=>(true, .bool (set c)))
structure Ew(Φ:Fns)(d:Def):Prop where
 body:∃e1 p1 p2 p3 x,d.params=[x]/\d.body=[.Return (some (.Compare e1 [.In] [.Name "b1_set" p1] p2)) p3]/\∀c,ev Φ [] 40 d.κ (cK d.κ [(x, .str [c])]) e1=(true, .int c)
 glob:aO (kd d.κ (nm "b1_set"))=true
theorem SetOf.keeps'{prog:Program}{w:World}{h h':Heap}{a:Addr}{S:Int->Bool}{n:Nat}(x:h.SetOf (intKind prog w) a S n)(k:∀b o,h.get? b=some o->h'.get? b=some o):h'.SetOf (intKind prog w) a S n:=
 let⟨o,es,ep,t,ho,r⟩:=x;⟨o,es,ep,t,k _ _ ho,r⟩
theorem Ex {n:Nat} {a S:Addr} {d:Def} {set:Int->Bool} {k:Nat} (hd:cH G a d) (hlim:G.h0.NoLimit) (Fa:∀A,gA n A->aB G A Φ) {mg:Str->Option Value} (hm:G.h0.Ns mainGlobals mg) (hS:mg "b1_set"=some (.ref S)) (hset:G.h0.SetOf (intKind G.p G.w) S set k)
 (I:Ew Φ d):dJ G (n+1) a (F4 set):=λA room=>by
 obtain⟨o,fd,ids0,ho,hdata,_⟩:=hd.ex;refine⟨mr ho hdata,λX s as us old off al r ok E Q q => ?_⟩;obtain⟨c,rfl⟩:∃c,as=[.str [c]]:=iL (λas _=>∃c,as=[.str [c]]) ok λv ok=>yA (λv _=>∃c,[v]=[.str [c]]) ok λc _=>⟨c,rfl⟩
 obtain⟨e1,p1,p2,p3,x,hp,hb,he⟩:=I.body;refine wy hd (by have:=room.depth;omega) hlim old (by rw[hp,<-r.length];rfl) λenv s1 g ids hids en E' => ?_
 have FaB:=Fa _ (room.deeper env);have S1:=en.sta old off al r;rw[hids,hp]at S1;have GE:=(gC (G:=G) (A:=A.deeper env) FaB [] 40 d.κ env X (cK d.κ [(x, .str [c])]) en.En).1;have e2:=he c;rw[hb];refine wpAny_execs_cons (wpAny_Return_some (wpAny_Compare1 (GE.ok e1 (by show(ev Φ [] 40 d.κ (cK d.κ [(x, .str [c])]) e1).1=true;rw[e2]) _ s1 S1 _ _ λu s2 k2 r2 => ?_) (by rfl)));refine mw FaB en.En hm hS I.glob (S1.keeps (Kp.keep k2)) ?_;have r2:am G _ s2.heap (ev Φ [] 40 d.κ (cK d.κ [(x, .str [c])]) e1).2 u:=r2;rw[e2]at r2;obtain⟨t,rfl⟩:=am.int_iff.mp r2;have S2:=S1.keeps (Kp.keep k2);refine wpAny_inSet_of (knd:=intKind G.p G.w) (k:=(c:Int)) (by simp[intKind,Value.isInt]) rfl (SetOf.keeps' hset S2.old) ?_
 exact q _ _ (Kp.trans en.keeps (Kp.trans k2 (Kp.toks _ _))) (am.bool_iff.mpr rfl)
theorem qe{k:Int}:∀{es:List DictEntry} {L:List (Int×Str)},bk es L->(match L.lookup k with
 |some x=>∃t,(es.find? λe=>Value.isInt k e.key).map (·.val)=some (.str x t)
 |none=>(es.find? λe=>Value.isInt k e.key).map (·.val)=none)
 |[],[],_=>rfl
 |e::es,(i,x)::L,h=>by
  obtain⟨_,⟨t,hk⟩,⟨t',hv⟩⟩:=h.1;have ih:=qe (k:=k) h.2;rw[List.lookup_cons,List.find?_cons,hk];show match(match k==i with|true=>some x|false=>L.lookup k)with|some x=>_|none=>_
  cases c:k==i with
  |true=>
   have:Value.isInt k (.int i t)=true:=by
    have:=eq_of_beq c;subst this;simp[Value.isInt]
   rw[this];exact⟨t',by rw[Option.map_some,hv]⟩
  |false=>
   have:Value.isInt k (.int i t)=false:=by
    have h0:k≠i:=λe=>by rw[e]at c;simp at c
    simp[Value.isInt];exact λe=>h0 e.symm
   rw[this];exact ih
 |[],_::_,h=>h.elim
 |_::_,[],h=>h.elim
theorem qf{prog:Program}{w:World}:∀{es:List DictEntry} {L:List (Int×Str)},bk es L->∀e∈es,∃k,(intKind prog w).is k e.key=true/\e.hash=(intKind prog w).hash k
 |[],_,_,e,he=>nomatch he
 |e::es,(i,x)::L,h,e',he=>by
  rcases List.mem_cons.mp he with rfl|he
  ·obtain⟨hh,⟨t,hk⟩,_⟩:=h.1
   exact⟨i,by rw[hk];simp[intKind,Value.isInt],hh⟩
  ·exact qf h.2 e' he
 |_::_,[],h,_,_=>h.elim
theorem tq{prog:Program}{w:World}{h:Heap}{a:Addr}{es:Array DictEntry}{ep:Nat}{L:List (Int×Str)}(e:h.get? a=some (dO es ep))(r:bB es L):
 ∃f,h.MapOf (intKind prog w) a f/\∀k,match L.lookup k with|some x=>∃t,f k=some (.str x t)|none=>f k=none:=by
 refine⟨λk=>findBy Value.isInt es k,⟨_,es,ep,e,⟨rfl,rfl,rfl⟩,rfl,λe he=>qf r e (Array.mem_toList_iff.mpr he),λk=>rfl⟩,λk => ?_⟩;have:=qe (k:=k) r;have e2:findBy Value.isInt es k=(es.toList.find? λe=>Value.isInt k e.key).map (·.val):=by
  unfold findBy;rw[<-Array.find?_toList]
 dsimp only;rw[e2];exact this
noncomputable def yb(L:List (Int×Str))(c:Nat):V:=match L.lookup (c:Int)with
 |some x => .str (nm x)
 |none => .none
noncomputable def FM(Φ:Fns)(W:Nat)(L:List (Int×Str))(κ:List (Str×NameKind))(x:Nm)(rest:List Stmt):List V->R:=
 fU (E9 λc=>jN (ex Φ [] [] W κ 200 rest (put (cK κ [(x, .str [c])]) (nm "r") (.val (yb L c)))))
structure Ey(Φ:Fns)(d:Def)(x:Nm)(rest:List Stmt):Prop where
 params:d.params=[x]
 body:∃e1 p1 p2 p3 p4 p5,d.body = .Assign [.Name "r" p1] (.Call (.Attribute (.Name "b3_exceptions" p2) "get" p3) [e1] [] p4) p5::rest/\p3.endLine=p4.line/\(∀c,ev Φ [] 40 d.κ (cK d.κ [(x, .str [c])]) e1=(true, .int c))/\dH e1=false/\∀e p,e1 ≠ .Starred e p
 glob:aO (kd d.κ (nm "b3_exceptions"))=true
 loc:af (kd d.κ (nm "r"))=true
theorem Ez {n:Nat} {a D:Addr} {d:Def} {L:List (Int×Str)} {W:Nat} {x:Nm} {rest:List Stmt} (hd:cH G a d) (hlim:G.h0.NoLimit) (Fa:∀A,gA n A->aB G A Φ) {mg:Str->Option Value} (hm:G.h0.Ns mainGlobals mg) (hD:mg "b3_exceptions"=some (.ref D))
 (hdict:∃es ep,G.h0.get? D=some (dO es ep)/\bB es L) (hsys:(D==sysModules)=false) (I:Ey Φ d x rest):dJ G (n+1) a (FM Φ W L d.κ x rest):=λA room=>by
 obtain⟨o,fd,ids0,ho,hdata,_⟩:=hd.ex;refine⟨mr ho hdata,λX s as us old off al r ok E Q q => ?_⟩;obtain⟨c,rfl⟩:∃c,as=[.str [c]]:=iL (λas _=>∃c,as=[.str [c]]) ok λv ok=>yA (λv _=>∃c,[v]=[.str [c]]) ok λc _=>⟨c,rfl⟩
 obtain⟨e1,p1,p2,p3,p4,p5,hb,hpos,he,hc,hst⟩:=I.body;have hp:=I.params;refine wy hd (by have:=room.depth;omega) hlim old (by rw[hp,<-r.length];rfl) λenv s1 g ids hids en E' => ?_
 have FaB:=Fa _ (room.deeper env);have S1:=en.sta old off al r;rw[hids,hp]at S1;have GE:=(gC (G:=G) (A:=A.deeper env) FaB [] 40 d.κ env X (cK d.κ [(x, .str [c])]) en.En).1;have e2:=he c;obtain⟨es,ep,gD,hE⟩:=hdict;obtain⟨f,hM,hf⟩:=tq (prog:=G.p) (w:=G.w) gD hE;rw[hb];have htr:backTo p4 (starEach [e1] env)=[(false,eval e1 env)]:=by
  have:starEach [e1] env=[(false,eval e1 env)]:=gB GE (show(ev Φ [] 40 d.κ (cK d.κ [(x, .str [c])]) e1).1=true by rw[e2]) [];rw[this];rfl
 have hval:(yb L c = .none/\f c=none)\/∃y t,yb L c = .str (nm y)/\f c=some (.str y t):=by
  have:=hf c;unfold yb;cases e:L.lookup (c:Int)with
  |none=>rw[e]at this;exact .inl ⟨rfl,this⟩
  |some y=>rw[e]at this;obtain⟨t,ht⟩:=this;exact .inr ⟨y,t,rfl,ht⟩
 refine wpAny_execs_cons (wpAny_Assign_Name ?_ (jW rfl _ _));refine wpAny_Call_method_lateS (iO rfl) (by rw[htr];rfl) (by rw[hpos];exact beq_self_eq_true _) (mw FaB en.En hm hD I.glob S1 ?_);have T0:s1.heap.MapOf (intKind G.p G.w) D f:=by
  obtain⟨o',es',ep',a1,a2⟩:=hM;exact⟨o',es',ep',S1.old _ _ a1,a2⟩
 refine⟨"dict","dict.get",F.plainAttrs_dict,F.slot_dict_get,F.type_dict_get,T0.typeIs,T0.noDict, ?_⟩;rw[htr];refine wpAny_dict_get1 (knd:=intKind G.p G.w) hsys (GE.ok e1 (by rw[e2]) _ s1 S1 _ _ λu s2 k2 r2 => ?_);rw[e2]at r2;obtain⟨t,rfl⟩:=am.int_iff.mp r2;have S2:=S1.keeps (Kp.keep k2);refine⟨(c:Int),f,by simp[intKind,Value.isInt],by obtain⟨o',es',ep',a1,a2⟩:=hM;exact⟨o',es',ep',S2.old _ _ a1,a2⟩, ?_⟩;have rv:am G (ak env X λ_=>none) s2.heap (yb L c) ((f c).getD .none):=by
  rcases hval with⟨a1,a2⟩|⟨y,t',a1,a2⟩
  ·rw[a1,a2];exact am.none_iff.mpr rfl
  ·rw[a1,a2];exact am.str_iff.mpr ⟨t',by rw[Cc];rfl⟩
 refine bE (s:={ s2 with toks:=s2.toks+1 }) S2 en.En I.loc rv λh' tk S3 kp al3 => ?_
 have mv3:Mv env (λ_=>none) (upd (λ_=>none) (nm "r") none) s1 { s2 with heap:=h',toks:=tk }:=u9 (x:="r") k2 kp;have ok':(jN (ex Φ [] [] W d.κ 200 rest (put (cK d.κ [(x, .str [c])]) (nm "r") (.val (yb L c))))).1=true:=ok;have q':∀u s',Keeps s s'->am G X s'.heap (jN (ex Φ [] [] W d.κ 200 rest (put (cK d.κ [(x, .str [c])]) (nm "r") (.val (yb L c))))).2 u->Q u s':=q
 unfold jN at ok' q';have X0:=tm (G:=G) (A:=A.deeper env) FaB en.En (τ:=[]) (μ:=[]) (W:=W) 200 [rest] X (put (cK d.κ [(x, .str [c])]) (nm "r") (.val (yb L c)));rw[show[rest].flatten=rest by simp]at X0;generalize ex Φ [] [] W d.κ 200 rest (put (cK d.κ [(x, .str [c])]) (nm "r") (.val (yb L c)))=res at X0 ok' q';obtain⟨b,out⟩:=res;have X2:∀(Q:Flow->Shared->Prop) (hb:b=true),(∀f s',dP G env X (upd (λ_=>none) (nm "r") none) { s2 with heap:=h',toks:=tk } out f s'->Q f s')->wpAny (model G.p G.w) (A.deeper env) (execs rest env) Q E' { s2 with heap:=h',toks:=tk }:=λQ hb hq=>
  wpAny_mono (X0 hb _ _ S3 E' Q hq) (λf s' h'=>by induction f using Flow.casesOn<;>exact h') λ_ _ e=>e
 induction out using fV.casesOn with
 |ret v=>
  refine X2 _ ok' λf s' ho => ?_
  induction f using Flow.casesOn with
  |ret u=>
   obtain⟨O',h1,h2⟩:=ho;have fin:=en.fin (X:=X) (mv3.trans h2);exact q' u s' fin.1 (fin.2 _ _ h1)
  |_=>exact ho.elim
 |next ρ'=>
  refine X2 _ ok' λf s' ho => ?_
  induction f using Flow.casesOn with
  |next=>
   obtain⟨O',h1,h2⟩:=ho;have fin:=en.fin (X:=X) (mv3.trans h2);exact q' .none s' fin.1 (am.none_iff.mpr rfl)
  |_=>exact ho.elim
 |_=>cases ok'
end
end
section
open PySem PySem.Sre
noncomputable def bI:Nat->M->M
 |0,m=>m
 |n+1,m=>bI n m.step
theorem qg{m:M}(h:m.outcome.isSome=true):m.step=m:=by unfold M.step;rw[if_pos h]
theorem fq{m:M}(h:m.outcome.isSome=true):∀n,bI n m=m
 |0=>rfl
 |n+1=>by show bI n m.step=m;rw[qg h];exact fq h n
theorem qh:∀(n:Nat) (m:M),M.runFor n m=bI n m
 |0,m=>rfl
 |n+1,m=>by
  show(if m.outcome.isSome=true then m else M.runFor n m.step)=bI n m.step
  split
  ·rename_i h;rw[qg h,fq h]
  ·exact qh n _
theorem iT(a b:Nat):∀m,bI (a+b) m=bI b (bI a m):=by
 induction a with
 |zero=>intro m;rw[Nat.zero_add];rfl
 |succ a ih=>intro m;rw[Nat.succ_add];exact ih _
noncomputable def st(code text:Array Nat)(lim start ls:Nat)(must:Bool)(pc pos handed:Nat)(om:Bool)(fs:List Sre.Frame)(w:Nat)(ans:Option Bool)(seen:Sre.Seen)(out:Option Sre.Outcome):M:=
 { code,text,lim,start,lastStart:=ls,mustAdvance:=must,pc,pos,handed,outermost:=om,marks := #[],frames:=fs,weight:=w,answer:=ans,seen,outcome:=out }
noncomputable def code1:Array Nat := #[14,4,0,1,1,6,1,16,46,1]
noncomputable def code2:Array Nat := #[14,9,4,1,2,16,10,16,13,0,7,7,16,13,16,10,15,18,5,16,10,15,13,11,16,13,5,5,0,16,10,1,15,2,0,1]
variable {text:Array Nat} {lim start ls pos h w:Nat} {must om:Bool} {fs:List Sre.Frame} {seen:Sre.Seen}
theorem tz:M.step (st code1 text lim start ls must 5 pos h om fs w none seen none) =
 if(pos==0||text.getD (pos-1) 0==10)=true then st code1 text lim start ls must 7 pos h om fs w none ((seen.add 6).add 44) none else st code1 text lim start ls must 5 pos h om fs w (some false) ((seen.add 6).add 44) none:=rfl
noncomputable def Ck(m:M)(wd:Nat)(b:Bool):M:=match b with
 |false=>m.say false
 |true=>{ m with pc:=m.pc+wd,pos:=m.pos+1 }
theorem vr:M.step (st code1 text lim start ls must 7 pos h om fs w none seen none) =
 if pos>=lim then st code1 text lim start ls must 7 pos h om fs w (some false) (seen.add 16) none else Ck (st code1 text lim start ls must 7 pos h om fs w none (seen.add 16) none) 2 (text.getD pos 0==46):=∅
theorem Bv:M.step (st code1 text lim start ls must 9 pos h om fs w none seen none) =
 if(om&&(false||(must&&pos==start)))=true then st code1 text lim start ls must 9 pos h om fs w (some false) (seen.add 1) none else st code1 text lim start ls must 9 pos pos om fs w (some true) (seen.add 1) none:=∅
noncomputable def fr(pc p:Nat)(om:Bool):Sre.Frame:={ wait := .nextStart,pc,pos:=p,outermost:=om }
theorem Dd{p pc:Nat}{om':Bool}:M.step (st code1 text lim start ls must pc pos h om [fr 5 p om'] 1 (some true) seen none)=st code1 text lim start ls must 5 p h om' [] 0 (some true) seen none:=∅
theorem wz{p pc:Nat}{om':Bool}:M.step (st code1 text lim start ls must pc pos h om [fr 5 p om'] 1 (some false) seen none) =
 if p<ls then st code1 text lim (p+1) ls false 5 (p+1) (p+1) false [fr 5 (p+1) false] 1 none seen none else st code1 text lim start ls must 5 p h om' [] 0 (some false) seen none:=∅
theorem nI{code:Array Nat}{pc:Nat}{b:Bool}:M.step (st code text lim start ls must pc pos h om [] w (some b) seen none)=st code text lim start ls must pc pos h om [] w (some b) seen (some (if b=true then .matched else .failed)):=rfl
noncomputable def di(text:Array Nat)(lim p:Nat):Bool:=(p==0||text.getD (p-1) 0==10)&&decide (p<lim)&&text.getD p 0==46
noncomputable def cP(text:Array Nat)(lim:Nat):Nat->Nat->Option Nat
 |0,p=>if di text lim p then some p else none
 |n+1,p=>if di text lim p then some p else cP text lim n (p+1)
noncomputable def aD(m:M)(k:Nat)(r:Option (Nat×Nat)):Prop:=∃k',k'<=k/\match r with
 |some (b,e)=>∃t,bI k' m=t/\t.outcome=some .matched/\t.start=b/\t.handed=e
 |none=>(bI k' m).outcome=some .failed
theorem aD.step{m m':M}{k:Nat}{r:Option (Nat×Nat)}(h:m.step=m')(e:aD m' k r):aD m (k+1) r:=by
 obtain⟨k',hk,h2⟩:=e;refine⟨k'+1,⋯, ?_⟩;have:bI (k'+1) m=bI k' m':=by show bI k' m.step=_;rw[h]
 rw[this];exact h2
theorem aD.more{m:M}{k k2:Nat}{r:Option (Nat×Nat)}(e:aD m k r)(h:k<=k2):aD m k2 r:=let⟨k',a,b⟩:=e;⟨k',Nat.le_trans a h,b⟩
noncomputable def A1(text:Array Nat)(lim p:Nat)(must om:Bool)(seen:Sre.Seen):M:=st code1 text lim p lim must 5 p p om [fr 5 p om] 1 none seen none
theorem FN:∀(n p:Nat) (must om:Bool) (seen:Sre.Seen),lim-p=n->p<=lim->aD (A1 text lim p must om seen) (5*n+6) ((cP text lim n p).map λb=>(b,b+1)):=by
 intro n
 induction n with
 |zero=>
  intro p must om seen hn hp;have hpl:p=lim:=⋯;have nohit:di text lim p=false:=by unfold di;rw[hpl];simp
  show aD _ _ (Option.map _ (if di text lim p=true then some p else none));rw[nohit];unfold A1
  by_cases ha:(p==0||text.getD (p-1) 0==10)=true
  ·refine aD.more (aD.step (tz.trans (if_pos ha)) (aD.step (vr.trans (if_pos ⋯)) (aD.step (wz.trans (if_neg ⋯)) (aD.step nI (k:=0) ⟨0,Nat.le_refl _,rfl⟩)))) ⋯
  ·refine aD.more (aD.step (tz.trans (if_neg ha)) (aD.step (wz.trans (if_neg ⋯)) (aD.step nI (k:=0) ⟨0,Nat.le_refl _,rfl⟩))) ⋯
 |succ n ih=>
  intro p must om seen hn hp;have hlt:p<lim:=⋯;show aD _ _ (Option.map _ (if di text lim p=true then some p else cP text lim n (p+1)));unfold A1
  by_cases ha:(p==0||text.getD (p-1) 0==10)=true
  ·cases hb:(text.getD p 0==46)with
   |true=>
    have yes:di text lim p=true:=by unfold di;rw[ha,hb];simp[hlt]
    rw[yes];refine aD.more (aD.step (tz.trans (if_pos ha)) (aD.step (vr.trans ((if_neg ⋯).trans (by rw[hb];rfl:_=st code1 text lim p lim must 9 (p+1) p om [fr 5 p om] 1 none (((seen.add 6).add 44).add 16) none))) (aD.step (Bv.trans (if_neg ?_))
     (aD.step Dd (aD.step nI (k:=0) ⟨0,Nat.le_refl _,_,rfl,rfl,rfl,rfl⟩))))) ⋯
    have:(p+1==p)=false:=by simp
    rw[this];simp
   |false=>
    have no:di text lim p=false:=by unfold di;rw[hb];simp
    rw[no];refine aD.more (aD.step (tz.trans (if_pos ha)) (aD.step (vr.trans ((if_neg ⋯).trans (by rw[hb];rfl:_=st code1 text lim p lim must 7 p p om [fr 5 p om] 1 (some false) (((seen.add 6).add 44).add 16) none))) (aD.step (wz.trans (if_pos hlt)) (ih (p+1) false false _ ⋯ ⋯)))) ⋯
  ·have no:di text lim p=false:=by unfold di;rw[Bool.not_eq_true]at ha;rw[ha];simp
   rw[no];refine aD.more (aD.step (tz.trans (if_neg ha)) (aD.step (wz.trans (if_pos hlt)) (ih (p+1) false false _ ⋯ ⋯))) ⋯
theorem Bw(text:Array Nat)(start:Nat)(must:Bool)(hs:start<=text.size):aD (Sre.forSearch code1 text 0 start text.size must) (5*text.size+8) ((cP text text.size (text.size-start) start).map λb=>(b,b+1)):=by
 by_cases h:start=text.size
 ·subst h
  have e:Sre.forSearch code1 text 0 text.size text.size must=(if(decide (text.size>text.size)||decide (text.size-text.size<1))=true then st code1 text text.size text.size 0 must 5 text.size text.size true [] 0 (some false) (({}:Sre.Seen).add 14) none else A1 text text.size text.size must true (({}:Sre.Seen).add 14)):=∅;rw[e,if_pos (by simp)];have:cP text text.size (text.size-text.size) text.size=none:=by
   rw[Nat.sub_self];show(if di text text.size text.size=true then _ else _)=none;rw[if_neg (by simp[di])]
  rw[this];exact aD.more (aD.step nI (k:=0) ⟨0,Nat.le_refl _,rfl⟩) ⋯
 ·have e:Sre.forSearch code1 text 0 start text.size must=(if(decide (start>text.size)||decide (text.size-start<1))=true then st code1 text text.size start 0 must 5 start start true [] 0 (some false) (({}:Sre.Seen).add 14) none else A1 text text.size start must true (({}:Sre.Seen).add 14)):=∅
  rw[e,if_neg (by simp;omega)];exact(FN _ start must true _ rfl hs).more ⋯
variable {text:Array Nat} {lim start ls pos h w:Nat} {must om:Bool} {fs:List Sre.Frame} {seen:Sre.Seen}
noncomputable def br(pc p:Nat)(om:Bool):Sre.Frame:={ wait := .nextBranch,pc,pos:=p,outermost:=om,kept:={ lastmark := -1,lastindex := -1,whole:=false,marks := #[] } }
noncomputable def ln(p:Nat)(om:Bool):Sre.Frame:={ wait := .lookNot,pc:=26,pos:=p,outermost:=om,kept:={ lastmark := -1,lastindex := -1,whole:=false,marks := #[] } }
theorem xv:M.step (st code2 text lim start ls must 10 pos h om [fr 10 pos om] 1 none seen none)=st code2 text lim start ls must 12 pos pos om [br 11 pos om,fr 10 pos om] 2 none (seen.add 7) none:=∅
theorem tA:M.step (st code2 text lim start ls must 12 pos h om fs w none seen none) =
 if pos>=lim then st code2 text lim start ls must 12 pos h om fs w (some false) (seen.add 16) none else Ck (st code2 text lim start ls must 12 pos h om fs w none (seen.add 16) none) 2 (text.getD pos 0==13):=∅
theorem nJ:M.step (st code2 text lim start ls must 14 pos h om fs w none seen none) =
 if pos>=lim then st code2 text lim start ls must 14 pos h om fs w (some false) (seen.add 16) none else Ck (st code2 text lim start ls must 14 pos h om fs w none (seen.add 16) none) 2 (text.getD pos 0==10):=∅
theorem nK:M.step (st code2 text lim start ls must 19 pos h om fs w none seen none) =
 if pos>=lim then st code2 text lim start ls must 19 pos h om fs w (some false) (seen.add 16) none else Ck (st code2 text lim start ls must 19 pos h om fs w none (seen.add 16) none) 2 (text.getD pos 0==10):=∅
theorem tB:M.step (st code2 text lim start ls must 24 pos h om fs w none seen none) =
 if pos>=lim then st code2 text lim start ls must 24 pos h om fs w (some false) (seen.add 16) none else Ck (st code2 text lim start ls must 24 pos h om fs w none (seen.add 16) none) 2 (text.getD pos 0==13):=∅
theorem tC:M.step (st code2 text lim start ls must 29 pos h om fs w none seen none) =
 if pos>=lim then st code2 text lim start ls must 29 pos h om fs w (some false) (seen.add 16) none else Ck (st code2 text lim start ls must 29 pos h om fs w none (seen.add 16) none) 2 (text.getD pos 0==10):=∅
theorem xw:M.step (st code2 text lim start ls must 16 pos h om fs w none seen none)=st code2 text lim start ls must 35 pos h om fs w none (seen.add 15) none:=∅
theorem xx:M.step (st code2 text lim start ls must 21 pos h om fs w none seen none)=st code2 text lim start ls must 35 pos h om fs w none (seen.add 15) none:=∅
theorem qi:M.step (st code2 text lim start ls must 32 pos h om fs w none seen none)=st code2 text lim start ls must 35 pos h om fs w none (seen.add 15) none:=∅
theorem Bx:M.step (st code2 text lim start ls must 35 pos h om fs w none seen none) =
 if(om&&(false||(must&&pos==start)))=true then st code2 text lim start ls must 35 pos h om fs w (some false) (seen.add 1) none else st code2 text lim start ls must 35 pos pos om fs w (some true) (seen.add 1) none:=∅
theorem zJ{p:Nat}{om':Bool}:M.step (st code2 text lim start ls must 26 pos h om [br 23 p om',fr 10 p om'] 2 none seen none)=st code2 text lim start ls must 29 pos pos false [ln pos om,br 23 p om',fr 10 p om'] 3 none (seen.add 5) none:=∅
theorem qj{p q pc:Nat}{om' om2:Bool}:M.step (st code2 text lim start ls must pc pos h om [ln q om2,br 23 p om',fr 10 p om'] 3 (some false) seen none)=st code2 text lim start ls must 32 q h om2 [br 23 p om',fr 10 p om'] 2 none seen none:=∅
theorem nL{p pc:Nat}{om':Bool}:M.step (st code2 text lim start ls must pc pos h om [br 11 p om',fr 10 p om'] 2 (some false) seen none)=st code2 text lim start ls must 19 p p om' [br 18 p om',fr 10 p om'] 2 none seen none:=∅
theorem tD{p pc:Nat}{om':Bool}:M.step (st code2 text lim start ls must pc pos h om [br 18 p om',fr 10 p om'] 2 (some false) seen none)=st code2 text lim start ls must 24 p p om' [br 23 p om',fr 10 p om'] 2 none seen none:=∅
theorem De{p pc:Nat}{om' om2:Bool}{q i:Nat}:M.step (st code2 text lim start ls must pc pos h om [br i q om2,fr 10 p om'] 2 (some true) seen none)=st code2 text lim start ls must i q h om2 [fr 10 p om'] 1 (some true) seen none:=∅
theorem Df{p pc:Nat}{om':Bool}:M.step (st code2 text lim start ls must pc pos h om [fr 10 p om'] 1 (some true) seen none)=st code2 text lim start ls must 10 p h om' [] 0 (some true) seen none:=∅
noncomputable def A2(text:Array Nat)(lim p ls:Nat)(must om:Bool)(seen:Sre.Seen):M:=st code2 text lim p ls must 10 p p om [fr 10 p om] 1 none seen none
noncomputable def dK(text:Array Nat)(lim p:Nat):Nat:=if(text.getD p 0==13&&decide (p+1<lim)&&text.getD (p+1) 0==10)=true then p+2 else p+1
theorem jZ{code:Array Nat}{pc wd:Nat}{b:Bool}(hb:b=true):Ck (st code text lim start ls must pc pos h om fs w none seen none) wd b=st code text lim start ls must (pc+wd) (pos+1) h om fs w none seen none:=by subst hb;rfl
theorem nO{code:Array Nat}{pc wd:Nat}{b:Bool}(hb:b=false):Ck (st code text lim start ls must pc pos h om fs w none seen none) wd b=st code text lim start ls must pc pos h om fs w (some false) seen none:=by subst hb;rfl
theorem FO{p:Nat}(hp:p<lim)(hc:text.getD p 0=13\/text.getD p 0=10):aD (A2 text lim p ls must om seen) 20 (some (p,dK text lim p)):=by
 unfold A2;refine aD.more (k:=1+18) ?_ ⋯;refine aD.more (aD.step xv (k:=17) ?_) ⋯;have succ:∀{e:Nat} {i:Nat} {hh:Nat} {sn:Sre.Seen},p<e->aD (st code2 text lim p ls must 35 e hh om [br i p om,fr 10 p om] 2 none sn none) 4 (some (p,e)):=λ{e i hh sn} he=>by
  refine aD.more (aD.step (Bx.trans (if_neg ?_)) (aD.step De (aD.step Df (aD.step nI (k:=0) ⟨0,Nat.le_refl _,_,rfl,rfl,rfl,rfl⟩)))) ⋯;have:(e==p)=false:=by simp;omega
  rw[this];simp
 rcases hc with hc|hc
 ·have c13:(text.getD p 0==13)=true:=by rw[hc];rfl
  have c10:(text.getD p 0==10)=false:=by rw[hc];rfl
  refine aD.more (aD.step (tA.trans ((if_neg ⋯).trans (jZ c13))) (k:=16) ?_) ⋯
  by_cases hn:p+1<lim
  ·cases hd:(text.getD (p+1) 0==10)with
   |true=>
    have ee:dK text lim p=p+2:=by unfold dK;rw[c13,hd];simp[hn]
    rw[ee];exact aD.more (aD.step (nJ.trans ((if_neg ⋯).trans (jZ hd))) (aD.step xw (succ (e:=p+2) ⋯))) ⋯
   |false=>
    have ee:dK text lim p=p+1:=by unfold dK;rw[hd];simp
    rw[ee];refine aD.more (aD.step (nJ.trans ((if_neg ⋯).trans (nO hd))) (aD.step nL (aD.step (nK.trans ((if_neg ⋯).trans (nO c10))) (aD.step tD
     (aD.step (tB.trans ((if_neg ⋯).trans (jZ c13))) (aD.step zJ (aD.step (tC.trans ((if_neg ⋯).trans (nO hd))) (aD.step qj (aD.step qi (succ ⋯))))))))) ) ⋯
  ·have ee:dK text lim p=p+1:=by unfold dK;simp[hn]
   rw[ee];refine aD.more (aD.step (nJ.trans (if_pos ⋯)) (aD.step nL (aD.step (nK.trans ((if_neg ⋯).trans (nO c10))) (aD.step tD
    (aD.step (tB.trans ((if_neg ⋯).trans (jZ c13))) (aD.step zJ (aD.step (tC.trans (if_pos ⋯)) (aD.step qj (aD.step qi (succ ⋯))))))))) ) ⋯
 ·have c13:(text.getD p 0==13)=false:=by rw[hc];rfl
  have c10:(text.getD p 0==10)=true:=by rw[hc];rfl
  have ee:dK text lim p=p+1:=by unfold dK;rw[c13];simp
  rw[ee];exact aD.more (aD.step (tA.trans ((if_neg ⋯).trans (nO c13))) (aD.step nL (aD.step (nK.trans ((if_neg ⋯).trans (jZ c10))) (aD.step xx (succ ⋯))))) ⋯
noncomputable def iu(c:Nat):Bool:=c==13||c==10
noncomputable def cQ(text:Array Nat)(lim:Nat):Nat->Nat->Option Nat
 |0,_=>none
 |n+1,p=>if iu (text.getD p 0)=true then some p else cQ text lim n (p+1)
theorem zK{text:Array Nat}{lim n p:Nat}:cQ text lim (n+1) p=if iu (text.getD p 0)=true then some p else cQ text lim n (p+1):=rfl
theorem Dg(c:Nat)(seen:Sre.Seen):∃seen',Sre.inSet code2 c 36 5 true seen = .ok (iu c,seen'):=by
 have e:Sre.inSet code2 c 36 5 true seen=(if(c==10)=true then .ok (true,seen.add 16)else if(c==13)=true then .ok (true,(seen.add 16).add 16)else .ok (false,((seen.add 16).add 16).add 0)):=∅;rw[e];unfold iu;cases h1:c==10 with
 |true=>exact⟨seen.add 16,by simp⟩
 |false=>
  cases h2:c==13 with
  |true=>exact⟨(seen.add 16).add 16,by simp⟩
  |false=>exact⟨((seen.add 16).add 16).add 0,by simp⟩
theorem qk{m:M}(hc:m.code=code2):∀(n s fuel:Nat) (seen:Sre.Seen),m.lim-s=n->n<fuel->∃seen',M.admitted m fuel s seen = .ok (cQ m.text m.lim n s,seen')
 |0,s,fuel+1,seen,hn,hf=>⟨seen,by
    unfold M.admitted;rw[if_pos ⋯];rfl⟩
 |n+1,s,fuel+1,seen,hn,hf=>by
  unfold M.admitted;rw[if_neg ⋯,hc];obtain⟨seen',e⟩:=Dg (m.text.getD s 0) seen;rw[show code2.size=36 from rfl,e];show ∃seen'',_=Except.ok ((if iu (m.text.getD s 0)=true then some s else cQ m.text m.lim n (s+1)),seen'');cases h:iu (m.text.getD s 0)with
  |true=>exact⟨seen',rfl⟩
  |false=>
   obtain⟨seen'',e2⟩:=qk (m:=m) hc n (s+1) fuel seen' ⋯ ⋯;exact⟨seen'',e2⟩
theorem kQ:∀(n p b:Nat),cQ text lim n p=some b->p<=b/\b<p+n/\(text.getD b 0=13\/text.getD b 0=10)
 |0,p,b,h=>by injections h
 |n+1,p,b,h=>by
  rw[zK]at h
  split at h
  ·rename_i he
   injection h with h;subst h
   refine⟨Nat.le_refl _,⋯, ?_⟩;unfold iu at he
   simpa using he
  ·have:=kQ n (p+1) b h
   omega
theorem By(text:Array Nat)(start:Nat)(must:Bool)(hs:start<=text.size):aD (Sre.forSearch code2 text 0 start text.size must) 24 ((cQ text text.size (text.size-start) start).map λb=>(b,dK text text.size b)):=by
 by_cases h:start=text.size
 ·subst h
  have e:Sre.forSearch code2 text 0 text.size text.size must=(if(decide (text.size>text.size)||decide (text.size-text.size<1))=true then st code2 text text.size text.size 0 must 10 text.size text.size true [] 0 (some false) (({}:Sre.Seen).add 14) none
   else M.attemptFrom (st code2 text text.size text.size text.size must 10 text.size text.size true [] 0 none (({}:Sre.Seen).add 14) none) text.size true):=∅
  rw[e,if_pos (by simp),Nat.sub_self];exact aD.more (aD.step nI (k:=0) ⟨0,Nat.le_refl _,rfl⟩) ⋯
 ·have e:Sre.forSearch code2 text 0 start text.size must=(if(decide (start>text.size)||decide (text.size-start<1))=true then st code2 text text.size start 0 must 10 start start true [] 0 (some false) (({}:Sre.Seen).add 14) none
   else M.attemptFrom (st code2 text text.size start text.size must 10 start start true [] 0 none (({}:Sre.Seen).add 14) none) start true):=∅
  rw[e,if_neg (by simp;omega)];obtain⟨seen',ha⟩:=qk (m:=st code2 text text.size start text.size must 10 start start true [] 0 none (({}:Sre.Seen).add 14) none) rfl (text.size-start) start (text.size+1-start) (({}:Sre.Seen).add 14) rfl ⋯;have ha':M.admitted (st code2 text text.size start text.size must 10 start start true [] 0 none (({}:Sre.Seen).add 14) none) (text.size+1-start) start (({}:Sre.Seen).add 14) = .ok (cQ text text.size (text.size-start) start,seen'):=ha;have e3:M.attemptFrom (st code2 text text.size start text.size must 10 start start true [] 0 none (({}:Sre.Seen).add 14) none) start true =
   match M.admitted (st code2 text text.size start text.size must 10 start start true [] 0 none (({}:Sre.Seen).add 14) none) (text.size+1-start) start (({}:Sre.Seen).add 14)with
   | .ok (some s,seen)=>A2 text text.size s text.size false true seen
   | .ok (none,seen)=>st code2 text text.size start text.size must 10 start start true [] 0 (some false) seen none
   | .error why=>(st code2 text text.size start text.size must 10 start start true [] 0 none (({}:Sre.Seen).add 14) none).stick why:=∅
  rw[e3,ha'];cases hf:cQ text text.size (text.size-start) start with
  |none=>exact aD.more (aD.step nI (k:=0) ⟨0,Nat.le_refl _,rfl⟩) ⋯
  |some b=>
   obtain⟨b1,b2,b3⟩:=kQ _ _ _ hf;exact(FO ⋯ b3).more ⋯
end
section
open PySem PySem.W PySem.Calls PyProof.Rows
open PySem.Builtin.Re
noncomputable def zL(m:Sre.M)(r:Option (Nat×Nat)):Prop:=match r with
 |some (b,e)=>m.outcome=some .matched/\m.start=b/\m.handed=e
 |none=>m.outcome=some .failed
theorem aD.res{m:Sre.M}{k:Nat}{r:Option (Nat×Nat)}(h:aD m k r):∃k',k'<=k/\zL (bI k' m) r:=by
 obtain⟨k',hk,h2⟩:=h;refine⟨k',hk, ?_⟩
 induction r using Option.casesOn with
 |none=>exact h2
 |some x=>obtain⟨t,rfl,a,b,c⟩:=h2;exact⟨a,b,c⟩
theorem zL.some{m:Sre.M}{r:Option (Nat×Nat)}(h:zL m r):m.outcome.isSome=true:=by
 induction r using Option.casesOn with
 |none=>have h:m.outcome=_:=h;rw[h];rfl
 |some x=>rw[h.1];rfl
section
variable {M:Model} {A:Around} {E:Value->Shared->Prop} {s:Shared}
theorem tE{r:Option (Nat×Nat)}{Q:Sre.M->Shared->Prop}:∀(turns k:Nat) (m:Sre.M),zL (bI k m) r->k<4*turns->(∀m',zL m' r->Q m' s)->wpAny M A (reDrive turns m) Q E s
 |0,k,m,h,hk,q=>⋯
 |turns+1,k,m,h,hk,q=>by
  unfold reDrive;dsimp only;rw[show Sre.M.runFor reTurnSteps m=bI 4 m from qh 4 m]
  by_cases hs:(bI 4 m).outcome.isSome=true
  ·rw[if_pos hs]
   refine wpAny_pure (q _ ?_)
   by_cases hk4:k<=4
   ·have:bI 4 m=bI (4-k) (bI k m):=by rw[<-iT];congr 1;omega
    rw[this,fq h.some];exact h
   ·have:bI k m=bI (k-4) (bI 4 m):=by rw[<-iT];congr 1;omega
    rw[this,fq hs]at h;exact h
  ·rw[if_neg hs]
   refine wpAny_bind (wpAny_rule ?_)
   by_cases hk4:k<=4
   ·have:bI 4 m=bI (4-k) (bI k m):=by rw[<-iT];congr 1;omega
    rw[this,fq h.some]at hs;exact absurd h.some hs
   ·have:bI k m=bI (k-4) (bI 4 m):=by rw[<-iT];congr 1;omega
    rw[this]at h;exact tE turns (k-4) _ h ⋯ q
theorem nP{c:Nat->Bool}{t:Nat->String}{Q:PUnit->Shared->Prop}(q:Q ⟨⟩ s):∀l:List Nat,wpAny M A (forIn l PUnit.unit λi _=>if c i=true then(do rule (t i);pure (ForInStep.yield PUnit.unit))else pure (ForInStep.yield PUnit.unit)) Q E s
 |[]=>by rw[List.forIn_nil];exact wpAny_pure q
 |i::l=>by
  rw[List.forIn_cons];refine wpAny_bind ?_
  split
  ·exact wpAny_bind (wpAny_rule (wpAny_pure (nP q l)))
  ·exact wpAny_pure (nP q l)
theorem Dh{m:Sre.M}{k:Nat}{r:Option (Nat×Nat)}(h:aD m k r)(hk:k<4*2^64){Q:Option Sre.M->Shared->Prop}(q:∀m',(match r with|some (b,e)=>∃z,m'=some z/\z.start=b/\z.handed=e|none=>m'=none)->Q m' s):
 wpAny M A (reRunToEnd m) Q E s:=by
 obtain⟨k',hk',h2⟩:=h.res;unfold reRunToEnd;refine wpAny_bind (tE (2^64) k' m h2 ⋯ λm' hm => ?_);refine wpAny_bind (wpAny_mono (nP (s:=s) (Q:=λ_ s'=>s'=s) rfl (List.range Sre.names.size) (c:=λi=>m'.seen.has i) (t:=λi=>Sre.names.getD i "")) (λ_ s' e => ?_) λ_ _ e=>e);subst e
 induction r using Option.casesOn with
 |none=>have hm:m'.outcome=_:=hm;rw[hm];exact wpAny_pure (q none rfl)
 |some x=>obtain⟨h1,h2,h3⟩:=hm;rw[h1];exact wpAny_pure (q (some m') ⟨m',rfl,h2,h3⟩)
end
structure fG(h:Heap)(P:Addr)(code:Array Nat):Prop where
 ex:∃o fs T oT ws n,h.get? P=some o/\o.cls = .type "re.Pattern"/\o.dict=none/\o.data = .fields fs/\fs.getD 5 .none = .ref T/\reRawNat (fs.getD 2 .none)=0/\reRawNat (fs.getD 6 .none)=0 /\
  h.get? T=some oT/\oT.data = .seq ws n/\(ws.map reRawOf).map (·.toNat)=code
theorem fG.keeps{h h':Heap}{P:Addr}{code:Array Nat}(p:fG h P code)(k:∀b o,h.get? b=some o->h'.get? b=some o):fG h' P code:=
 let⟨o,fs,T,oT,ws,n,h1,a,b,c,d,e,f,h2,r⟩:=p.ex;⟨o,fs,T,oT,ws,n,k _ _ h1,a,b,c,d,e,f,k _ _ h2,r⟩
noncomputable def target(P:Addr)(x:List Nat)(t:Tok)(code:Array Nat):ReTarget:={ pattern := .ref P,string := .str (tx x) t,code,text:=x.toArray,kind:=0,groups:=0,pos:=0,lim:=x.toArray.size }
section
variable {prog:Program} {w:World} {A:Around} {E:Value->Shared->Prop} {s:Shared}
theorem tF{P:Addr}{code:Array Nat}{x:List Nat}{t:Tok}{Q:ReTarget->Shared->Prop}(p:fG s.heap P code)(q:Q (target P x t code) s):wpAny (model prog w) A (reWholeTarget (.ref P) (.str (tx x) t)) Q E s:=by
 obtain⟨o,fs,T,oT,ws,n,h1,_,_,h2,h3,h4,h5,h6,h7,h8⟩:=p.ex;unfold reWholeTarget;refine wpAny_bind (wpAny_fieldsOf h1 h2 ?_);refine wpAny_bind ?_;unfold reTextOf;refine wpAny_bind (wpAny_pure (wpAny_pure ?_));dsimp only;rw[h3,h4,h5];rw[if_neg nofun,if_neg nofun];refine wpAny_bind ?_;unfold reNoCollectionInside;rw[if_neg nofun];refine wpAny_pure ?_;refine wpAny_bind ?_;unfold reRawItems;refine wpAny_bind (wpAny_seqItems h6 h7 (wpAny_pure (wpAny_pure ?_)));dsimp only[Option.getD];rw[h8];exact q
structure ql(code:Array Nat)(f:List Nat->Nat->Option (Nat×Nat)):Prop where
 ends:∀(x:List Nat) start must,x.length<=cap->start<=x.length->∃k,k<4*2^64/\aD (Sre.forSearch code x.toArray 0 start x.toArray.size must) k (f x start)
 sane:∀x start b e,f x start=some (b,e)->start<=b/\b<e/\e<=x.length
noncomputable def j0(f:List Nat->Nat->Option (Nat×Nat))(repl x:List Nat):Nat->Nat->List Nat
 |0,done=>x.drop done
 |n+1,done=>match f x done with
  |some (b,e)=>(x.take b).drop done++(repl++j0 f repl x n e)
  |none=>x.drop done
theorem zM{f:List Nat->Nat->Option (Nat×Nat)}{repl x:List Nat}{n d:Nat}(h:f x d=none):j0 f repl x (n+1) d=x.drop d:=by
 show(match f x d with|some (b,e)=>_|none=>_)=_;rw[h]
theorem Di{f:List Nat->Nat->Option (Nat×Nat)}{repl x:List Nat}{n d b e:Nat}(h:f x d=some (b,e)):j0 f repl x (n+1) d=(x.take b).drop d++(repl++j0 f repl x n e):=by
 show(match f x d with|some (b,e)=>_|none=>_)=_;rw[h]
theorem Bz {code:Array Nat} {f:List Nat->Nat->Option (Nat×Nat)} (F:ql code f) {P:Addr} {x:List Nat} {t:Tok} {start:Nat} {must:Bool} (hx:x.length<=cap) (hs:start<=x.length) {Q:Option Sre.M->Shared->Prop}
 (q:∀m',(match f x start with|some (b,e)=>∃z,m'=some z/\z.start=b/\z.handed=e|none=>m'=none)->Q m' s):wpAny (model prog w) A (reNextFound (target P x t code) start must) Q E s:=by
 obtain⟨k,hk,h⟩:=F.ends x start must hx hs;exact Dh h hk q
theorem jw{x:List Nat}{b e:Nat}(hx:x.length<=cap){Q:Value->Shared->Prop}(q:∀t tk,Q (.str (tx ((x.take e).drop b)) t) { s with toks:=tk }):wpAny (model prog w) A (reSlice x.toArray 0 b e) Q E s:=by
 unfold reSlice;rw[if_pos (by rfl)];have e1:(⟨x.toArray.extract b e⟩:Str)=tx ((x.take e).drop b):=by
  unfold tx
  congr 1
  simp[List.extract_toArray,List.extract_eq_take_drop,List.drop_take]
 rw[e1];refine wpAny_mkStr (q _ _) ?_;rw[aL];refine dD ?_;simp only[List.length_drop,List.length_take];omega
end
end
section
open PySem PySem.W PySem.Calls PyProof.Rows
open PySem.Builtin.Re
section
variable {G:Cfg} {A:Around} {E:Value->Shared->Prop}
theorem nQ:entryFor table "re.Pattern.sub.loop"=some Builtin.«re.Pattern.sub.loop»:=entryFor_of_tree ∅
theorem xy:entryFor table "re.Pattern.sub"=some Builtin.«re.Pattern.sub»:=entryFor_of_tree ∅
structure dL(G:Cfg)(s0 h:Heap)(D:Addr)(ps:List (List Nat)):Prop where
 keep:∀b o,s0.get? b=some o->h.get? b=some o
 new:s0.get? D=none
 at_:∃vs m,h.get? D=some { cls := .type "list",data := .seq vs m }/\Reps G mm h (ps.map V.str) vs.toList
theorem j1{X X':Addr->Prop}{h h':Heap}:∀{ps:List (List Nat)} {vs:List Value},Reps G X h (ps.map V.str) vs->Reps G X' h' (ps.map V.str) vs
 |[],vs,r=>by rw[Reps.nil_iff.mp r];exact Reps.nil
 |p::ps,vs,r=>by
  obtain⟨v,r',rfl,h1,h2⟩:=Reps.cons_iff.mp r;exact Reps.cons (am.str_iff.mpr (am.str_iff.mp h1)) (j1 h2)
theorem rI {s:Shared} {s0:Heap} {D:Addr} {ps:List (List Nat)} {p:List Nat} {t:Tok} (P:dL G s0 s.heap D ps) (hl:ps.length<=4000000) {Q:Unit->Shared->Prop}
 (q:∀h',dL G s0 h' D (ps++[p])->Q () { s with heap:=h' }):wpAny (model G.p G.w) A (updateSeq D (·.push (.str (tx p) t))) Q E s:=by
 obtain⟨vs,m,e,r⟩:=P.at_;have hsz:vs.size<=4000000:=by have:=r.length;rw[List.length_map]at this;rw[<-Array.length_toList];omega
 refine wpAny_updateSeq e rfl (q _ ⟨λb o hb => ?_,P.new, ?_⟩) (by rw[sizeLine_eq];omega) (by rw[sizeLine_eq,Array.size_push];omega)
 ·rw[Heap.get?_update_ne _ _ _ _ (λe'=>by rw[e',P.new]at hb;injections hb)]
  exact P.keep b o hb
 ·refine⟨vs.push (.str (tx p) t),(if(vs.push (.str (tx p) t)).size==vs.size then m else m+1), ?_, ?_⟩
  ·rw[Heap.get?_update_self _ e rfl];rfl
  ·rw[List.map_append,Array.toList_push]
   exact(j1 r).append (Reps.cons (am.str_iff.mpr ⟨t,rfl⟩) Reps.nil)
theorem po(l:List (List Nat)):fc [] l=l.flatten:=by
 induction l using List.casesOn with
 |nil=>rfl
 |cons x l=>rw[jm];simp[List.flatMap_def]
theorem nU:∀l:List (List Nat),(l.map V.str).map lV=l
 |[]=>rfl
 |x::l=>by rw[List.map_cons,List.map_cons,nU l];rfl
theorem BA(l:List (List Nat)):(l.map V.str).all Ax=true:=by
 rw[List.all_eq_true];intro v hv;obtain⟨x,_,rfl⟩:=List.mem_map.mp hv;rfl
theorem tG {s:Shared} {s0:Heap} {D:Addr} {ps:List (List Nat)} {t:Tok} (P:dL G s0 s.heap D ps) (hl:(ps.map List.length).sum<=cap) {Q:Value->Shared->Prop}
 (q:∀t' s',Keeps s s'->Q (.str (tx ps.flatten) t') s'):wpAny (model G.p G.w) A (call (.builtin "str.join") [.str (tx []) t, .ref D]) Q E s:=by
 obtain⟨vs,m,e,r⟩:=P.at_;have rl:am G mm s.heap (.list (ps.map V.str)) (.ref D):=am.list_iff.mpr ⟨D,vs,rfl,λh=>h,⟨_,e,rfl,_,rfl⟩,r⟩;refine y1 (X:=mm) (BA ps) ?_ rl E Q λu s' k hr => ?_
 ·rw[nU];simpa using hl
 ·rw[nU,po]at hr
  obtain⟨t',rfl⟩:=am.str_iff.mp hr;exact q t' s' k
theorem Dj{s:Shared}{s0:Heap}{D:Addr}{ps:List (List Nat)}(P:dL G s0 s.heap D ps){Q:Option (Array Value)->Shared->Prop}(q:∀vs,vs.size=ps.length->Q (some vs) s):wpAny (model G.p G.w) A (seqItems? (.ref D)) Q E s:=by
 obtain⟨vs,m,e,r⟩:=P.at_;refine wpAny_seqItems e rfl (q vs ?_);have:=r.length;rw[List.length_map]at this;rw[<-Array.length_toList];exact this.symm
theorem qm {code:Array Nat} {f:List Nat->Nat->Option (Nat×Nat)} (F:ql code f) {P D:Addr} {x repl:List Nat} {t tr:Tok} {s0:Heap} (hx:x.length<=100000) (hr:repl.length<=2) (hP:fG s0 P code) {R:Result->Shared->Prop} {sb:Shared}
 {done cnt:Nat} {must:Bool} {s:Shared} {ps:List (List Nat)} (hd:done<=x.length) (hl:ps.length<=2*done) (hs:(ps.map List.length).sum<=3*done) (PA:dL G s0 s.heap D ps) (hsame:∃h tk,s={ sb with heap:=h,toks:=tk })
 (hnone:f x done=none->∀t' s',(∃h tk,s'={ sb with heap:=h,toks:=tk }/\∀b o,s0.get? b=some o->h.get? b=some o)->R (.ok (.ret (.str (tx (ps.flatten++x.drop done)) t'))) s')
 (hsome:∀b e,f x done=some (b,e)->∀cnt' must' s' ps',ps'.flatten=ps.flatten++((x.take b).drop done++repl)->ps'.length<=2*e->(ps'.map List.length).sum<=3*e->dL G s0 s'.heap D ps'->(∃h tk,s'={ sb with heap:=h,toks:=tk }) ->
   codeAny (model G.p G.w) A (.builtin "re.Pattern.sub.loop" ⟨[.ref P, .str (tx x) t, .str (tx repl) tr,rawInt 0,rawInt 0,rawInt (cnt':Nat),rawInt e,rawInt e, .bool must', .ref D, .bool false],[]⟩) R s'):
 codeAny (model G.p G.w) A (.builtin "re.Pattern.sub.loop" ⟨[.ref P, .str (tx x) t, .str (tx repl) tr,rawInt 0,rawInt 0,rawInt cnt,rawInt done,rawInt done, .bool must, .ref D, .bool false],[]⟩) R s:=by
 have hcap:x.length<=cap:=by unfold cap;omega
 refine codeAny_builtin nQ ?_;unfold Builtin.«re.Pattern.sub.loop»;dsimp only[rawInt];refine wpAny_bind (tF (hP.keeps PA.keep) ?_);rw[if_pos (by rfl)];refine wpAny_bind ?_;unfold reLiteralCannotBeTurned;refine wpAny_bind (wpAny_pure ?_);rw[if_neg (by simp)];refine wpAny_pure ?_;rw[if_neg (by simp)];refine wpAny_bind (Bz F hcap hd λm' hm => ?_);cases hf:f x done with
 |none=>
  rw[hf]at hm;subst hm;dsimp only;have fin:∀(ps':List (List Nat)) (s':Shared),ps'.flatten=ps.flatten++x.drop done->(ps'.map List.length).sum<=cap->dL G s0 s'.heap D ps'->(∃h tk,s'={ sb with heap:=h,toks:=tk }) ->
   wpAny (model G.p G.w) (A.under (Code.builtin "re.Pattern.sub.loop" ⟨[.ref P, .str (tx x) t, .str (tx repl) tr, .int 0 0, .int 0 0, .int cnt 0, .int done 0, .int done 0, .bool must, .ref D, .bool false],[]⟩))
    (do
      let joiner <-reSlice (target P x t code).text (target P x t code).kind 0 0;let items <-seqItems? (.ref D)
      if(items.getD #[]).isEmpty=true then do
         let text <-pure joiner
         ret text
       else do
        let text <-call (.builtin (if((target P x t code).kind==0)=true then "str.join" else "bytes.join")) [joiner, .ref D]
        ret text)
    (λfin s'=>match fin with
      | .done f=>R (.ok f) s'
      | .again c'=>c'.quiet=true/\codeAny (model G.p G.w) A c' R s') (λe s'=>R (.error e) s') s':=by
   intro ps' s' hfl hsum PA' hsame';have e0:(x.take 0).drop 0=([]:List Nat):=by simp
   refine wpAny_bind (jw hcap λtj tk => ?_);rw[e0];obtain⟨h1,t1,rfl⟩:=hsame';refine wpAny_bind (Dj (s:={ sb with heap:=h1,toks:=tk }) PA' λvs hvs => ?_);dsimp only[Option.getD]
   by_cases he:vs.isEmpty=true
   ·rw[if_pos he]
    have hz:ps'=[]:=by
     have:vs.size=0:=by simpa[Array.isEmpty]using he
     rw[hvs]at this;exact List.length_eq_zero_iff.mp this
    refine wpAny_bind (wpAny_pure (wpAny_pure ?_));have:=hnone hf tj { sb with heap:=h1,toks:=tk } ⟨h1,tk,rfl,PA'.keep⟩;rw[<-hfl,hz]at this;exact this
   ·rw[if_neg he]
    refine wpAny_bind (tG (s:={ sb with heap:=h1,toks:=tk }) PA' hsum λt' s3 k3=>wpAny_pure ?_);rw[hfl];obtain⟨h3,t3,rfl,kk⟩:=k3;exact hnone hf t' _ ⟨h3,t3,rfl,λb o hb=>kk b o (PA'.keep b o hb)⟩
  by_cases hlt:((done:Int)).toNat<(target P x t code).lim
  ·rw[if_pos hlt]
   have hlt':done<x.length:=by simpa[target]using hlt
   refine wpAny_bind (jw hcap λts tk => ?_);have e1:(x.take (target P x t code).lim).drop ((done:Int)).toNat=x.drop done:=by simp[target]
   rw[e1];obtain⟨h1,t1,rfl⟩:=hsame;refine wpAny_bind (rI (s:={ sb with heap:=h1,toks:=tk }) PA ⋯ λh2 PA2 => ?_);refine fin (ps++[x.drop done]) { sb with heap:=h2,toks:=tk } (by simp) ?_ PA2 ⟨h2,tk,rfl⟩;simp only[List.map_append,List.map_cons,List.map_nil,List.sum_append,List.sum_cons,List.sum_nil,List.length_drop];unfold cap;omega
  ·rw[if_neg hlt]
   have hlt':¬done<x.length:=by simpa[target]using hlt
   refine fin ps s (by rw[List.drop_eq_nil_of_le ⋯,List.append_nil]) (by unfold cap;omega) PA hsame
 |some be=>
  obtain⟨b,e⟩:=be;rw[hf]at hm;obtain⟨m,rfl,hb,he⟩:=hm;obtain⟨sa1,sa2,sa3⟩:=F.sane x done b e hf;dsimp only;have hbd:(done:Int).toNat=done:=by simp
  have rest:∀(ps':List (List Nat)) (s':Shared),ps'.flatten=ps.flatten++(x.take b).drop done->ps'.length<=ps.length+1->(ps'.map List.length).sum<=3*done+(b-done)->dL G s0 s'.heap D ps'->(∃h tk,s'={ sb with heap:=h,toks:=tk }) ->
   wpAny (model G.p G.w) (A.under (Code.builtin "re.Pattern.sub.loop" ⟨[.ref P, .str (tx x) t, .str (tx repl) tr, .int 0 0, .int 0 0, .int cnt 0, .int done 0, .int done 0, .bool must, .ref D, .bool false],[]⟩))
    (do
      let item <-pure (.str (tx repl) tr)
      if(item !=Value.none)=true then do
         let _ <-updateSeq D λx=>x.push item
         again (Code.builtin "re.Pattern.sub.loop" ⟨[.ref P, .str (tx x) t, .str (tx repl) tr, .int 0 0, .int 0 0, .int ((cnt:Int)+1) 0, .int (m.handed:Nat) 0, .int (m.handed:Nat) 0, .bool (m.handed==m.start), .ref D, .bool false],[]⟩)
       else again (Code.builtin "re.Pattern.sub.loop" ⟨[.ref P, .str (tx x) t, .str (tx repl) tr, .int 0 0, .int 0 0, .int ((cnt:Int)+1) 0, .int (m.handed:Nat) 0, .int (m.handed:Nat) 0, .bool (m.handed==m.start), .ref D, .bool false],[]⟩))
    (λfin s'=>match fin with
      | .done f=>R (.ok f) s'
      | .again c'=>c'.quiet=true/\codeAny (model G.p G.w) A c' R s') (λe s'=>R (.error e) s') s':=by
   intro ps' s' hfl hlen hsum PA' hsame';refine wpAny_bind (wpAny_pure ?_);rw[if_pos (by rfl)];obtain⟨h1,t1,rfl⟩:=hsame';refine wpAny_bind (rI (s:={ sb with heap:=h1,toks:=t1 }) PA' ⋯ λh2 PA2 => ?_);refine wpAny_pure ⟨Code.quiet_builtin _ (by decide +kernel), ?_⟩;rw[he];refine hsome b e hf (cnt+1) _ { sb with heap:=h2,toks:=t1 } _ ?_ ?_ ?_ PA2 ⟨h2,t1,rfl⟩
   ·simp[hfl]
   ·simp;omega
   ·simp only[List.map_append,List.map_cons,List.map_nil,List.sum_append,List.sum_cons,List.sum_nil];omega
  by_cases hlt:((done:Int)).toNat<m.start
  ·rw[if_pos hlt]
   refine wpAny_bind (jw hcap λts tk => ?_);obtain⟨h1,t1,rfl⟩:=hsame;refine wpAny_bind (rI (s:={ sb with heap:=h1,toks:=tk }) PA ⋯ λh2 PA2 => ?_);rw[hb,hbd]at PA2;refine rest (ps++[(x.take b).drop done]) { sb with heap:=h2,toks:=tk } (by simp) (by simp) ?_ PA2 ⟨h2,tk,rfl⟩;simp only[List.map_append,List.map_cons,List.map_nil,List.sum_append,List.sum_cons,List.sum_nil,List.length_drop,List.length_take];omega
  ·rw[if_neg hlt]
   refine rest ps s ?_ ⋯ ⋯ PA hsame;rw[hb,hbd]at hlt;have:b=done:=⋯;rw[this,List.drop_take];simp
theorem BB{code:Array Nat}{f:List Nat->Nat->Option (Nat×Nat)}(F:ql code f){P D:Addr}{x repl:List Nat}{t tr:Tok}{s0:Heap}(hx:x.length<=100000)(hr:repl.length<=2)(hP:fG s0 P code){R:Result->Shared->Prop}{sb:Shared}:
 ∀(n done cnt:Nat) (must:Bool) (s:Shared) (ps:List (List Nat)),x.length-done<=n->done<=x.length->ps.length<=2*done->(ps.map List.length).sum<=3*done->dL G s0 s.heap D ps->(∃h tk,s={ sb with heap:=h,toks:=tk }) ->
  (∀t' s',(∃h tk,s'={ sb with heap:=h,toks:=tk }/\∀b o,s0.get? b=some o->h.get? b=some o)->R (.ok (.ret (.str (tx (ps.flatten++j0 f repl x (n+1) done)) t'))) s') ->
  codeAny (model G.p G.w) A (.builtin "re.Pattern.sub.loop" ⟨[.ref P, .str (tx x) t, .str (tx repl) tr,rawInt 0,rawInt 0,rawInt cnt,rawInt done,rawInt done, .bool must, .ref D, .bool false],[]⟩) R s:=by
 intro n
 induction n with
 |zero=>
  intro done cnt must s ps hn hd hl hs PA hsame q;refine qm F hx hr hP hd hl hs PA hsame (λhf t' s' h => ?_) λb e hf => ?_
  ·have:=q t' s' h
   rw[zM hf]at this;exact this
  ·have:=F.sane x done b e hf;omega
 |succ n ih=>
  intro done cnt must s ps hn hd hl hs PA hsame q;refine qm F hx hr hP hd hl hs PA hsame (λhf t' s' h => ?_) λb e hf cnt' must' s' ps' h1 h2 h3 PA' hs' => ?_
  ·have:=q t' s' h
   rw[zM hf]at this;exact this
  ·have sa:=F.sane x done b e hf
   refine ih e cnt' must' s' ps' ⋯ sa.2.2 h2 h3 PA' hs' λt' s'' h => ?_
   have:=q t' s'' h;rw[Di hf]at this;rw[h1]
   simpa[List.append_assoc]using this
end
end
section
open PySem PySem.W PySem.Calls PyProof.Rows
open PySem.Builtin.Re
theorem iv:PlainAttrs "re.Pattern":=
 ⟨⟨"object.__getattribute__",by rw[typeLookup_type,builtinLookup_eq_fast];kernel_rfl,by decide +kernel⟩,by rw[typeLookup_type,builtinLookup_eq_fast];kernel_rfl⟩
theorem j2:PySem.Slot "re.Pattern" "sub" "re.Pattern.sub":=
 .of (owner:="re.Pattern") (n:="sub") (by rw[typeLookup_type,builtinLookup_eq_fast];kernel_rfl) (by decide +kernel) (by decide +kernel) (by decide +kernel)
   (by first|exact .inl (by decide +kernel)|exact .inr (by decide +kernel)) (by rw[isSubtype_type];kernel_rfl)
theorem tH:typeOf (.builtin "re.Pattern.sub")=pure (.type "method_descriptor"):=by show builtinType _=_;rw[builtinType_eq_fast];kernel_rfl
theorem zN(a b c:Value):argsOk "re.Pattern.sub" ⟨[a,b,c],[]⟩:=by unfold argsOk;kernel_rfl
theorem tI:typeLookup (.type "str") "__call__"=pure none:=by rw[typeLookup_type,builtinLookup_eq_fast];kernel_rfl
section
variable {G:Cfg} {A:Around} {E:Value->Shared->Prop}
theorem xz(a b:Value):reNamed "re.Pattern.sub" "sub" ["repl","string","count"] 2 [a,b] []=pure [some a,some b,none]:=∅
theorem tJ {code:Array Nat} {f:List Nat->Nat->Option (Nat×Nat)} (F:ql code f) {P:Addr} {x repl:List Nat} {t tr:Tok} {s:Shared} (hx:x.length<=100000) (hr:repl.length<=2) (hb:repl.contains 92=false) (hP:fG s.heap P code) {Q:Value->Shared->Prop}
 (q:∀t' s',Keeps s s'->Q (.str (tx (j0 f repl x (x.length+1) 0)) t') s'):wpAny (model G.p G.w) A (call (.builtin "re.Pattern.sub") [.ref P, .str (tx repl) tr, .str (tx x) t]) Q E s:=by
 obtain⟨o,fs,T,oT,ws,n,h1,hcls,_⟩:=hP.ex;have hT:s.TypeIs (.ref P) "re.Pattern":=⟨o,h1,hcls⟩;refine wpAny_call (codeAny_call_builtin j2.plain xy (j2.check _ _ _ _ _ _ _ _ hT (zN _ _ _) ?_));unfold Builtin.«re.Pattern.sub» reSubstitute;dsimp only;rw[xz];refine wpAny_bind (wpAny_pure ?_);dsimp only;refine wpAny_bind (wpAny_pure ?_);refine wpAny_bind (wpAny_specialOf (typeIs_str _ _ _) tI ?_);rw[if_neg (by simp)];refine wpAny_bind (wpAny_pure ?_);dsimp only;refine wpAny_bind (wpAny_pure ?_);rw[if_neg (by simp)];have hlit:(!(tx repl).cps.contains 92)=true:=by
  show(!(repl.toArray).contains 92)=true
  simpa using hb
 rw[if_pos hlit];refine wpAny_bind (wpAny_pure (wpAny_bind (wpAny_holding (tF hP ?_))));rw[if_neg (by simp)];refine wpAny_bind (wpAny_newList ?_ (by simp[sizeLine_eq]));refine wpAny_pure ⟨Code.quiet_builtin _ (by decide +kernel), ?_⟩;have kp:∀b o,s.heap.get? b=some o->(s.heap.push { cls := .type "list",data := .seq ([]:List Value).toArray }).get? b=some o:=λb o e=>Heap.get?_push_of_some _ e
 refine BB (G:=G) (cnt:=0) F hx hr (s0:=s.heap) hP (sb:=s) x.length 0 false { s with heap:=s.heap.push { cls := .type "list",data := .seq ([]:List Value).toArray } } [] ⋯ ⋯ (by simp) (by simp) ⟨kp, ?_, ?_⟩ ⟨_,_,rfl⟩ λt' s' h => ?_
 ·exact aX _ (Nat.le_refl _)
 ·exact⟨#[],0,Heap.get?_push_size _ rfl,Reps.nil⟩
 ·obtain⟨h',tk,rfl,kk⟩:=h
  exact q t' _ ⟨h',tk,rfl,kk⟩
end
noncomputable def f1(x:List Nat)(start:Nat):Option (Nat×Nat):=(cP x.toArray x.toArray.size (x.toArray.size-start) start).map λb=>(b,b+1)
noncomputable def f2(x:List Nat)(start:Nat):Option (Nat×Nat):=(cQ x.toArray x.toArray.size (x.toArray.size-start) start).map λb=>(b,dK x.toArray x.toArray.size b)
theorem lE{text:Array Nat}{lim:Nat}:∀(n p b:Nat),cP text lim n p=some b->p<=b/\b<lim
 |0,p,b,h=>by
  have h:(if di text lim p=true then some p else none)=some b:=h
  split at h
  ·rename_i hh
   injection h with h;subst h
   unfold di at hh;simp only[Bool.and_eq_true,decide_eq_true_eq]at hh;exact⟨Nat.le_refl _,hh.1.2⟩
  ·injections h
 |n+1,p,b,h=>by
  have h:(if di text lim p=true then some p else cP text lim n (p+1))=some b:=h
  split at h
  ·rename_i hh
   injection h with h;subst h
   unfold di at hh;simp only[Bool.and_eq_true,decide_eq_true_eq]at hh;exact⟨Nat.le_refl _,hh.1.2⟩
  ·have:=lE n (p+1) b h;omega
theorem Dk:ql code1 f1 where
 ends:=λx start must hx hs=>by
  refine⟨5*x.toArray.size+8, ?_,Bw x.toArray start must (by simpa using hs)⟩;have:x.toArray.size=x.length:=by simp
  unfold cap at hx;omega
 sane:=λx start b e h=>by
  unfold f1 at h;cases hf:cP x.toArray x.toArray.size (x.toArray.size-start) start with
  |none=>rw[hf]at h;injections h
  |some c=>
   rw[hf]at h
   injection h with h;injection h with h1 h2
   have:=lE _ _ _ hf;have hz:x.toArray.size=x.length:=by simp
   omega
theorem Dl:ql code2 f2 where
 ends:=λx start must hx hs=>⟨24,⋯,By x.toArray start must (by simpa using hs)⟩
 sane:=λx start b e h=>by
  unfold f2 at h;cases hf:cQ x.toArray x.toArray.size (x.toArray.size-start) start with
  |none=>rw[hf]at h;injections h
  |some c=>
   rw[hf]at h
   injection h with h;injection h with h1 h2
   have:=kQ _ _ _ hf;have hz:x.toArray.size=x.length:=by simp
   subst h1;subst h2;unfold dK
   split
   ·rename_i hc
    simp only[Bool.and_eq_true,decide_eq_true_eq]at hc
    omega
   ·omega
noncomputable def jb(x:List Nat):List Nat:=j0 f2 [13,10] x (x.length+1) 0
noncomputable def wA(x:List Nat):List Nat:=j0 f1 [46,46] x (x.length+1) 0
noncomputable def fQuote:List V->R:=fU (vX λx=>(decide (x.length<=100000)&&decide ((jb x).length<=100000), .str (wA (jb x))))
structure F6(Φ:Fns)(d:Def):Prop where
 body:∃x e1 e2 e3 p1 p2 p3 p4 p5 p6 p7,d.params=[x]/\d.body=[.Return (some (.Call (.Attribute (.Name "_twin_re_1" p1) "sub" p2) [e1, .Call (.Attribute (.Name "_twin_re_2" p3) "sub" p4) [e2,e3] [] p5] [] p6)) p7]/\p2.endLine=p6.line/\p4.endLine=p5.line /\
  ∀s,ev Φ [] 40 d.κ (cK d.κ [(x, .str s)]) e1=(true, .str [46,46])/\ev Φ [] 40 d.κ (cK d.κ [(x, .str s)]) e2=(true, .str [13,10])/\ev Φ [] 40 d.κ (cK d.κ [(x, .str s)]) e3=(true, .str s)
 glob1:aO (kd d.κ (nm "_twin_re_1"))=true
 glob2:aO (kd d.κ (nm "_twin_re_2"))=true
section
variable {G:Cfg} {A:Around} {Φ:Fns}
theorem lF{M:Model}{E:Value->Shared->Prop}{s:Shared}{a b:Sem Value}{Q:List Value->Shared->Prop}(h:wpAny M A a (λu s1=>wpAny M A b (λv s2=>Q [u,v] s2) E s1) E s):wpAny M A (spliced [(false,a),(false,b)]) Q E s:=
 spliced_cons (wpAny_mono h (λu s1 h1=>spliced_cons (wpAny_mono h1 (λv s2 h2=>spliced_nil h2) λ_ _ e=>e)) λ_ _ e=>e)
theorem zO {n:Nat} {a P1 P2:Addr} {d:Def} (hd:cH G a d) (hlim:G.h0.NoLimit) (Fa:∀A,gA n A->aB G A Φ) {mg:Str->Option Value} (hm:G.h0.Ns mainGlobals mg) (h1:mg "_twin_re_1"=some (.ref P1)) (h2:mg "_twin_re_2"=some (.ref P2))
 (p1:fG G.h0 P1 code1) (p2:fG G.h0 P2 code2) (I:F6 Φ d):dJ G (n+1) a fQuote:=λA room=>by
 obtain⟨o,fd,ids0,ho,hdata,_⟩:=hd.ex;refine⟨mr ho hdata,λX s as us old off al r ok E Q q => ?_⟩;obtain⟨x,rfl⟩:∃x,as=[.str x]:=iL (λas _=>∃x,as=[.str x]) ok λv ok=>uH (λv _=>∃x,[v]=[.str x]) ok λx _=>⟨x,rfl⟩
 have ok':(decide (x.length<=100000)&&decide ((jb x).length<=100000))=true:=ok;simp only[Bool.and_eq_true,decide_eq_true_eq]at ok';obtain⟨px,e1,e2,e3,q1,q2,q3,q4,q5,q6,q7,hp,hb,hl1,hl2,hev⟩:=I.body;refine wy hd (by have:=room.depth;omega) hlim old (by rw[hp,<-r.length];rfl) λenv s1 g ids hids en E' => ?_
 have FaB:=Fa _ (room.deeper env);have S1:=en.sta old off al r;rw[hids,hp]at S1;have GE:=(gC (G:=G) (A:=A.deeper env) FaB [] 40 d.κ env X (cK d.κ [(px, .str x)]) en.En).1;obtain⟨v1,v2,v3⟩:=hev x;have st2:starEach [e2,e3] env=[(false,eval e2 env),(false,eval e3 env)]:=by
  rw[gB GE (show(ev Φ [] 40 d.κ (cK d.κ [(px, .str x)]) e2).1=true by rw[v2]),gB GE (show(ev Φ [] 40 d.κ (cK d.κ [(px, .str x)]) e3).1=true by rw[v3])];rfl
 have st1:starEach [e1, .Call (.Attribute (.Name "_twin_re_2" q3) "sub" q4) [e2,e3] [] q5] env=[(false,eval e1 env),(false,eval (.Call (.Attribute (.Name "_twin_re_2" q3) "sub" q4) [e2,e3] [] q5) env)]:=by
  rw[gB GE (show(ev Φ [] 40 d.κ (cK d.κ [(px, .str x)]) e1).1=true by rw[v1])];rfl
 have t1:backTo q6 (starEach [e1, .Call (.Attribute (.Name "_twin_re_2" q3) "sub" q4) [e2,e3] [] q5] env)=[(false,eval e1 env),(false,eval (.Call (.Attribute (.Name "_twin_re_2" q3) "sub" q4) [e2,e3] [] q5) env)]:=by
  rw[st1];rfl
 have t2:backTo q5 (starEach [e2,e3] env)=[(false,eval e2 env),(false,eval e3 env)]:=by
  rw[st2];rfl
 have nodict:∀{P:Addr} {code:Array Nat} {h:Heap},fG h P code->∀b,Value.ref P = .ref b->∃ob,h.get? b=some ob/\ob.dict=none:=λ{P code h} p b e=>by
  injection e with e;subst e
  obtain⟨o,_,_,_,_,_,h1,_,h2,_⟩:=p.ex;exact⟨o,h1,h2⟩
 have tyP:∀{P:Addr} {code:Array Nat} {s:Shared},fG s.heap P code->s.TypeIs (.ref P) "re.Pattern":=λ{P code s} p=>by
  obtain⟨o,_,_,_,_,_,h1,h2,_⟩:=p.ex;exact⟨o,h1,h2⟩
 rw[hb];refine wpAny_execs_cons (wpAny_Return_some ?_);refine wpAny_Call_method_lateS (iO rfl) (by rw[t1];rfl) (by rw[hl1];exact beq_self_eq_true _) (mw FaB en.En hm h1 I.glob1 S1 ?_);refine⟨"re.Pattern","re.Pattern.sub",iv,j2,tH,tyP (p1.keeps S1.old),nodict (p1.keeps S1.old), ?_⟩;rw[t1];refine Calls.callWith_builtin rfl (bZ rfl (lF (GE.ok e1 (by rw[v1]) _ s1 S1 _ _ λu s2 k2 r2 => ?_)));rw[v1]at r2;obtain⟨tu,rfl⟩:=am.str_iff.mp r2;have S2:=S1.keeps (Kp.keep k2);refine wpAny_Call_method_lateS (iO rfl) (by rw[t2];rfl) (by rw[hl2];exact beq_self_eq_true _) (mw FaB en.En hm h2 I.glob2 S2 ?_);refine⟨"re.Pattern","re.Pattern.sub",iv,j2,tH,tyP (p2.keeps S2.old),nodict (p2.keeps S2.old), ?_⟩
 rw[t2];refine Calls.callWith_builtin rfl (bZ rfl (lF (GE.ok e2 (by rw[v2]) _ s2 S2 _ _ λu s3 k3 r3 => ?_)));rw[v2]at r3;obtain⟨tv,rfl⟩:=am.str_iff.mp r3;have S3:=S2.keeps (Kp.keep k3);refine GE.ok e3 (by rw[v3]) _ s3 S3 _ _ λu s4 k4 r4 => ?_
 rw[v3]at r4;obtain⟨tw,rfl⟩:=am.str_iff.mp r4;have S4:=S3.keeps (Kp.keep k4);refine tJ Dl ok'.1 nofun nofun (p2.keeps S4.old) λt5 s5 k5 => ?_
 have S5:=S4.keeps (Kp.keep k5);refine tJ Dk ok'.2 nofun nofun (p1.keeps S5.old) λt6 s6 k6 => ?_
 exact q _ _ (Kp.trans en.keeps (Kp.trans k2 (Kp.trans k3 (Kp.trans k4 (Kp.trans k5 k6))))) (am.str_iff.mpr ⟨t6,rfl⟩)
end
end
section
open PySem PySem.W PySem.Calls PyProof.Rows
noncomputable def cU(ids:List Str)(d:DP):Def:=⟨ids.map nm,d.body,d.scope.names⟩
noncomputable def F7(ids:List Str)(d:DP):Bool:=
 d.scope.kind == .function&&(!d.scope.isCoroutine)&&(!d.scope.isGenerator)&&dT (ids.map nm)&&dT (d.scope.names.map λx=>nm x.1)&&d.scope.names.all (λx=>x.2 != .free && !(x.1==("__debug__":Str)) && !(x.1==("__classdict__":Str))) &&
 ids.all (λx=>d.scope.names.lookup x==some .local||d.scope.names.lookup x==some .cell)
theorem j3{α β:Type}{f:α->β}:∀{l:List α},(l.map f).Nodup->l.Nodup
 |[],_=>List.nodup_nil
 |x::l,h=>by
  rw[List.map_cons,List.nodup_cons]at h;exact List.nodup_cons.mpr ⟨λm=>h.1 (List.mem_map_of_mem m),j3 h.2⟩
theorem cX{o:Obj}{d:DP}{q:Str}{c:Addr}(h:gv o=⟨.type "function",none, .func (fD d q 3 .none (.ref c) 0),⟨[]⟩⟩):∃pm doc,o.cls = .type "function"/\o.data = .func { fD d q 3 pm (.ref c) 0 with doc:=doc }:=by
 obtain⟨cl,dd,dt,sl⟩:=o
 induction dt using Data.casesOn with
 |func f=>
  have h3:({ f with pyModule := .none,doc := .none }:FuncData)=_:=Data.func.inj (congrArg Obj.data h);refine⟨f.pyModule,f.doc,congrArg Obj.cls h, ?_⟩;have:f={ ({ f with pyModule := .none,doc := .none }:FuncData)with pyModule:=f.pyModule,doc:=f.doc }:=rfl;rw[this,h3];rfl
 |_=>exact ad (congrArg (λo:Obj=>Nat.beq o.data.ctorIdx 7) h)
theorem bz {G:Cfg} {a c:Addr} {d:DP} {q:Str} {ids:List Str} (ho:∃o,G.h0.get? a=some o/\gv o=⟨.type "function",none, .func (fD d q 3 .none (.ref c) 0),⟨[]⟩⟩) (hc:G.h0.CodeRec (.ref c) q)
 (hb:∀pm doc (us:List Value),us.length=ids.length->bindArgs { fD d q 3 pm (.ref c) 0 with doc:=doc } ⟨us,[]⟩=pure (ids.zip us)) (ok:F7 ids d=true):cH G a (cU ids d):=by
 obtain⟨o,h1,h2⟩:=ho;obtain⟨pm,doc,h3,h4⟩:=cX h2;unfold F7 at ok;simp only[Bool.and_eq_true,Bool.not_eq_true',List.all_eq_true,Bool.or_eq_true,beq_iff_eq,bne_iff_ne,ne_eq]at ok;obtain⟨⟨⟨⟨⟨⟨k1,k2⟩,k3⟩,k4⟩,k5⟩,k6⟩,k7⟩:=ok;refine⟨⟨o,_,ids,h1,h4,hc,rfl,rfl,rfl,k1,k2,k3,rfl,rfl,rfl,j3 (nodup_iff.mp k4),hb pm doc,λx hx=>k7 x hx⟩,nodup_iff.mp k5,λx m => ?_,λx k m => ?_⟩
 ·exact(k6 _ m).1.1 rfl
 ·exact⟨(k6 _ m).1.2,(k6 _ m).2⟩
theorem lG{P:List Value->Prop}(h:∀u,P [u])(us:List Value)(e:us.length=1):P us:=by
 induction us using List.casesOn with
 |nil=>injections e
 |cons u r=>induction r using List.casesOn with
  |nil=>exact h u
  |cons _ _=>injections e
theorem qo{P:List Value->Prop}(h:∀u v,P [u,v])(us:List Value)(e:us.length=2):P us:=by
 induction us using List.casesOn with
 |nil=>injections e
 |cons u r=>exact lG (P:=λr=>P (u::r)) (h u) r (Nat.succ.inj e)
theorem zP{P:List Value->Prop}(h:∀u v w,P [u,v,w])(us:List Value)(e:us.length=3):P us:=by
 induction us using List.casesOn with
 |nil=>injections e
 |cons u r=>exact qo (P:=λr=>P (u::r)) (h u) r (Nat.succ.inj e)
theorem said{l:jH}{m:Str->Option Value}(x:∀e∈l,(m e.1).map bQ=e.2){n:Str}{v:Option Value}(e:l.lookup n=some v):(m n).map bQ=v:=x (n,v) (mem_of_lookup e)
theorem aJ{v:Option Value}(e:v.map bQ=none):v=none:=by
 induction v using Option.casesOn with
 |none=>rfl
 |some v=>injections e
theorem iU{v:Option Value}{a:Addr}(e:v.map bQ=some (.ref a)):v=some (.ref a):=by
 induction v using Option.casesOn with
 |none=>injections e
 |some v=>
  exact congrArg some (jf rfl (Option.some.inj e))
theorem ft{v:Option Value}{a:String}(e:v.map bQ=some (.builtin a)):v=some (.builtin a):=by
 induction v using Option.casesOn with
 |none=>injections e
 |some v=>
  exact congrArg some (jf rfl (Option.some.inj e))
theorem iw{v:Option Value}{a:String}(e:v.map bQ=some (.type a)):v=some (.type a):=by
 induction v using Option.casesOn with
 |none=>injections e
 |some v=>
  exact congrArg some (jf rfl (Option.some.inj e))
theorem jx{v:Option Value}{x:Str}(e:v.map bQ=some (.str x 0)):∃t,v=some (.str x t):=by
 induction v using Option.casesOn with
 |none=>injections e
 |some v=>
  rw[Option.map_some]at e
  injection e with e
  obtain⟨t,rfl⟩:=pB e;exact⟨t,rfl⟩
theorem f7{v:Option Value}{i:Int}(e:v.map bQ=some (.int i 0)):∃t,v=some (.int i t):=by
 induction v using Option.casesOn with
 |none=>injections e
 |some v=>
  have e:=Option.some.inj e
  induction v using Value.casesOn with
  |int j t=>exact⟨t,congrArg (λj=>some (Value.int j t)) (Value.int.inj e).1⟩
  |_=>exact ad (congrArg (λv:Value=>Nat.beq v.ctorIdx 4) e)
theorem Gb{α:Type}{l:List α}(h:l.length=6):∃a b c d e f,l=[a,b,c,d,e,f]:=by
 obtain⟨a,l,rfl⟩:=List.exists_cons_of_length_eq_add_one h;obtain⟨b,l,rfl⟩:=List.exists_cons_of_length_eq_add_one (Nat.succ.inj h);obtain⟨c,l,rfl⟩:=List.exists_cons_of_length_eq_add_one (Nat.succ.inj (Nat.succ.inj h));obtain⟨d,l,rfl⟩:=List.exists_cons_of_length_eq_add_one (Nat.succ.inj (Nat.succ.inj (Nat.succ.inj h)));obtain⟨e,l,rfl⟩:=List.exists_cons_of_length_eq_add_one (Nat.succ.inj (Nat.succ.inj (Nat.succ.inj (Nat.succ.inj h))));obtain⟨f,l,rfl⟩:=List.exists_cons_of_length_eq_add_one (Nat.succ.inj (Nat.succ.inj (Nat.succ.inj (Nat.succ.inj (Nat.succ.inj h)))));exact⟨a,b,c,d,e,f,by rw[List.eq_nil_of_length_eq_zero (l:=l) (Nat.succ.inj (Nat.succ.inj (Nat.succ.inj (Nat.succ.inj (Nat.succ.inj (Nat.succ.inj h))))))]⟩
theorem rJ{o:Obj}{C N:Addr}{nm' q:Str}(h:gv o=⟨.type "type",none, .cls { name:=nm',bases:=[.type "object"],mro:=[.ref C, .type "object"],ns:=N,qualname:=q,hasDict:=true,slotNames:=[],subclasses:=[],abstract:=false,collection:=none,hasDel:=false },⟨[some (.builtin "object.__new__")]⟩⟩):
 ∃k0 k1 k2 k3 k5,o=excClassObj nm' q C N [.type "object"] [.type "object"] true [] [] false none none k0 k1 k2 k3 k5 "object.__new__":=by
 obtain⟨cl,dd,dt,sl⟩:=o
 induction dt using Data.casesOn with
 |cls c=>
  obtain⟨l⟩:=sl;have h4:je ⟨l⟩=_:=congrArg Obj.slots h;have h1:cl=_:=congrArg Obj.cls h;have h2:dd=_:=congrArg Obj.dict h;have h3:c=_:=Data.cls.inj (congrArg Obj.data h);unfold je at h4;cases hl:Nat.beq (Array.mk l).toList.length 6 with
  |false=>rw[hl]at h4;exact ad (congrArg (λa:Array (Option Value)=>Nat.beq a.toList.length 1) h4)
  |true=>
   rw[hl]at h4;obtain⟨k0,k1,k2,k3,k,k5,rfl⟩:=Gb (Nat.eq_of_beq_eq_true hl);have h4:k=_:=(List.cons.inj (congrArg Array.toList h4)).1;subst h1;subst h2;subst h3;subst h4;exact⟨k0,k1,k2,k3,k5,rfl⟩
 |_=>exact ad (congrArg (λo:Obj=>Nat.beq o.data.ctorIdx 8) h)
open PySem.Builtin.Re in
theorem xA(v:Value):reRawOf (bQ v)=reRawOf v/\reRawNat (bQ v)=reRawNat v:=by induction v using Value.casesOn<;>exact⟨rfl,rfl⟩
open PySem.Builtin.Re in
theorem j4 {h:Heap} {P T:Addr} {fs ws:List Value} {code:Array Nat} (hP:∃o,h.get? P=some o/\gv o=⟨.type "re.Pattern",none, .fields ⟨fs⟩,⟨[]⟩⟩) (hT:∃o,h.get? T=some o/\gv o=⟨.type "tuple",none, .seq ⟨ws⟩ 0,⟨[]⟩⟩)
 (h5:fs[5]? = some (.ref T)) (h2:fs[2]? = some (.int 0 0)) (h6:fs[6]? = some (.int 0 0)) (hc:(ws.map reRawOf).map (·.toNat)=code.toList):fG h P code:=by
 obtain⟨o,ho,eo⟩:=hP;obtain⟨oT,hoT,eT⟩:=hT;obtain⟨cl,dd,dt,sl⟩:=o;obtain⟨cl',dd',dt',sl'⟩:=oT;obtain⟨vs,rfl,c3⟩:∃vs,dt = .fields vs/\vs.toList.map bQ=fs:=by
  induction dt using Data.casesOn with
  |fields vs=>exact⟨vs,rfl,congrArg Array.toList (Data.fields.inj (congrArg Obj.data eo))⟩
  |_=>exact ad (congrArg (λo:Obj=>Nat.beq o.data.ctorIdx 9) eo)
 obtain⟨us,m,rfl,b3⟩:∃us m,dt' = .seq us m/\us.toList.map bQ=ws:=by
  induction dt' using Data.casesOn with
  |seq us m=>exact⟨us,m,rfl,congrArg Array.toList (Data.seq.inj (congrArg Obj.data eT)).1⟩
  |_=>exact ad (congrArg (λo:Obj=>Nat.beq o.data.ctorIdx 2) eT)
 have c1:cl=_:=congrArg Obj.cls eo;have c2:dd=_:=congrArg Obj.dict eo;have at_:∀i,(vs.toList[i]?).map bQ=fs[i]? := λi=>by rw[<-c3,List.getElem?_map]
 have get:∀i,vs.getD i .none=(vs.toList[i]?).getD .none:=λi=>by simp[Array.getD_eq_getD_getElem?]
 refine⟨_,vs,T,_,us,m,ho,c1,c2,rfl, ?_, ?_, ?_,hoT,rfl, ?_⟩
 ·rw[get]
  have e5:=at_ 5;rw[h5]at e5;rw[iU e5];rfl
 ·rw[get]
  have e2:=at_ 2;rw[h2]at e2;obtain⟨t,e⟩:=f7 e2;rw[e];rfl
 ·rw[get]
  have e6:=at_ 6;rw[h6]at e6;obtain⟨t,e⟩:=f7 e6;rw[e];rfl
 ·apply Array.ext'
  rw[<-hc,<-b3];simp only[Array.toList_map,List.map_map]
  congr 1
  funext v
  simp only[Function.comp_apply];rw[(xA v).1]
noncomputable def kR(L:List (Int×Value))(k:Int):Bool:=L.any λe=>Value.isInt k e.2
theorem tK(k:Int)(v:Value):Value.isInt k (bQ v)=Value.isInt k v:=by induction v using Value.casesOn<;>rfl
theorem rK {prog:Program} {w:World} {h:Heap} {a:Addr} {L:List (Int×Value)} {t:SetTable} (ho:∃o,h.get? a=some o/\gv o=⟨.type "set",none, .set ⟨L⟩ 0 t,⟨[]⟩⟩)
 (hL:L.all (λe=>match e.2 with| .int i _=>e.1==PySem.hashInt i|_=>false)=true) (ht:t.fits L.length=true) (hn:L.length<scanBound):h.SetOf (intKind prog w) a (kR L) L.length:=by
 obtain⟨o,ho,eo⟩:=ho;obtain⟨cl,dd,dt,sl⟩:=o;obtain⟨es,ep,tt,rfl,c3,c4⟩:∃es ep tt,dt = .set es ep tt/\es.toList.map (λe=>(e.1,bQ e.2))=L/\({ tt with led:=true }:SetTable)=t:=by
  induction dt using Data.casesOn with
  |set es ep tt=>exact⟨es,ep,tt,rfl,congrArg Array.toList (Data.set.inj (congrArg Obj.data eo)).1,(Data.set.inj (congrArg Obj.data eo)).2.2⟩
  |_=>exact ad (congrArg (λo:Obj=>Nat.beq o.data.ctorIdx 4) eo)
 have c1:cl=_:=congrArg Obj.cls eo;have c2:dd=_:=congrArg Obj.dict eo;have c5:sl=_:=congrArg Obj.slots eo;have len:es.size=L.length:=by rw[<-c3,List.length_map,Array.length_toList]
 refine⟨_,es,ep,tt,ho,⟨c1,c2,c5⟩,rfl,λe he => ?_,λk => ?_,⋯, ?_,len⟩
 ·have hm:(e.1,bQ e.2)∈L:=by rw[<-c3];exact List.mem_map.mpr ⟨e,he,rfl⟩
  have:=List.all_eq_true.mp hL _ hm;dsimp only at this;cases hv:e.2 with
  |int i t0=>
   rw[hv]at this;refine⟨⟨i,by simp[intKind,Value.isInt],eq_of_beq this⟩,rfl⟩
  |_=>rw[hv]at this;injections this
 ·unfold kR
  rw[<-c3,List.any_map,List.any_eq_true];refine exists_congr λe=>and_congr_right λ_ => ?_
  show Value.isInt k (bQ e.2)=true↔Value.isInt k e.2=true;rw[tK]
 ·have h2:({ tt with led:=true }:SetTable).fits L.length=true:=by rw[c4];exact ht
  rw[len];exact h2
end
section
open PySem PySem.W
section
variable {Φ:Fns} {τ:Tau} {μ:List Nm} {W n:Nat} {κ:List (Str×NameKind)} {ρ ρ':Rho} {rest:List Stmt} {res:Res} {p:Pos}
theorem cw{ts:List Expr}{e:Expr}(h:ei (ev Φ τ 40 κ (freeze (aK 40 e) ρ)) κ μ (freeze (aK 40 e) ρ) ts e=(true, .next ρ'))(h2:ex Φ τ μ W κ n rest ρ'=res):ex Φ τ μ W κ (n+1) (.Assign ts e p::rest) ρ=res:=by
 show seq (ei (ev Φ τ 40 κ (freeze (aK 40 e) ρ)) κ μ (freeze (aK 40 e) ρ) ts e) (ex Φ τ μ W κ n rest)=res;rw[h,<-h2];rfl
theorem zQ{t e:Expr}{op:Operator}(h:sH (ev Φ τ 40 κ (freeze (aK 40 e) ρ)) κ Φ (freeze (aK 40 e) ρ) t op e=(true, .next ρ'))(h2:ex Φ τ μ W κ n rest ρ'=res):ex Φ τ μ W κ (n+1) (.AugAssign t op e p::rest) ρ=res:=by
 show seq (sH (ev Φ τ 40 κ (freeze (aK 40 e) ρ)) κ Φ (freeze (aK 40 e) ρ) t op e) (ex Φ τ μ W κ n rest)=res;rw[h,<-h2];rfl
theorem Dm {x:Str} {a:Expr} {l:List V} {v:V} {q1 q2 q:Pos} (hq:(q1.endLine==q2.line)=true) (hl:lk (freeze (gz (aK 40) [a]) ρ) (nm x) = .own l) (h:ev Φ τ 40 κ (freeze (gz (aK 40) [a]) ρ) a=(true,v)) (hx:af (kd κ (nm x))=true) (hc:l.length<=cap)
 (hρ:put (freeze (gz (aK 40) [a]) ρ) (nm x) (.own (l++[v]))=ρ') (h2:ex Φ τ μ W κ n rest ρ'=res):ex Φ τ μ W κ (n+1) (.Expr (.Call (.Attribute (.Name x q) "append" q1) [a] [] q2) p::rest) ρ=res:=by
 show seq (Ee (ev Φ τ 40 κ (freeze (gz (aK 40) [a]) ρ)) κ (freeze (gz (aK 40) [a]) ρ) (bif ag (nm "append") (nm "append")&&(q1.endLine==q2.line)&&true&&true then some (x,a)else none)) (ex Φ τ μ W κ n rest)=res;rw[hq,au.mpr rfl];show seq (AQ (af (kd κ (nm x))) (freeze (gz (aK 40) [a]) ρ) (nm x) (ev Φ τ 40 κ (freeze (gz (aK 40) [a]) ρ) a) (lk (freeze (gz (aK 40) [a]) ρ) (nm x))) (ex Φ τ μ W κ n rest)=res;rw[hl,h,hx];show seq (true&&true&&decide (l.length<=cap), .next (put (freeze (gz (aK 40) [a]) ρ) (nm x) (.own (l++[v])))) (ex Φ τ μ W κ n rest)=res;rw[decide_eq_true hc,hρ,<-h2];rfl
theorem dW{e:Expr}{v:V}(h:ev Φ τ 40 κ (freeze (aK 40 e) ρ) e=(true,v)):ex Φ τ μ W κ (n+1) (.Return (some e) p::rest) ρ=(true, .ret v):=by
 show((ev Φ τ 40 κ (freeze (aK 40 e) ρ) e).1,fV.ret (ev Φ τ 40 κ (freeze (aK 40 e) ρ) e).2)=_;rw[h]
theorem cV:ex Φ τ μ W κ (n+1) [] ρ=(true, .next ρ):=rfl
theorem eQ{t:Expr}{a b:List Stmt}{v:V}{c:Bool}(hp:(bf a&&bf b&&ay (fits 20) a&&ay (fits 20) b)=false)(h:ev Φ τ 40 κ (freeze (aK 40 t) ρ) t=(true,v))(hv:aa v=(true,c))(hr:ex Φ τ μ W κ n ((bif c then a else b)++rest) (freeze (aK 40 t) ρ)=res):
 ex Φ τ μ W κ (n+1) (.If t a b p::rest) ρ=res:=by
 show(bif (bf a&&bf b&&ay (fits 20) a&&ay (fits 20) b)then _ else jM ((ev Φ τ 40 κ (freeze (aK 40 t) ρ) t).1&&(aa (ev Φ τ 40 κ (freeze (aK 40 t) ρ) t).2).1) (aa (ev Φ τ 40 κ (freeze (aK 40 t) ρ) t).2).2
  (ex Φ τ μ W κ n (a++rest) (freeze (aK 40 t) ρ)) (ex Φ τ μ W κ n (b++rest) (freeze (aK 40 t) ρ)):Res)=res
 rw[hp,h,cond_false,hv];unfold jM
 induction c using Bool.casesOn with
 |true=>rw[<-hr];simp
 |false=>rw[<-hr];simp
theorem rL {t:Expr} {a b:List Stmt} {v:V} {c:Bool} {ρa ρb:Rho} {fa fb:Bool} (hp:(bf a&&bf b&&ay (fits 20) a&&ay (fits 20) b)=true) (h:ev Φ τ 40 κ (freeze (aK 40 t) ρ) t=(true,v)) (hv:aa v=(true,c))
 (ha:ex Φ τ μ W κ n a (freeze (aK 40 t) ρ)=(fa, .next ρa)) (hb:ex Φ τ μ W κ n b (freeze (aK 40 t) ρ)=(fb, .next ρb)) (hf:(bif c then fa else fb)=true)
 (hr:ex Φ τ μ W κ n rest (gQ (aM (d9 20) a++aM (d9 20) b) c ρa ρb)=res):ex Φ τ μ W κ (n+1) (.If t a b p::rest) ρ=res:=by
 show(bif (bf a&&bf b&&ay (fits 20) a&&ay (fits 20) b)then seq (pG (aM (d9 20) a++aM (d9 20) b) ((ev Φ τ 40 κ (freeze (aK 40 t) ρ) t).1&&(aa (ev Φ τ 40 κ (freeze (aK 40 t) ρ) t).2).1)
  (aa (ev Φ τ 40 κ (freeze (aK 40 t) ρ) t).2).2 (ex Φ τ μ W κ n a (freeze (aK 40 t) ρ)) (ex Φ τ μ W κ n b (freeze (aK 40 t) ρ))) (ex Φ τ μ W κ n rest)else _:Res)=res
 rw[hp,cond_true,h,hv,ha,hb];unfold pG seq;dsimp only;rw[hr,hf];simp
theorem nV{t:Expr}{b:List Stmt}{ρ':Rho}(h:bR (λρ=>ev Φ τ 40 κ ρ t) (ex Φ τ μ W κ n b) W (freeze (aK 40 t) ρ)=(true, .next ρ'))(h2:ex Φ τ μ W κ n rest ρ'=res):ex Φ τ μ W κ (n+1) (.While t b [] p::rest) ρ=res:=by
 show seq (bR (λρ=>ev Φ τ 40 κ ρ t) (ex Φ τ μ W κ n b) W (freeze (aK 40 t) ρ)) (ex Φ τ μ W κ n rest)=res;rw[h,<-h2];rfl
theorem rM {t it:Expr} {b:List Stmt} {ρ':Rho} {xs:List V} (hi:aR κ (ev Φ τ 40 κ (freeze (aK 40 it) ρ)) t it=(true,xs)) (ht:(aC t).all (λx=>af (kd κ x))=true)
 (h:bY (λv ρ=>((bh t v ρ).1&&(ex Φ τ μ W κ n b (bh t v ρ).2).1,(ex Φ τ μ W κ n b (bh t v ρ).2).2)) (freeze (aK 40 it) ρ) xs (freeze (aK 40 it) ρ)=(true, .next ρ')) (h2:ex Φ τ μ W κ n rest ρ'=res):ex Φ τ μ W κ (n+1) (.For t it b [] p::rest) ρ=res:=by
 show seq ((aR κ (ev Φ τ 40 κ (freeze (aK 40 it) ρ)) t it).1&&(aC t).all (λx=>af (kd κ x))&&(bY (λv ρ=>((bh t v ρ).1&&(ex Φ τ μ W κ n b (bh t v ρ).2).1,(ex Φ τ μ W κ n b (bh t v ρ).2).2)) (freeze (aK 40 it) ρ) (aR κ (ev Φ τ 40 κ (freeze (aK 40 it) ρ)) t it).2 (freeze (aK 40 it) ρ)).1,
  (bY (λv ρ=>((bh t v ρ).1&&(ex Φ τ μ W κ n b (bh t v ρ).2).1,(ex Φ τ μ W κ n b (bh t v ρ).2).2)) (freeze (aK 40 it) ρ) (aR κ (ev Φ τ 40 κ (freeze (aK 40 it) ρ)) t it).2 (freeze (aK 40 it) ρ)).2) (ex Φ τ μ W κ n rest)=res
 rw[hi,ht,h,<-h2];rfl
theorem nX {t it:Expr} {b:List Stmt} {v:V} {xs:List V} (hi:aR κ (ev Φ τ 40 κ (freeze (aK 40 it) ρ)) t it=(true,xs)) (ht:(aC t).all (λx=>af (kd κ x))=true)
 (h:bY (λv ρ=>((bh t v ρ).1&&(ex Φ τ μ W κ n b (bh t v ρ).2).1,(ex Φ τ μ W κ n b (bh t v ρ).2).2)) (freeze (aK 40 it) ρ) xs (freeze (aK 40 it) ρ)=(true, .ret v)):ex Φ τ μ W κ (n+1) (.For t it b [] p::rest) ρ=(true, .ret v):=by
 show seq ((aR κ (ev Φ τ 40 κ (freeze (aK 40 it) ρ)) t it).1&&(aC t).all (λx=>af (kd κ x))&&(bY (λv ρ=>((bh t v ρ).1&&(ex Φ τ μ W κ n b (bh t v ρ).2).1,(ex Φ τ μ W κ n b (bh t v ρ).2).2)) (freeze (aK 40 it) ρ) (aR κ (ev Φ τ 40 κ (freeze (aK 40 it) ρ)) t it).2 (freeze (aK 40 it) ρ)).1,
  (bY (λv ρ=>((bh t v ρ).1&&(ex Φ τ μ W κ n b (bh t v ρ).2).1,(ex Φ τ μ W κ n b (bh t v ρ).2).2)) (freeze (aK 40 it) ρ) (aR κ (ev Φ τ 40 κ (freeze (aK 40 it) ρ)) t it).2 (freeze (aK 40 it) ρ)).2) (ex Φ τ μ W κ n rest)=_
 rw[hi,ht,h];rfl
theorem fu{f:V->Rho->Res}{ρ0 ρ1:Rho}{x:V}{xs:List V}{r:Res}(h:f x ρ=(true, .next ρ1))(h2:bY f ρ0 xs (mask ρ0 ρ1)=r):bY f ρ0 (x::xs) ρ=r:=by
 rw[ia,h];subst h2;rfl
theorem BC{f:V->Rho->Res}{ρ0 ρ1:Rho}{x:V}{xs:List V}(h:f x ρ=(true, .brk ρ1)):bY f ρ0 (x::xs) ρ=(true, .next (mask ρ0 ρ1)):=by
 rw[ia,h]
theorem wB{f:V->Rho->Res}{ρ0:Rho}{x v:V}{xs:List V}(h:f x ρ=(true, .ret v)):bY f ρ0 (x::xs) ρ=(true, .ret v):=by
 rw[ia,h]
theorem nY{t:Rho->R}{f:Rho->Res}{ρ1:Rho}{v:V}{r:Res}(ht:t ρ=(true,v))(hv:aa v=(true,true))(h:f ρ=(true, .next ρ1))(h2:bR t f n ρ1=r):bR t f (n+1) ρ=r:=by
 rw[jL,ht,show aa ((true,v):R).2=_ from hv,h];subst h2;rfl
theorem qq{t:Rho->R}{f:Rho->Res}{v:V}(ht:t ρ=(true,v))(hv:aa v=(true,false)):bR t f (n+1) ρ=(true, .next ρ):=by
 rw[jL,ht,show aa ((true,v):R).2=_ from hv];rfl
variable {N:Nat} {v x y z:V}
theorem FP{a:R}(h1:a.1=true)(h2:a.2=v):a=(true,v):=by rw[<-h1,<-h2]
theorem ck{E:Expr->R}{e:Expr}(h:E e=(true,v)):gR E (some e)=(true,v):=h
theorem aE{o:Expr}{lo hi stp:Option Expr}{p q:Pos}{a b c:V}(ho:ev Φ τ N κ ρ o=(true,x))(hl:gR (ev Φ τ N κ ρ) lo=(true,a))(hh:gR (ev Φ τ N κ ρ) hi=(true,b))(hs:gR (ev Φ τ N κ ρ) stp=(true,c))(hr:eC x a b c=(true,v)):
 ev Φ τ (N+1) κ ρ (.Subscript o (.Slice lo hi stp p) q)=(true,v):=by
 show(let x:=ev Φ τ N κ ρ o;let a:=gR (ev Φ τ N κ ρ) lo;let b:=gR (ev Φ τ N κ ρ) hi;let c:=gR (ev Φ τ N κ ρ) stp;let r:=eC x.2 a.2 b.2 c.2;((x.1&&a.1&&b.1&&c.1&&r.1,r.2):R))=_;simp only[ho,hl,hh,hs,hr,Bool.and_self]
noncomputable def EA(τ:Tau)(o:Expr):Nat:=match o with
 | .Name x _=>Ec τ (nm x)
 |_=>0
noncomputable def ix:Expr->Bool
 | .Slice _ _ _ _=>true
 |_=>false
theorem xB{E:Ev}{τ:Tau}{o i:Expr}(h:ix i=false):wa E τ κ ρ o i=mQ E τ κ ρ o i:=by
 induction i using Expr.casesOn<;>first|rfl|exact ad h.symm
theorem ah{o i:Expr}{q:Pos}{ty:Nat}(hi:ix i=false)(ho:look κ ρ (ev Φ τ N κ ρ) o=(true,x))(hy:ev Φ τ N κ ρ i=(true,y))(ht:EA τ o=ty)(hr:gV ty x y=(true,v)):
 ev Φ τ (N+1) κ ρ (.Subscript o i q)=(true,v):=by
 have e:ev Φ τ (N+1) κ ρ (.Subscript o i q)=mQ (ev Φ τ N) τ κ ρ o i:=xB hi;rw[e];subst ht;show(let x:=look κ ρ (ev Φ τ N κ ρ) o;let y:=ev Φ τ N κ ρ i;let r:=gV (EA τ o) x.2 y.2;((x.1&&y.1&&r.1,r.2):R))=_;simp only[ho,hy,hr,Bool.and_self]
theorem f8{a:Str}{l:List V}{p:Pos}{E:Expr->R}(h:lk ρ (nm a) = .own l)(hn:af (kd κ (nm a))=true):look κ ρ E (.Name a p)=(true, .list l):=by
 show sE _ _ (lk ρ (nm a))=_;rw[h,hn];rfl
theorem aF{a:Str}{p:Pos}{E:Expr->R}(h:E (.Name a p)=(true,v))(hn:∀l,lk ρ (nm a) ≠ .own l):look κ ρ E (.Name a p)=(true,v):=by
 show sE _ _ (lk ρ (nm a))=_;generalize lk ρ (nm a)=t at hn
 induction t using Mine.Slot.casesOn with
 |own l=>exact absurd rfl (hn l)
 |_=>exact h
theorem look_other{e:Expr}{E:Expr->R}(he:dg e=false)(h:E e=(true,v)):look κ ρ E e=(true,v):=by
 exact(sM he).trans h
theorem ev_add{a b:Expr}{p:Pos}(ha:look κ ρ (ev Φ τ N κ ρ) a=(true,x))(hb:ev Φ τ N κ ρ b=(true,y))(hr:de .Add x y=(true,v)):ev Φ τ (N+1) κ ρ (.BinOp a .Add b p)=(true,v):=by
 show(let x:=look κ ρ (ev Φ τ N κ ρ) a;let y:=ev Φ τ N κ ρ b;let r:=de .Add x.2 y.2;((x.1&&y.1&&r.1,r.2):R))=_;simp only[ha,hb,hr,Bool.and_self]
theorem ev_bin{a b:Expr}{op:Operator}{p:Pos}(hop:op ≠ .Add)(ha:ev Φ τ N κ ρ a=(true,x))(hb:ev Φ τ N κ ρ b=(true,y))(hr:de op x y=(true,v)):ev Φ τ (N+1) κ ρ (.BinOp a op b p)=(true,v):=by
 show pC (ev Φ τ N) κ ρ a op b=_;unfold pC
 induction op using Operator.casesOn<;>first|exact absurd rfl hop|simp only[ha,hb,hr,Bool.and_self]
theorem ev_cmp{a b:Expr}{op:CmpOp}{p:Pos}{c:Bool}(hop:op ≠ .In)(ha:ev Φ τ N κ ρ a=(true,x))(hb:ev Φ τ N κ ρ b=(true,y))(hr:oZ op x y=(true,c)):ev Φ τ (N+1) κ ρ (.Compare a [op] [b] p)=(true, .bool c):=by
 show gy (ev Φ τ N κ ρ) a op b=_;unfold gy;simp only[ha,hb,hr,Bool.and_self]
theorem fM{es:List Expr}{p:Pos}(h:fT (ev Φ τ N κ ρ) es=(true,v)):ev Φ τ (N+1) κ ρ (.BoolOp .And es p)=(true,v):=h
theorem gT{es:List Expr}{p:Pos}(h:pe (ev Φ τ N κ ρ) es=(true,v)):ev Φ τ (N+1) κ ρ (.BoolOp .Or es p)=(true,v):=h
theorem iV{E:Expr->R}{e:Expr}{r:R}(h:E e=r):fT E [e]=r:=h
theorem eJ{E:Expr->R}{e e':Expr}{es:List Expr}{r:R}(h:E e=(true,x))(hv:aa x=(true,true))(h2:fT E (e'::es)=r):fT E (e::e'::es)=r:=by
 show(let x:=E e;let c:=aa x.2;let r:=fT E (e'::es);((x.1&&c.1&&(bif c.2 then r.1 else true),dy c.2 r.2 x.2):R))=r;simp only[h,hv,h2,bD,cond_true,Bool.and_self,Bool.true_and]
theorem f9{E:Expr->R}{e e':Expr}{es:List Expr}(h:E e=(true,x))(hv:aa x=(true,false)):fT E (e::e'::es)=(true,x):=by
 show(let x:=E e;let c:=aa x.2;let r:=fT E (e'::es);((x.1&&c.1&&(bif c.2 then r.1 else true),dy c.2 r.2 x.2):R))=_;simp only[h,hv,bD,cond_false,Bool.and_self]
theorem rN{E:Expr->R}{e:Expr}{r:R}(h:E e=r):pe E [e]=r:=h
theorem wC{E:Expr->R}{e e':Expr}{es:List Expr}{r:R}(h:E e=(true,x))(hv:aa x=(true,false))(h2:pe E (e'::es)=r):pe E (e::e'::es)=r:=by
 show(let x:=E e;let c:=aa x.2;let r:=pe E (e'::es);((x.1&&c.1&&(bif c.2 then true else r.1),dy c.2 x.2 r.2):R))=r;simp only[h,hv,h2,bD,cond_false,Bool.and_self,Bool.true_and]
theorem mx{E:Expr->R}{e e':Expr}{es:List Expr}(h:E e=(true,x))(hv:aa x=(true,true)):pe E (e::e'::es)=(true,x):=by
 show(let x:=E e;let c:=aa x.2;let r:=pe E (e'::es);((x.1&&c.1&&(bif c.2 then true else r.1),dy c.2 x.2 r.2):R))=_;simp only[h,hv,bD,cond_true,Bool.and_self]
theorem vt{a:Expr}{p:Pos}{c:Bool}(h:ev Φ τ N κ ρ a=(true,x))(hv:aa x=(true,c)):ev Φ τ (N+1) κ ρ (.UnaryOp .Not a p)=(true, .bool (!c)):=by
 show(let x:=ev Φ τ N κ ρ a;let r:=E8 .Not x.2;((x.1&&r.1,r.2):R))=_;rw[h];show((true&&(aa x).1,V.bool (!(aa x).2)):R)=_;rw[hv];rfl
theorem zR{t a b:Expr}{p:Pos}{c:Bool}(ht:ev Φ τ N κ ρ t=(true,x))(hv:aa x=(true,c))(h:ev Φ τ N κ ρ (bif c then a else b)=(true,v)):ev Φ τ (N+1) κ ρ (.IfExp t a b p)=(true,v):=by
 show pf (ev Φ τ N κ ρ) t a b=_;unfold pf;simp only[ht,hv,bD]
 induction c using Bool.casesOn<;>simp only[cond_true,cond_false,Bool.and_self,Bool.true_and]at h |- <;> rw[h]
theorem evL_nil{E:Expr->R}:dz E []=(true,[]):=rfl
theorem evL_of{E:Expr->R}{e:Expr}{es:List Expr}{vs:List V}(h:E e=(true,x))(h2:dz E es=(true,vs)):dz E (e::es)=(true,x::vs):=by
 rw[D7,h,h2];rfl
theorem rO{es:List Expr}{p:Pos}{vs:List V}(h:dz (ev Φ τ N κ ρ) es=(true,vs))(hl:vs.length<=cap):ev Φ τ (N+1) κ ρ (.List es p)=(true, .list vs):=by
 show((jj (dz (ev Φ τ N κ ρ) es), .list (dz (ev Φ τ N κ ρ) es).2):R)=_;unfold jj;rw[h];simp[hl]
theorem tL{es:List Expr}{k:Nat}{p:Pos}{vs:List V}(h:dz (ev Φ τ N κ ρ) es=(true,vs))(hl:vs.length<=cap):ev Φ τ (N+1) κ ρ (.Tuple es k p)=(true, .tup vs):=by
 show((jj (dz (ev Φ τ N κ ρ) es), .tup (dz (ev Φ τ N κ ρ) es).2):R)=_;unfold jj;rw[h];simp[hl]
theorem ev_call{f:Str}{as:List Expr}{p q:Pos}{vs:List V}(h1:ag (nm f) (nm "len")=false)(h2:ag (nm f) (nm "list")=false)(hg:aO (kd κ (nm f))=true)(ha:dz (ev Φ τ N κ ρ) as=(true,vs))(hr:mR Φ (nm f) vs=(true,v)):ev Φ τ (N+1) κ ρ (.Call (.Name f p) as [] q)=(true,v):=by
 have e:ev Φ τ (N+1) κ ρ (.Call (.Name f p) as [] q)=fF Φ (ev Φ τ N κ ρ) κ (nm f) as:=by
  show kz Φ (ev Φ τ N) κ ρ (.Name f p) as q=_;show(bif ag (nm f) (nm "len")then _ else mh (bif ag (nm f) (nm "list")then jJ as else none) _ _)=_;rw[h1,h2];rfl
 rw[e];unfold fF;simp only[hg,ha,hr,Bool.and_self]
theorem ev_len{a:Expr}{p q:Pos}(hg:aO (kd κ (nm "len"))=true)(ha:look κ ρ (ev Φ τ N κ ρ) a=(true,x))(hr:lW x=(true,v)):ev Φ τ (N+1) κ ρ (.Call (.Name "len" p) [a] [] q)=(true,v):=by
 have e:ev Φ τ (N+1) κ ρ (.Call (.Name "len" p) [a] [] q)=pD (ev Φ τ N) κ ρ (nm "len") a:=rfl;rw[e];unfold pD;simp only[hg,ha,hr,Bool.and_self]
theorem rP{bs:List Expr}{p p' q q':Pos}{vs ws:List V}(hg:aO (kd κ (nm "list"))=true)(hg2:aO (kd κ (nm "range"))=true)(ha:dz (ev Φ τ N κ ρ) bs=(true,vs))(hr:fe vs=(true,ws)):ev Φ τ (N+1) κ ρ (.Call (.Name "list" p) [.Call (.Name "range" p') bs [] q'] [] q)=(true, .list ws):=by
 have e:ev Φ τ (N+1) κ ρ (.Call (.Name "list" p) [.Call (.Name "range" p') bs [] q'] [] q)=bH (ev Φ τ N κ ρ) κ (nm "list") (nm "range") bs:=rfl;rw[e];unfold bH;simp only[hg,hg2,ha,hr,Bool.and_self]
theorem ev_meth{o:Expr}{m:Str}{as:List Expr}{p q:Pos}{vs:List V}(hp:(p.endLine==q.line)=true)(hl:as.length<30)(hs:ff o=true)(ho:ev Φ τ N κ ρ o=(true,x))(ha:dz (ev Φ τ N κ ρ) as=(true,vs))(hr:fg Φ (nm m) x vs=(true,v)):ev Φ τ (N+1) κ ρ (.Call (.Attribute o m p) as [] q)=(true,v):=by
 show(bif p.endLine==q.line&&decide (as.length<30)then ky Φ (ev Φ τ N κ ρ) o (nm m) as else bad)=_;rw[hp,decide_eq_true hl];show ky Φ (ev Φ τ N κ ρ) o (nm m) as=_;unfold ky;simp only[ho,ha,hr,hs,Bool.and_self]
theorem ev_field{o:Expr}{a:Str}{p:Pos}(hs:ff o=true)(ho:ev Φ τ N κ ρ o=(true,x))(hr:yF (nm a) x=(true,v)):ev Φ τ (N+1) κ ρ (.Attribute o a p)=(true,v):=by
 show iM (ev Φ τ N κ ρ) o (nm a)=_;unfold iM;simp only[ho,hr,hs,Bool.and_self]
theorem wD{elt t it:Expr}{ifs:List Expr}{scope:Scope}{p:Pos}{xs ys:List V}(h1:d5 κ scope=true)(h2:jK scope.names t=true)(hi:aR κ (ev Φ τ N κ ρ) t it=(true,xs))(hc:bw (cW (ev Φ τ N) elt t ifs scope (bA scope ρ)) xs=(true,ys))(hl:xs.length<=cap):
 ev Φ τ (N+1) κ ρ (.ListComp elt [⟨t,it,ifs,0⟩] scope p)=(true, .list ys):=by
 show(let xs:=aR κ (ev Φ τ N κ ρ) t it;let r:=bw (cW (ev Φ τ N) elt t ifs scope (bA scope ρ)) xs.2;((d5 κ scope&&jK scope.names t&&xs.1&&r.1&&decide (xs.2.length<=cap), .list r.2):R))=_;simp only[h1,h2,hi,hc,decide_eq_true hl,Bool.and_self]
theorem rQ{E:Expr->R}{x:Str}{p:Pos}{e:Expr}(h:E e=(true,v))(hn:af (kd κ (nm x))=true):ei E κ μ ρ [.Name x p] e=(true, .next (put ρ (nm x) (hZ μ (nm x) e v))):=by
 show(let v:=E e;((v.1&&af (kd κ (nm x)), .next (put ρ (nm x) (hZ μ (nm x) e v.2))):Res))=_;simp only[h,hn,Bool.and_self]
theorem bC{x:Str}{e:Expr}{q:Pos}(h:ev Φ τ 40 κ (freeze (aK 40 e) ρ) e=(true,v))(hn:af (kd κ (nm x))=true)(hρ:put (freeze (aK 40 e) ρ) (nm x) (hZ μ (nm x) e v)=ρ')(h2:ex Φ τ μ W κ n rest ρ'=res):ex Φ τ μ W κ (n+1) (.Assign [.Name x p] e q::rest) ρ=res:=
 cw (by rw[rQ h hn,hρ]) h2
theorem bn{s:List Nat}{k:Nat}(hs:s.length<=cap):eC (.str s) (.int (k:Int)) .none .none=(true, .str (s.drop k)):=by
 show((decide (s.length<=cap),V.str (md s (some (k:Int)) none)):R)=_;rw[decide_eq_true hs]
 congr 2
 unfold md bound;dsimp only;rw[show decide ((k:Int)<0)=false by simp];simp only[cond_false,Int.toNat_natCast]
 by_cases h:k<=s.length
 ·rw[show Nat.min k s.length=k from Nat.min_eq_left h];exact List.take_of_length_le (by simp)
 ·rw[show Nat.min k s.length=s.length from Nat.min_eq_right ⋯,List.drop_eq_nil_of_le (Nat.le_refl _),List.drop_eq_nil_of_le ⋯];simp
theorem tM{s:List Nat}{k:Nat}(hs:s.length<=cap):eC (.str s) .none (.int (k:Int)) .none=(true, .str (s.take k)):=by
 show((decide (s.length<=cap),V.str (md s none (some (k:Int)))):R)=_;rw[decide_eq_true hs]
 congr 2
 unfold md bound;dsimp only;rw[show decide ((k:Int)<0)=false by simp];simp only[cond_false,Int.toNat_natCast,List.drop_zero,Nat.sub_zero]
 by_cases h:k<=s.length
 ·rw[show Nat.min k s.length=k from Nat.min_eq_left h]
 ·rw[show Nat.min k s.length=s.length from Nat.min_eq_right ⋯,List.take_of_length_le (Nat.le_refl _),List.take_of_length_le ⋯]
theorem xC{s:List Nat}(hs:s.length<=cap):eC (.str s) .none .none .none=(true, .str s):=by
 show((decide (s.length<=cap),V.str (md s none none)):R)=_;rw[decide_eq_true hs]
 congr 2
 unfold md;simp
theorem vu{s:List Nat}{k:Nat}(hs:s.length<=cap)(h0:0<k)(hk:k<=s.length):eC (.str s) .none (.int (-(k:Int))) .none=(true, .str (s.take (s.length-k))):=by
 show((decide (s.length<=cap),V.str (md s none (some (-(k:Int))))):R)=_;rw[decide_eq_true hs]
 congr 2
 unfold md bound;dsimp only;rw[show decide (-(k:Int)<0)=true from decide_eq_true ⋯];simp only[cond_true,List.drop_zero,Nat.sub_zero]
 congr 1
 omega
theorem gG{s:List Nat}{k:Nat}{ty:Nat}(hs:s.length<=cap)(hk:k<s.length):gV ty (.str s) (.int (k:Int))=(true, .str [s.getD k 0]):=by
 show((aZ s.length (k:Int)&&decide (s.length<=cap),V.str [s.getD (place s.length (k:Int)) 0]):R)=_;rw[decide_eq_true hs];unfold aZ place;rw[show decide ((k:Int)<0)=false by simp];simp only[cond_false,Int.toNat_natCast];rw[show decide (-(s.length:Int)<=(k:Int))=true from decide_eq_true ⋯,show decide ((k:Int)<(s.length:Int))=true from decide_eq_true ⋯]
 rfl
theorem j5{s:List Nat}{k:Nat}{ty:Nat}(hs:s.length<=cap)(h0:0<k)(hk:k<=s.length):gV ty (.str s) (.int (-(k:Int)))=(true, .str [s.getD (s.length-k) 0]):=by
 show((aZ s.length (-(k:Int))&&decide (s.length<=cap),V.str [s.getD (place s.length (-(k:Int))) 0]):R)=_;rw[decide_eq_true hs];unfold aZ place;rw[show decide (-(k:Int)<0)=true from decide_eq_true ⋯];simp only[cond_true];rw[show decide (-(s.length:Int) <= -(k:Int))=true from decide_eq_true ⋯,show decide (-(k:Int)<(s.length:Int))=true from decide_eq_true ⋯,show(-(k:Int)+(s.length:Int)).toNat=s.length-k by omega]
 rfl
theorem sub_int{l:List V}{k:Nat}{i:Int}(hs:l.length<=cap)(hk:k<l.length)(hi:l.getD k .none = .int i):gV 1 (.list l) (.int (k:Int))=(true, .int i):=by
 show((aZ l.length (k:Int)&&decide (l.length<=cap)&&mK (l.getD (place l.length (k:Int)) .none),V.int (getI (l.getD (place l.length (k:Int)) .none))):R)=_;rw[decide_eq_true hs];unfold aZ place;rw[show decide ((k:Int)<0)=false by simp];simp only[cond_false,Int.toNat_natCast];rw[show decide (-(l.length:Int)<=(k:Int))=true from decide_eq_true ⋯,show decide ((k:Int)<(l.length:Int))=true from decide_eq_true ⋯,hi]
 rfl
theorem rR{t:Expr}{b:List Stmt}{ρ0:Rho}(Inv:Nat->Rho)(val:Nat->V):∀(k i:Nat),(∀j,i<=j->j<i+k->∃ρ1 ρ2,bh t (val j) (Inv j)=(true,ρ1)/\ex Φ τ μ W κ n b ρ1=(true, .next ρ2)/\mask ρ0 ρ2=Inv (j+1)) ->
 bY (λv ρ=>((bh t v ρ).1&&(ex Φ τ μ W κ n b (bh t v ρ).2).1,(ex Φ τ μ W κ n b (bh t v ρ).2).2)) ρ0 ((List.range' i k).map val) (Inv i)=(true, .next (Inv (i+k)))
 |0,i,_=>rfl
 |k+1,i,h=>by
  obtain⟨ρ1,ρ2,h1,h2,h3⟩:=h i (Nat.le_refl _) ⋯;rw[List.range'_succ,List.map_cons];refine fu (ρ1:=ρ2) ?_ ?_
  ·show((bh t (val i) (Inv i)).1&&(ex Φ τ μ W κ n b (bh t (val i) (Inv i)).2).1,(ex Φ τ μ W κ n b (bh t (val i) (Inv i)).2).2)=_
   rw[h1];dsimp only;rw[h2];rfl
  ·rw[h3,show i+(k+1)=i+1+k by omega]
   exact rR Inv val k (i+1) λj hj hj2=>h j ⋯ ⋯
theorem fH{t:Expr}{b:List Stmt}{ρ1:Rho}{o:fV}(h1:bh t v ρ=(true,ρ1))(h2:ex Φ τ μ W κ n b ρ1=(true,o)):((bh t v ρ).1&&(ex Φ τ μ W κ n b (bh t v ρ).2).1,(ex Φ τ μ W κ n b (bh t v ρ).2).2)=((true,o):Res):=by
 rw[h1];dsimp only;rw[h2];rfl
theorem jy:∀(n a:Nat),gw (a:Int) 1 n=(List.range' a n).map λi:Nat=>(i:Int)
 |0,a=>rfl
 |n+1,a=>by
  rw[List.range'_succ,List.map_cons,hV,<-jy n (a+1)]
  congr 1
theorem fv{k:Nat}(h:k<=10000):fe [.int (k:Int)]=(true,(List.range' 0 k).map λi:Nat => .int (i:Int)):=by
 have hs:Builtin.Range.rangeSize 0 (k:Int) 1=k:=by
  unfold Builtin.Range.rangeSize;simp
  omega
 have h1:bX 0 (k:Int) 1=true:=by
  have fl:∀i:Int, -2<=i->i<=20000->Builtin.Range.rangeFitsLong i=true:=λi a b=>by
   unfold Builtin.Range.rangeFitsLong;simp
   omega
  unfold bX Builtin.Range.small;rw[hs,fl 0 ⋯ ⋯,fl k ⋯ ⋯,fl 1 ⋯ ⋯,if_pos nofun,fl (k+(1-1)) ⋯ ⋯,decide_eq_true (show(k:Int)<=10000 by omega)];simp
 show((bX 0 (k:Int) 1,(df 0 (k:Int) 1).map V.int):Bool×List V)=_;rw[h1];unfold df;rw[hs];have:=jy k 0;simp only[Int.toNat_natCast];rw[show((0:Nat):Int)=0 from rfl]at this;rw[this,List.map_map];rfl
theorem Dn{x y:Str}{e:Expr}{p' q:Pos}(h:ev Φ τ 40 κ (freeze (aK 40 e) ρ) e=(true,v))(hx:af (kd κ (nm x))=true)(hy:af (kd κ (nm y))=true)(hρ:put (put (freeze (aK 40 e) ρ) (nm x) (.val v)) (nm y) (.val v)=ρ')(h2:ex Φ τ μ W κ n rest ρ'=res):
 ex Φ τ μ W κ (n+1) (.Assign [.Name x p, .Name y p'] e q::rest) ρ=res:=by
 refine cw (ρ':=ρ') ?_ h2;show(let v:=ev Φ τ 40 κ (freeze (aK 40 e) ρ) e;(((v.1&&true&&([nm x,nm y].all λx=>af (kd κ x))), .next (put (put (freeze (aK 40 e) ρ) (nm x) (.val v.2)) (nm y) (.val v.2))):Res))=_;simp only[h,List.all_cons,hx,hy,List.all_nil,Bool.and_self,hρ]
theorem jz {x:Str} {i e:Expr} {p' q:Pos} {l:List V} {j:Nat} (hl:lk (freeze (aK 40 e) ρ) (nm x) = .own l) (hi:ev Φ τ 40 κ (freeze (aK 40 e) ρ) i=(true, .int (j:Int))) (h:ev Φ τ 40 κ (freeze (aK 40 e) ρ) e=(true,v)) (hx:af (kd κ (nm x))=true) (hj:j<l.length) (hc:l.length<=cap)
 (hρ:put (freeze (aK 40 e) ρ) (nm x) (.own (gW l j v))=ρ') (h2:ex Φ τ μ W κ n rest ρ'=res):ex Φ τ μ W κ (n+1) (.Assign [.Subscript (.Name x p) i p'] e q::rest) ρ=res:=by
 refine cw (ρ':=ρ') ?_ h2;show AO (af (kd κ (nm x))) (freeze (aK 40 e) ρ) (nm x) (ev Φ τ 40 κ (freeze (aK 40 e) ρ) i) (ev Φ τ 40 κ (freeze (aK 40 e) ρ) e) (lk (freeze (aK 40 e) ρ) (nm x))=_;rw[hl,hi,h,hx];show(true&&(true&&true)&&(decide (0<=(j:Int))&&decide ((j:Int)<(l.length:Int))&&decide (l.length<=cap)),fV.next (put (freeze (aK 40 e) ρ) (nm x) (.own (gW l (j:Int).toNat v))))=(true,fV.next ρ');rw[decide_eq_true hc,decide_eq_true (Int.natCast_nonneg j),decide_eq_true (Int.ofNat_lt.mpr hj),Int.toNat_natCast,hρ];rfl
theorem bg{f:Nm}{vs:List V}{r:R}(h:me Φ.fn f=none)(hb:dA f vs=r):mR Φ f vs=r:=by
 unfold mR;rw[h];exact hb
theorem bJ{f:Nm}{vs:List V}{r:R}{F:List V->R}(h:me Φ.fn f=some F)(hb:F vs=r):mR Φ f vs=r:=by
 unfold mR;rw[h];exact hb
theorem fw{t:Expr}{as:List Expr}{p' q:Pos}{vs xs:List V}(hg:aO (kd κ (nm "range"))=true)(ht:dg t=true)(ha:dz (ev Φ τ N κ ρ) as=(true,vs))(hr:fe vs=(true,xs)):aR κ (ev Φ τ N κ ρ) t (.Call (.Name "range" p') as [] q)=(true,xs):=by
 show(let x:=dz (ev Φ τ N κ ρ) as;let r:=fe x.2;((aO (kd κ (nm "range"))&&x.1&&r.1&&dg t,r.2):Bool×List V))=_;simp only[hg,ht,ha,hr,Bool.and_self]
theorem cY{t e:Expr}{xs:List V}(he:aR κ (ev Φ τ N κ ρ) t e=lj κ (ev Φ τ N κ ρ) t e)(h:ev Φ τ N κ ρ e=(true,v))(hx:mL v=(true,xs))(ht:dg t=true\/(dB t=true/\CD v=true)):aR κ (ev Φ τ N κ ρ) t e=(true,xs):=by
 rw[he];unfold lj;simp only[h,hx,Bool.and_self,Bool.true_and]
 rcases ht with h|⟨h1,h2⟩
 ·rw[h];rfl
 ·rw[h1,h2];simp
theorem nZ:∀(n a:Nat),gw ((a:Int)*2) 2 n=(List.range' a n).map λi:Nat=>(i:Int)*2
 |0,a=>rfl
 |n+1,a=>by
  rw[List.range'_succ,List.map_cons,hV,<-nZ n (a+1)]
  congr 2
  omega
theorem vw{k:Nat}(h:k<=5000):fe [.int 2, .int (2*((k:Int)+1)), .int 2]=(true,(List.range' 1 k).map λi:Nat => .int ((i:Int)*2)):=by
 have hs:Builtin.Range.rangeSize 2 (2*((k:Int)+1)) 2=k:=by
  unfold Builtin.Range.rangeSize;simp
  omega
 have fl:∀i:Int, -2<=i->i<=20000->Builtin.Range.rangeFitsLong i=true:=λi a b=>by
  unfold Builtin.Range.rangeFitsLong;simp
  omega
 have h1:bX 2 (2*((k:Int)+1)) 2=true:=by
  unfold bX Builtin.Range.small;rw[hs,fl 2 ⋯ ⋯,fl (2*((k:Int)+1)) ⋯ ⋯,fl k ⋯ ⋯,if_pos nofun,fl (2*((k:Int)+1)+(2-1)) ⋯ ⋯,decide_eq_true (show(k:Int)<=10000 by omega)];simp
 show((bX 2 (2*((k:Int)+1)) 2,(df 2 (2*((k:Int)+1)) 2).map V.int):Bool×List V)=_;rw[h1];unfold df;rw[hs];have:=nZ k 1;simp only[Int.toNat_natCast];rw[show((1:Nat):Int)*2=2 from rfl]at this;rw[this,List.map_map];rfl
end
end
section
open PySem PySem.W PySem.Challenge
noncomputable abbrev PW:=pw_uk0028_03
noncomputable abbrev Do:=aQ PW 6
noncomputable abbrev gH:=aQ PW 7
noncomputable abbrev zS:=aQ PW 12
noncomputable abbrev F8:=aQ PW 15
noncomputable abbrev Fd:=aQ PW 17
noncomputable abbrev fJ:=eX PW 19 1
noncomputable abbrev Dp:=eX PW 19 2
noncomputable abbrev rS:=eX PW 19 3
noncomputable abbrev iy:=eX PW 19 6
noncomputable abbrev n0:=aQ PW 21
noncomputable abbrev n4:=aQ PW 22
noncomputable abbrev n7:=aQ PW 23
noncomputable abbrev zT:=aQ PW 24
noncomputable abbrev EB:=aQ PW 25
noncomputable abbrev iz:=aQ PW 26
noncomputable def GL:List (Nm×V):=[(nm "_MAX_STRING_SIZE", .int 40),(nm "_MOVE_COST", .int 2),(nm "_CASE_COST", .int 1),(nm "CRLF", .str [13,10]),(nm "Whitespace", .cls)]
theorem zU{Φ:Fns}{τ:Tau}{W:Nat}{d:Def}{as:List V}{v:V}(h:ex Φ τ (aM (fW 20) d.body) W d.κ 200 d.body (cK d.κ (lX d.params as))=(true, .ret v))(hl:Nat.beq d.params.length as.length=true):bN Φ τ W d as=(true,v):=by
 unfold bN;rw[h];unfold jN;rw[hl];rfl
section
variable {fn meth:List (Nm×(List V->R))} {τ:Tau} {W:Nat}
noncomputable def bT(a b:Nat):Int:=bif ag [a] [b]then 0 else bif ag (bW [a]) (bW [b])then 1 else 2
theorem BD(a b:Nat):bN ⟨GL,fn,meth⟩ τ W (cU ["ch_a","ch_b"] Do) [.str [a], .str [b]]=(true, .int (bT a b)):=by
 refine zU ?_ rfl;refine eQ (v := .bool (ag [a] [b])) (c:=ag [a] [b]) ∅ ∅ rfl ?_;unfold bT;cases ag [a] [b]with
 |true=>exact dW ∅
 |false=>
  refine eQ (v := .bool (ag (bW [a]) (bW [b]))) (c:=ag (bW [a]) (bW [b])) ∅ ∅ rfl ?_;cases ag (bW [a]) (bW [b])with
  |true=>exact dW ∅
  |false=>exact dW ∅
end
end
section
open PySem PySem.W PySem.Challenge
noncomputable def bd:List Nat->List Nat->Nat
 |x::a,y::b=>bif ag [x] [y]then bd a b+1 else 0
 |_,_=>0
structure LS where
 row:List Int
 dist:Int
 res:Int
 mn:Int
noncomputable def jA(c:Nat)(a:List Nat)(i:Nat)(s:LS):LS:=
 let d:=s.row.getD i 0;let idl:=(bif decide (d<s.res)then d else s.res)+2;let sub:=s.dist+bT c (a.getD i 0);let r:=bif decide (sub<idl)then sub else idl
 ⟨s.row.set i r,d,r,bif decide (r<s.mn)then r else s.mn⟩
noncomputable def ga(c:Nat)(a:List Nat)(s:LS):Nat->LS
 |0=>s
 |k+1=>jA c a k (ga c a s k)
noncomputable def Cl:Int:=9223372036854775807
noncomputable def iA(a:List Nat)(m:Int):List Nat->Nat->List Int->Int->Int
 |[],_,_,res=>res
 |c::bs,j,row,res=>
  let s:=ga c a ⟨row,(j:Int)*2,(j:Int)*2,Cl⟩ a.length
  bif decide (m<s.mn)then m+1 else iA a m bs (j+1) s.row s.res
noncomputable def qr(a b:List Nat)(m:Int):Int:=
 bif decide (m<((b.length:Int)-a.length)*2)then m+1 else iA a m b 0 ((List.range' 1 a.length).map λi:Nat=>(i:Int)*2) 0
noncomputable def zV(a b:List Nat)(m:Int):Int:=
 bif a.isEmpty||b.isEmpty then 2*((a.length:Int)+b.length)
 else bif decide (40<a.length)||decide (40<b.length)then m+1
 else bif decide (b.length<a.length)then qr b a m else qr a b m
noncomputable def aP(a:List Nat)(q:Nat):List Nat:=a.take (a.length-q)
noncomputable def eu(a b:List Nat)(m:Int):Int:=
 bif ag a b then 0 else
 let k:=bd a b;let a1:=a.drop k;let b1:=b.drop k;let q:=bd a1.reverse b1.reverse
 zV (aP a1 q) (aP b1 q) m
section
variable {fn meth:List (Nm×(List V->R))}
noncomputable abbrev xD:List (Str×NameKind):=gH.scope.names
noncomputable abbrev vx:Tau:=[(nm "row",1)]
noncomputable def eL(a b m pre post row result bindex bchar distance minimum index substitute insdel:Mine.Slot):Rho:=
 [(nm "a",a),(nm "b",b),(nm "max_cost",m),(nm "pre",pre),(nm "post",post),(nm "row",row),(nm "result",result),(nm "bindex",bindex),(nm "bchar",bchar),(nm "distance",distance),(nm "minimum",minimum),(nm "index",index),(nm "substitute",substitute),(nm "insert_delete",insdel)]
noncomputable abbrev vS(x:List Nat):Mine.Slot := .val (.str x)
noncomputable abbrev vI(i:Int):Mine.Slot := .val (.int i)
theorem n8{row:List Int}{i:Nat}(h:i<row.length):(row.map V.int).getD i .none = .int (row.getD i 0):=by
 simp[List.getD_eq_getElem?_getD,h]
theorem kS{t:Rho->R}{f:Rho->Res}(Inv:Nat->Rho):∀(k i n:Nat),(∀j,i<=j->j<i+k->(∃v,t (Inv j)=(true,v)/\aa v=(true,true))/\f (Inv j)=(true, .next (Inv (j+1))))->(∃v,t (Inv (i+k))=(true,v)/\aa v=(true,false))->k<n ->
 bR t f n (Inv i)=(true, .next (Inv (i+k)))
 |0,i,n,_,h,hn=>by
  obtain⟨v,h1,h2⟩:=h;obtain⟨n,rfl⟩:∃n',n=n'+1:=⟨n-1,⋯⟩;exact qq h1 h2
 |k+1,i,n,hs,h,hn=>by
  obtain⟨⟨v,h1,h2⟩,h3⟩:=hs i (Nat.le_refl _) ⋯;obtain⟨n,rfl⟩:∃n',n=n'+1:=⟨n-1,⋯⟩;refine nY h1 h2 h3 ?_;rw[show i+(k+1)=i+1+k by omega]at h |-;exact kS Inv k (i+1) n (λj hj hj2=>hs j ⋯ ⋯) h ⋯
theorem my:∀(a b:List Nat) (j:Nat),j<bd a b->j<a.length/\j<b.length/\ag [a.getD j 0] [b.getD j 0]=true
 |[],b,j,h=>by induction b using List.casesOn<;>exact absurd h (Nat.not_lt_zero j)
 |x::a,[],j,h=>absurd h (Nat.not_lt_zero j)
 |x::a,y::b,j,h=>by
  have h':j<bif ag [x] [y]then bd a b+1 else 0:=h
  cases e:ag [x] [y]with
  |true=>
   rw[e]at h'
   induction j using Nat.casesOn with
   |zero=>exact⟨by simp,by simp,e⟩
   |succ j=>
    have h2:j<bd a b:=by simpa using h'
    obtain⟨i1,i2,i3⟩:=my a b j h2;exact⟨by simp;omega,by simp;omega,by simpa using i3⟩
  |false=>rw[e]at h';exact absurd h' (Nat.not_lt_zero j)
theorem rU:∀(a b:List Nat),bd a b<a.length->bd a b<b.length->ag [a.getD (bd a b) 0] [b.getD (bd a b) 0]=false
 |[],b,h,_=>absurd h (Nat.not_lt_zero _)
 |x::a,[],_,h=>absurd h (Nat.not_lt_zero _)
 |x::a,y::b,h1,h2=>by
  cases e:ag [x] [y]with
  |true=>
   have ep:bd (x::a) (y::b)=bd a b+1:=by show(bif ag [x] [y]then _ else _)=_;rw[e];rfl
   rw[ep]at h1 h2 |-;have:=rU a b (by simpa using h1) (by simpa using h2)
   simpa using this
  |false=>
   have ep:bd (x::a) (y::b)=0:=by show(bif ag [x] [y]then _ else _)=_;rw[e];rfl
   rw[ep];exact e
theorem wE(a b:List Nat):bd a b<=a.length/\bd a b<=b.length:=by
 rcases Nat.eq_zero_or_pos (bd a b)with h|h
 ·omega
 ·have:=my a b (bd a b-1) ⋯;omega
theorem truthy_str{s:List Nat}(h:s.length<=cap):aa (.str s)=(true, !s.isEmpty):=by
 show((decide (s.length<=cap), !s.isEmpty):Bool×Bool)=_;rw[decide_eq_true h]
theorem gb{s:List Nat}{j:Nat}(h:j<s.length):(s.drop j).isEmpty=false:=by
 rw[List.isEmpty_eq_false_iff];intro e;rw[List.drop_eq_nil_iff]at e;omega
theorem iW{s:List Nat}{j:Nat}(h:s.length<=j):(s.drop j).isEmpty=true:=by
 rw[List.isEmpty_iff,List.drop_eq_nil_iff];exact h
structure tN(fn:List (Nm×(List V->R))):Prop where
 sub:∀x y,∃f,me fn (nm "_substitution_cost")=some f/\f [.str [x], .str [y]]=(true, .int (bT x y))
 mn:me fn (nm "min")=none
theorem kT(c:Nat)(a:List Nat)(s:LS):∀k,(ga c a s k).row.length=s.row.length
 |0=>rfl
 |k+1=>by
  show(jA c a k (ga c a s k)).row.length=_;unfold jA;simp only[List.length_set];exact kT c a s k
theorem tO(row:List Int)(j:Nat)(x:Int):gW (row.map V.int) j (.int x)=(row.set j x).map V.int:=by
 unfold gW;rw[List.map_set]
noncomputable def j6(s:Option Stmt):List Stmt:=match s with
 |some (.For _ _ b _ _)=>b
 |_=>[]
noncomputable def cz(s:Option Stmt):Expr:=match s with
 |some (.For t _ _ _ _)=>t
 |_ => .Name "" default
noncomputable abbrev n9:List Stmt:=j6 gH.body[15]?
noncomputable abbrev EC:List Stmt:=j6 n9[3]?
noncomputable def eI(a b:List Nat)(m k p:Int)(j:Nat)(c:Nat)(s:LS):Rho:=eL (vS a) (vS b) (vI m) (vI k) (vI p) (.own (s.row.map .int)) (vI s.res) (vI j) (vS [c]) (vI s.dist) (vI s.mn) .un .un .un
theorem xE(hs:tN fn)(a b:List Nat)(m k p:Int)(j c:Nat)(s:LS)(ha:a.length<=500)(hr:s.row.length=a.length){μ:List Nm}:
 bY (λv ρ=>((bh (cz n9[3]?) v ρ).1&&(ex ⟨GL,fn,meth⟩ vx μ 1000 xD 180 EC (bh (cz n9[3]?) v ρ).2).1,(ex ⟨GL,fn,meth⟩ vx μ 1000 xD 180 EC (bh (cz n9[3]?) v ρ).2).2)) (eI a b m k p j c s)
  ((List.range' 0 a.length).map λi:Nat => .int (i:Int)) (eI a b m k p j c s)=(true, .next (eI a b m k p j c (ga c a s a.length))):=by
 have ca:a.length<=cap:=by unfold cap;omega
 refine(rR (λi=>eI a b m k p j c (ga c a s i)) (λi => .int (i:Int)) a.length 0 λi _ hi => ?_).trans (by rw[Nat.zero_add]);have hi':i<a.length:=⋯;have hrow:(ga c a s i).row.length=a.length:=by rw[kT,hr]
 show ∃ρ1 ρ2,_/\_/\mask (eI a b m k p j c s) ρ2=eI a b m k p j c (jA c a i (ga c a s i));generalize ga c a s i=u at hrow |-;obtain⟨f,hf1,hf2⟩:=hs.sub c (a.getD i 0);have hlen:(u.row.map V.int).length<=cap:=by rw[List.length_map];omega
 have hlt:i<(u.row.map V.int).length:=by rw[List.length_map];omega
 obtain⟨sub,hsub⟩:∃x,x=u.dist+bT c (a.getD i 0):=⟨_,rfl⟩;obtain⟨d,hd⟩:∃x,x=u.row.getD i 0:=⟨_,rfl⟩;obtain⟨idl,hidl⟩:∃x,x=(bif decide (d<u.res)then d else u.res)+2:=⟨_,rfl⟩;obtain⟨r,hres⟩:∃x,x=bif decide (sub<idl)then sub else idl:=⟨_,rfl⟩
 have e:jA c a i u=⟨u.row.set i r,d,r,bif decide (r<u.mn)then r else u.mn⟩:=by rw[hres,hidl,hsub,hd];rfl
 rw[e];have e2:eI a b m k p j c ⟨u.row.set i r,d,r,bif decide (r<u.mn)then r else u.mn⟩=eL (vS a) (vS b) (vI m) (vI k) (vI p) (.own (gW (u.row.map .int) i (.int r))) (vI r) (vI j) (vS [c]) (vI d) (vI (bif decide (r<u.mn)then r else u.mn)) .un .un .un:=by
  rw[tO];rfl
 rw[e2];refine⟨eL (vS a) (vS b) (vI m) (vI k) (vI p) (.own (u.row.map .int)) (vI u.res) (vI j) (vS [c]) (vI u.dist) (vI u.mn) (vI i) .un .un,
  eL (vS a) (vS b) (vI m) (vI k) (vI p) (.own (gW (u.row.map .int) i (.int r))) (vI r) (vI j) (vS [c]) (vI d) (vI (bif decide (r<u.mn)then r else u.mn)) (vI i) (vI sub) (vI idl),∅, ?_,∅⟩
 refine bC (v := .int sub) (ev_add (x := .int u.dist) (aF ∅ (λl h=>by injections h)) (ev_call ∅ ∅ ∅ (evL_of ∅ (evL_of (ah rfl (aF ∅ (λl h=>by injections h)) ∅ (ty:=0) ∅ (gG ca hi')) evL_nil)) (bJ hf1 hf2)) (by rw[hsub];rfl)) ∅
  (ρ':=eL (vS a) (vS b) (vI m) (vI k) (vI p) (.own (u.row.map .int)) (vI u.res) (vI j) (vS [c]) (vI u.dist) (vI u.mn) (vI i) (vI sub) .un) ∅ ?_
 refine bC (v := .int d) (ah rfl (f8 (l:=u.row.map .int) ∅ ∅) ∅ (ty:=1) ∅ (by rw[hd];exact sub_int hlen hlt (n8 ⋯))) ∅
  (ρ':=eL (vS a) (vS b) (vI m) (vI k) (vI p) (.own (u.row.map .int)) (vI u.res) (vI j) (vS [c]) (vI d) (vI u.mn) (vI i) (vI sub) .un) ∅ ?_
 refine bC (v := .int idl) (ev_add (look_other rfl (ev_call ∅ ∅ ∅ (evL_of (x := .int u.res) ∅ (evL_of (x := .int d) ∅ evL_nil)) (bg hs.mn rfl))) (y := .int 2) ∅ (by rw[hidl];rfl)) ∅
  (ρ':=eL (vS a) (vS b) (vI m) (vI k) (vI p) (.own (u.row.map .int)) (vI u.res) (vI j) (vS [c]) (vI d) (vI u.mn) (vI i) (vI sub) (vI idl)) ∅ ?_
 refine bC (v := .int r) (ev_call ∅ ∅ ∅ (evL_of (x := .int idl) ∅ (evL_of (x := .int sub) ∅ evL_nil)) (bg hs.mn (by rw[hres];rfl))) ∅
  (ρ':=eL (vS a) (vS b) (vI m) (vI k) (vI p) (.own (u.row.map .int)) (vI r) (vI j) (vS [c]) (vI d) (vI u.mn) (vI i) (vI sub) (vI idl)) ∅ ?_
 refine jz (l:=u.row.map .int) (j:=i) (v := .int r) ∅ ∅ ∅ ∅ hlt hlen
  (ρ':=eL (vS a) (vS b) (vI m) (vI k) (vI p) (.own (gW (u.row.map .int) i (.int r))) (vI r) (vI j) (vS [c]) (vI d) (vI u.mn) (vI i) (vI sub) (vI idl)) ∅ ?_
 exact rL (v := .bool (decide (r<u.mn))) (c:=decide (r<u.mn)) (ρa:=eL (vS a) (vS b) (vI m) (vI k) (vI p) (.own (gW (u.row.map .int) i (.int r))) (vI r) (vI j) (vS [c]) (vI d) (vI r) (vI i) (vI sub) (vI idl))
  (ρb:=eL (vS a) (vS b) (vI m) (vI k) (vI p) (.own (gW (u.row.map .int) i (.int r))) (vI r) (vI j) (vS [c]) (vI d) (vI u.mn) (vI i) (vI sub) (vI idl)) (fa:=true) (fb:=true) ∅ ∅ rfl ∅ ∅ (by simp) ∅
theorem qs(hs:tN fn)(a b:List Nat)(m k p:Int)(ha:a.length<=500)(hb:b.length<=500){μ:List Nm}{ρ0:Rho}(h0:∃row0 res0,ρ0=eL (vS a) (vS b) (vI m) (vI k) (vI p) (.own (List.map V.int row0)) (vI res0) .un .un .un .un .un .un .un):∀(bs:List Nat) (j:Nat) (row:List Int) (res:Int),b.drop j=bs->row.length=a.length ->
 (∃row',bY (λv ρ=>((bh (cz gH.body[15]?) v ρ).1&&(ex ⟨GL,fn,meth⟩ vx μ 1000 xD 184 n9 (bh (cz gH.body[15]?) v ρ).2).1,(ex ⟨GL,fn,meth⟩ vx μ 1000 xD 184 n9 (bh (cz gH.body[15]?) v ρ).2).2)) ρ0
   ((List.range' j bs.length).map λi:Nat => .int (i:Int)) (eL (vS a) (vS b) (vI m) (vI k) (vI p) (.own (row.map .int)) (vI res) .un .un .un .un .un .un .un)=(true, .next (eL (vS a) (vS b) (vI m) (vI k) (vI p) (.own (List.map V.int row')) (vI (iA a m bs j row res)) .un .un .un .un .un .un .un))) \/
 (bY (λv ρ=>((bh (cz gH.body[15]?) v ρ).1&&(ex ⟨GL,fn,meth⟩ vx μ 1000 xD 184 n9 (bh (cz gH.body[15]?) v ρ).2).1,(ex ⟨GL,fn,meth⟩ vx μ 1000 xD 184 n9 (bh (cz gH.body[15]?) v ρ).2).2)) ρ0
   ((List.range' j bs.length).map λi:Nat => .int (i:Int)) (eL (vS a) (vS b) (vI m) (vI k) (vI p) (.own (row.map .int)) (vI res) .un .un .un .un .un .un .un)=(true, .ret (.int (iA a m bs j row res))))
 |[],j,row,res,hd,hr => .inl ⟨row,rfl⟩
 |c::bs,j,row,res,hd,hr=>by
  have ca:a.length<=cap:=by unfold cap;omega
  have cb:b.length<=cap:=by unfold cap;omega
  have hj:j<b.length:=by
   rcases Nat.lt_or_ge j b.length with h|h
   ·exact h
   ·rw[List.drop_eq_nil_of_le h]at hd;injections hd
  have hc:b.getD j 0=c:=by
   have:=List.drop_eq_getElem_cons hj;rw[hd]at this
   injection this with h1 _
   rw[List.getD_eq_getElem?_getD,List.getElem?_eq_getElem hj,<-h1];rfl
  have hd':b.drop (j+1)=bs:=by
   have:=List.drop_eq_getElem_cons hj;rw[hd]at this
   injection this with _ h2
   exact h2.symm
  obtain⟨s,hsr⟩:∃s,s=ga c a ⟨row,(j:Int)*2,(j:Int)*2,Cl⟩ a.length:=⟨_,rfl⟩;have hlen:s.row.length=a.length:=by rw[hsr,kT,hr]
  have eo:iA a m (c::bs) j row res=bif decide (m<s.mn)then m+1 else iA a m bs (j+1) s.row s.res:=by rw[hsr];rfl
  have hmul:de .Mult (.int (j:Int)) (.int 2)=(true, .int ((j:Int)*2)):=by
   show((small (j:Int)||small 2,V.int ((j:Int)*2)):R)=_;rw[show small 2=true from rfl,Bool.or_true]
  have lena:lW (.str a)=(true, .int a.length):=by
   show((decide (a.length<=cap),V.int a.length):R)=_;rw[decide_eq_true ca]
  have body:∀{res':Res},(bif decide (m<s.mn)then(true,fV.ret (.int (m+1)))else(true,fV.next (eL (vS a) (vS b) (vI m) (vI k) (vI p) (.own (s.row.map .int)) (vI s.res) (vI j) (vS [c]) (vI s.dist) (vI s.mn) .un .un .un)))=res' ->
   ex ⟨GL,fn,meth⟩ vx μ 1000 xD 184 n9 (eL (vS a) (vS b) (vI m) (vI k) (vI p) (.own (row.map .int)) (vI res) (vI j) .un .un .un .un .un .un)=res':=by
   intro res' h;refine bC (v := .str [c]) (ah rfl (aF ∅ (λl h=>by injections h)) ∅ (ty:=0) ∅ (by rw[<-hc];exact gG cb hj)) ∅
    (ρ':=eL (vS a) (vS b) (vI m) (vI k) (vI p) (.own (row.map .int)) (vI res) (vI j) (vS [c]) .un .un .un .un .un) ∅ ?_
   refine Dn (v := .int ((j:Int)*2)) (ev_bin nofun (x := .int (j:Int)) (y := .int 2) ∅ ∅ hmul) ∅ ∅
    (ρ':=eL (vS a) (vS b) (vI m) (vI k) (vI p) (.own (row.map .int)) (vI ((j:Int)*2)) (vI j) (vS [c]) (vI ((j:Int)*2)) .un .un .un .un) ∅ ?_
   refine bC (v := .int Cl) ∅ ∅ (ρ':=eI a b m k p j c ⟨row,(j:Int)*2,(j:Int)*2,Cl⟩) ∅ ?_;refine rM (ρ':=eI a b m k p j c s) (fw ∅ rfl (evL_of (ev_len ∅ (aF ∅ (λl h=>by injections h)) lena) evL_nil) (fv (k:=a.length) ⋯)) ∅ ?_ ?_
   ·rw[hsr]
    exact xE hs a b m k p j c ⟨row,(j:Int)*2,(j:Int)*2,Cl⟩ ha hr
   ·refine eQ (v := .bool (decide (m<s.mn))) (c:=decide (m<s.mn)) ∅ ∅ rfl ?_
    rw[<-h];cases decide (m<s.mn)with
    |true=>exact dW ∅
    |false=>exact cV
  rw[eo];rw[List.length_cons,List.range'_succ,List.map_cons];cases hm:decide (m<s.mn)with
  |true=>
   refine .inr (wB (fH (ρ1:=eL (vS a) (vS b) (vI m) (vI k) (vI p) (.own (row.map .int)) (vI res) (vI j) .un .un .un .un .un .un) ∅ (body ?_)));rw[hm];rfl
  |false=>
   have nx:((bh (cz gH.body[15]?) (.int (j:Int)) (eL (vS a) (vS b) (vI m) (vI k) (vI p) (.own (row.map .int)) (vI res) .un .un .un .un .un .un .un)).1&&(ex ⟨GL,fn,meth⟩ vx μ 1000 xD 184 n9 (bh (cz gH.body[15]?) (.int (j:Int)) (eL (vS a) (vS b) (vI m) (vI k) (vI p) (.own (row.map .int)) (vI res) .un .un .un .un .un .un .un)).2).1,
    (ex ⟨GL,fn,meth⟩ vx μ 1000 xD 184 n9 (bh (cz gH.body[15]?) (.int (j:Int)) (eL (vS a) (vS b) (vI m) (vI k) (vI p) (.own (row.map .int)) (vI res) .un .un .un .un .un .un .un)).2).2)=((true,fV.next (eL (vS a) (vS b) (vI m) (vI k) (vI p) (.own (s.row.map .int)) (vI s.res) (vI j) (vS [c]) (vI s.dist) (vI s.mn) .un .un .un)):Res):=
    fH (ρ1:=eL (vS a) (vS b) (vI m) (vI k) (vI p) (.own (row.map .int)) (vI res) (vI j) .un .un .un .un .un .un) ∅ (body (by rw[hm];rfl))
   obtain⟨row0,res0,rfl⟩:=h0;have mk:mask (eL (vS a) (vS b) (vI m) (vI k) (vI p) (.own (List.map V.int row0)) (vI res0) .un .un .un .un .un .un .un) (eL (vS a) (vS b) (vI m) (vI k) (vI p) (.own (s.row.map .int)) (vI s.res) (vI j) (vS [c]) (vI s.dist) (vI s.mn) .un .un .un)=eL (vS a) (vS b) (vI m) (vI k) (vI p) (.own (s.row.map .int)) (vI s.res) .un .un .un .un .un .un .un:=∅
   rcases qs hs a b m k p ha hb ⟨row0,res0,rfl⟩ bs (j+1) s.row s.res hd' hlen (μ:=μ)with⟨row',h⟩|h
   ·exact .inl ⟨row',fu nx (by rw[mk];exact h)⟩
   ·exact .inr (fu nx (by rw[mk];exact h))
theorem tP(hs:tN fn)(a b:List Nat)(m k p:Int)(ha:a.length<=500)(hb:b.length<=500)(hab:a.length<=b.length):
 ex ⟨GL,fn,meth⟩ vx (aM (fW 20) gH.body) 1000 xD 188 (gH.body.drop 12) (eL (vS a) (vS b) (vI m) (vI k) (vI p) .un .un .un .un .un .un .un .un .un)=(true, .ret (.int (qr a b m))):=by
 have ca:a.length<=cap:=by unfold cap;omega
 have cb:b.length<=cap:=by unfold cap;omega
 have lenv:∀{x:List Nat},x.length<=cap->lW (.str x)=(true, .int x.length):=λ{x} h=>by
  show((decide (x.length<=cap),V.int x.length):R)=_;rw[decide_eq_true h]
 have hmul:de .Mult (.int ((b.length:Int)-a.length)) (.int 2)=(true, .int (((b.length:Int)-a.length)*2)):=by
  show((small _||small 2,V.int _):R)=_;rw[show small 2=true from rfl,Bool.or_true]
 refine eQ (v := .bool (decide (m<((b.length:Int)-a.length)*2))) (c:=decide (m<((b.length:Int)-a.length)*2)) ∅
  (ev_cmp nofun (ev_bin nofun (ev_bin nofun (ev_len ∅ (aF ∅ (λl h=>by injections h)) (lenv cb)) (ev_len ∅ (aF ∅ (λl h=>by injections h)) (lenv ca)) rfl) (y := .int 2) ∅ hmul) (y := .int m) ∅ rfl) rfl ?_
 unfold qr;cases decide (m<((b.length:Int)-a.length)*2)with
 |true=>exact dW ∅
 |false=>
  simp only[cond_false];have er:((List.range' 1 a.length).map λi:Nat=>V.int ((i:Int)*2))=((List.range' 1 a.length).map λi:Nat=>(i:Int)*2).map V.int:=by rw[List.map_map];rfl
  refine bC (v := .list ((List.range' 1 a.length).map λi:Nat=>V.int ((i:Int)*2))) (rP ∅ ∅ (evL_of (x := .int 2) ∅ (evL_of (x := .int (2*((a.length:Int)+1))) (ev_bin nofun (x := .int 2) ∅ (ev_add (look_other rfl (ev_len ∅ (aF ∅ (λl h=>by injections h)) (lenv ca))) (y := .int 1) ∅ rfl) rfl) (evL_of (x := .int 2) ∅ evL_nil))) (vw ⋯)) ∅
   (ρ':=eL (vS a) (vS b) (vI m) (vI k) (vI p) (.own ((List.range' 1 a.length).map λi:Nat=>V.int ((i:Int)*2))) .un .un .un .un .un .un .un .un) ∅ ?_
  rw[er];generalize hr0:((List.range' 1 a.length).map λi:Nat=>(i:Int)*2)=row0;have hlen:row0.length=a.length:=by rw[<-hr0];simp
  refine bC (v := .int 0) ∅ ∅ (ρ':=eL (vS a) (vS b) (vI m) (vI k) (vI p) (.own (row0.map .int)) (vI 0) .un .un .un .un .un .un .un) ∅ ?_;have hi:=λ(N:Nat)=>fv (k:=b.length) ⋯
  rcases qs hs a b m k p ha hb ⟨row0,0,rfl⟩ b 0 row0 0 rfl hlen (fn:=fn) (meth:=meth) (μ:=aM (fW 20) gH.body)with⟨row',h⟩|h
  ·refine rM (fw ∅ rfl (evL_of (ev_len ∅ (aF ∅ (λl h=>by injections h)) (lenv cb)) evL_nil) (fv ⋯)) ∅ h ?_
   exact dW ∅
  ·exact nX (fw ∅ rfl (evL_of (ev_len ∅ (aF ∅ (λl h=>by injections h)) (lenv cb)) evL_nil) (fv ⋯)) ∅ h
theorem BE(hs:tN fn)(a b:List Nat)(m k p:Int)(ha:a.length<=500)(hb:b.length<=500):
 ex ⟨GL,fn,meth⟩ vx (aM (fW 20) gH.body) 1000 xD 191 (gH.body.drop 9) (eL (vS a) (vS b) (vI m) (vI k) (vI p) .un .un .un .un .un .un .un .un .un)=(true, .ret (.int (zV a b m))):=by
 have ca:a.length<=cap:=by unfold cap;omega
 have cb:b.length<=cap:=by unfold cap;omega
 have lenv:∀{x:List Nat},x.length<=cap->lW (.str x)=(true, .int x.length):=λ{x} h=>by
  show((decide (x.length<=cap),V.int x.length):R)=_;rw[decide_eq_true h]
 refine eQ (v := .bool (a.isEmpty||b.isEmpty)) (c:=a.isEmpty||b.isEmpty) ∅ ?_ rfl ?_
 ·refine gT ?_
  cases h:a.isEmpty with
  |true=>
   refine mx (vt (x := .str a) ∅ (truthy_str ca) |>.trans (by rw[h];try rfl)) rfl
  |false=>
   refine wC (vt (x := .str a) ∅ (truthy_str ca) |>.trans (by rw[h];try rfl)) rfl ?_;refine rN ?_;exact(vt (x := .str b) ∅ (truthy_str cb)).trans (by simp)
 unfold zV;cases hz:(a.isEmpty||b.isEmpty)with
 |true=>
  refine dW ?_;refine ev_bin nofun (x := .int 2) ∅ (ev_add (look_other rfl (ev_len ∅ (aF ∅ (λl h=>by injections h)) (lenv ca))) (ev_len ∅ (aF ∅ (λl h=>by injections h)) (lenv cb)) rfl) ?_
  rfl
 |false=>
  simp only[cond_false];have gt:∀(x y:Int),oZ .Gt (.int x) (.int y)=(true,decide (y<x)):=λ_ _=>rfl
  refine eQ (v := .bool (decide (40<a.length)||decide (40<b.length))) (c:=decide (40<a.length)||decide (40<b.length)) ∅ ?_ rfl ?_
  ·refine gT ?_
   have e1:∀n:Nat,decide ((40:Int)<(n:Int))=decide (40<n):=λn=>by
    by_cases h:40<n
    ·rw[decide_eq_true h,decide_eq_true ⋯]
    ·rw[decide_eq_false h,decide_eq_false ⋯]
   cases h:decide (40<a.length)with
   |true=>
    refine mx ((ev_cmp nofun (ev_len ∅ (aF ∅ (λl h=>by injections h)) (lenv ca)) (y := .int 40) ∅ (gt _ _)).trans (by rw[e1,h];try rfl)) rfl
   |false=>
    refine wC ((ev_cmp nofun (ev_len ∅ (aF ∅ (λl h=>by injections h)) (lenv ca)) (y := .int 40) ∅ (gt _ _)).trans (by rw[e1,h];try rfl)) rfl (rN ?_);exact(ev_cmp nofun (ev_len ∅ (aF ∅ (λl h=>by injections h)) (lenv cb)) (y := .int 40) ∅ (gt _ _)).trans (by rw[e1];try rfl)
  cases hl:(decide (40<a.length)||decide (40<b.length))with
  |true=>exact dW ∅
  |false=>
   simp only[cond_false];have e2:decide ((b.length:Int)<(a.length:Int))=decide (b.length<a.length):=by
    by_cases h:b.length<a.length
    ·rw[decide_eq_true h,decide_eq_true ⋯]
    ·rw[decide_eq_false h,decide_eq_false ⋯]
   have hlt:∀{N:Nat},ev ⟨GL,fn,meth⟩ vx 39 xD (eL (vS a) (vS b) (vI m) (vI k) (vI p) .un .un .un .un .un .un .un .un .un) (.Name "a" default)=(true, .str a)->True:=λ_=>trivial
   refine rL (v := .bool (decide (b.length<a.length))) (c:=decide (b.length<a.length)) (ρa:=eL (vS b) (vS a) (vI m) (vI k) (vI p) .un .un .un .un .un .un .un .un .un) (ρb:=eL (vS a) (vS b) (vI m) (vI k) (vI p) .un .un .un .un .un .un .un .un .un) (fa:=true) (fb:=true) ∅
    ((ev_cmp nofun (ev_len ∅ (aF ∅ (λl h=>by injections h)) (lenv cb)) (ev_len ∅ (aF ∅ (λl h=>by injections h)) (lenv ca)) (c:=decide (b.length<a.length)) (by rw[<-e2];rfl)))
    rfl ∅ ∅ (by simp) ?_
   cases hc:decide (b.length<a.length)with
   |true=>exact tP hs b a m k p hb ha (by have:=of_decide_eq_true hc;omega)
   |false=>exact tP hs a b m k p ha hb (by have:=of_decide_eq_false hc;omega)
theorem BF(a b:List Nat)(m:Int)(ha:a.length<=500)(hb:b.length<=500)(hs:tN fn):
 bN ⟨GL,fn,meth⟩ vx 1000 (cU ["a","b","max_cost"] gH) [.str a, .str b, .int m]=(true, .int (eu a b m)):=by
 refine zU ?_ rfl;show ex _ _ _ _ _ 200 _ (eL (vS a) (vS b) (vI m) .un .un .un .un .un .un .un .un .un .un .un)=_;refine eQ (v := .bool (ag a b)) (c:=ag a b) ∅ ∅ rfl ?_;unfold eu;cases ag a b with
 |true=>exact dW ∅
 |false=>
  simp only[cond_false];refine bC (v := .int 0) ∅ ∅ (ρ':=eL (vS a) (vS b) (vI m) (vI 0) .un .un .un .un .un .un .un .un .un .un) ∅ ?_;have ca:a.length<=cap:=by unfold cap;omega
  have cb:b.length<=cap:=by unfold cap;omega
  have pl:=wE a b;refine nV (ρ':=eL (vS a) (vS b) (vI m) (vI (bd a b)) .un .un .un .un .un .un .un .un .un .un) ?_ ?_
  ·have dr:∀(s:List Nat) j,s.length<=cap->(s.drop j).length<=cap:=λs j h=>by rw[List.length_drop];omega
   refine Eq.trans (kS (λj=>eL (vS a) (vS b) (vI m) (vI j) .un .un .un .un .un .un .un .un .un .un) (bd a b) 0 1000 ?_ ?_ ⋯) (by rw[Nat.zero_add])
   ·intro j _ hj
    have hj':j<bd a b:=⋯;obtain⟨h1,h2,h3⟩:=my a b j hj';refine⟨⟨.bool (ag [a.getD j 0] [b.getD j 0]), ?_,by rw[h3];rfl⟩, ?_⟩
    ·refine fM (eJ (aE ∅ ∅ rfl rfl (bn ca)) (by rw[truthy_str (dr _ _ ca),gb h1];rfl) (eJ (aE ∅ ∅ rfl rfl (bn cb)) (by rw[truthy_str (dr _ _ cb),gb h2];rfl)
      (iV (ev_cmp nofun (ah rfl (aF ∅ (λl h=>by injections h)) ∅ (ty:=0) ∅ (gG ca h1)) (ah rfl (aF ∅ (λl h=>by injections h)) ∅ (ty:=0) ∅ (gG cb h2)) rfl))))
    ·exact zQ ∅ cV
   ·rw[Nat.zero_add]
    by_cases h1:bd a b<a.length
    ·by_cases h2:bd a b<b.length
     ·have h3:=rU a b h1 h2
      refine⟨.bool (ag [a.getD (bd a b) 0] [b.getD (bd a b) 0]), ?_,by rw[h3];rfl⟩;refine fM (eJ (aE ∅ ∅ rfl rfl (bn ca)) (by rw[truthy_str (dr _ _ ca),gb h1];rfl) (eJ (aE ∅ ∅ rfl rfl (bn cb)) (by rw[truthy_str (dr _ _ cb),gb h2];rfl)
       (iV (ev_cmp nofun (ah rfl (aF ∅ (λl h=>by injections h)) ∅ (ty:=0) ∅ (gG ca h1)) (ah rfl (aF ∅ (λl h=>by injections h)) ∅ (ty:=0) ∅ (gG cb h2)) rfl))))
     ·refine⟨.str (b.drop (bd a b)), ?_,by rw[truthy_str (dr _ _ cb),iW ⋯];rfl⟩
      exact fM (eJ (aE ∅ ∅ rfl rfl (bn ca)) (by rw[truthy_str (dr _ _ ca),gb h1];rfl) (f9 (aE ∅ ∅ rfl rfl (bn cb)) (by rw[truthy_str (dr _ _ cb),iW ⋯];rfl)))
    ·refine⟨.str (a.drop (bd a b)), ?_,by rw[truthy_str (dr _ _ ca),iW ⋯];rfl⟩
     exact fM (f9 (aE ∅ ∅ rfl rfl (bn ca)) (by rw[truthy_str (dr _ _ ca),iW ⋯];rfl))
  refine bC (v := .str (a.drop (bd a b))) (aE ∅ ∅ rfl rfl (bn ca)) ∅ (ρ':=eL (vS (a.drop (bd a b))) (vS b) (vI m) (vI (bd a b)) .un .un .un .un .un .un .un .un .un .un) ∅ ?_;refine bC (v := .str (b.drop (bd a b))) (aE ∅ ∅ rfl rfl (bn cb)) ∅ (ρ':=eL (vS (a.drop (bd a b))) (vS (b.drop (bd a b))) (vI m) (vI (bd a b)) .un .un .un .un .un .un .un .un .un .un) ∅ ?_;have ca1:(a.drop (bd a b)).length<=cap:=by rw[List.length_drop];omega
  have cb1:(b.drop (bd a b)).length<=cap:=by rw[List.length_drop];omega
  have ha1:(a.drop (bd a b)).length<=500:=by rw[List.length_drop];omega
  have hb1:(b.drop (bd a b)).length<=500:=by rw[List.length_drop];omega
  generalize (bd a b:Int)=k;generalize a.drop (bd a b)=a1 at *;generalize b.drop (bd a b)=b1 at *;refine bC (v := .int 0) ∅ ∅ (ρ':=eL (vS a1) (vS b1) (vI m) (vI k) (vI 0) .un .un .un .un .un .un .un .un .un) ∅ ?_;have pl1:=wE a1.reverse b1.reverse;rw[List.length_reverse,List.length_reverse]at pl1;have ce:∀(s:List Nat) j,s.length<=cap->(aP s j).length<=cap:=λs j h=>by unfold aP;rw[List.length_take];omega
  have upto:∀(nme:Str) (s:List Nat) (ρ:Rho) (j:Nat),s.length<=cap->j<=s.length->ev ⟨GL,fn,meth⟩ vx 38 xD ρ (.Name nme default)=(true, .str s)->True:=λ_ _ _ _ _ _ _=>trivial
  have orv:∀(j:Nat) {E:Expr->R} {e1 e2:Expr},E e1=(true, .int (-(j:Int)))->E e2=(true, .none)->pe E [e1,e2]=(true,if j=0 then .none else .int (-(j:Int))):=λj {E e1 e2} h1 h2=>by
   by_cases h:j=0
   ·rw[if_pos h]
    exact wC h1 (by show((true, !decide (-(j:Int)=0)):Bool×Bool)=_;rw[h];rfl) (rN h2)
   ·rw[if_neg h]
    exact mx h1 (by show((true, !decide (-(j:Int)=0)):Bool×Bool)=_;rw[decide_eq_false ⋯];rfl)
  have sl:∀(s:List Nat) (j:Nat),s.length<=cap->j<=s.length->eC (.str s) .none (if j=0 then .none else .int (-(j:Int))) .none=(true, .str (aP s j)):=λs j h hj=>by
   by_cases h0:j=0
   ·rw[if_pos h0,h0]
    have:aP s 0=s:=by unfold aP;simp
    rw[this];exact xC h
   ·rw[if_neg h0];exact vu h ⋯ hj
  have neg1:∀j:Nat,(-(j:Int)-1) = -((j+1:Nat):Int):=λj=>⋯
  have rg:∀(s:List Nat) (j:Nat),j<s.length->s.reverse.getD j 0=s.getD (s.length-(j+1)) 0:=λs j h=>by
   rw[List.getD_eq_getElem?_getD,List.getD_eq_getElem?_getD,List.getElem?_reverse h]
   congr 2
   omega
  have ne1:∀(s:List Nat) (j:Nat),j<s.length->(aP s j).isEmpty=false:=λs j h=>by
   rw[List.isEmpty_eq_false_iff];intro e;have:=congrArg List.length e;unfold aP at this;rw[List.length_take]at this;simp at this;omega
  have em1:∀(s:List Nat) (j:Nat),s.length<=j->(aP s j).isEmpty=true:=λs j h=>by
   unfold aP;rw[show s.length-j=0 by omega];simp
  refine nV (ρ':=eL (vS a1) (vS b1) (vI m) (vI k) (vI (-(bd a1.reverse b1.reverse:Int))) .un .un .un .un .un .un .un .un .un) ?_ ?_
  ·refine Eq.trans (kS (λj=>eL (vS a1) (vS b1) (vI m) (vI k) (vI (-(j:Int))) .un .un .un .un .un .un .un .un .un) (bd a1.reverse b1.reverse) 0 1000 ?_ ?_ ⋯) (by rw[Nat.zero_add])
   ·intro j _ hj
    have hj':j<bd a1.reverse b1.reverse:=⋯;obtain⟨h1,h2,h3⟩:=my _ _ j hj';rw[List.length_reverse]at h1 h2;rw[rg _ _ h1,rg _ _ h2]at h3;refine⟨⟨.bool (ag [a1.getD (a1.length-(j+1)) 0] [b1.getD (b1.length-(j+1)) 0]), ?_,by rw[h3];rfl⟩, ?_⟩
    ·refine fM (eJ (aE ∅ rfl (ck (gT (orv j ∅ ∅))) rfl (sl a1 j ca1 ⋯)) (by rw[truthy_str (ce _ _ ca1),ne1 _ _ h1];rfl) (eJ (aE ∅ rfl (ck (gT (orv j ∅ ∅))) rfl (sl b1 j cb1 ⋯)) (by rw[truthy_str (ce _ _ cb1),ne1 _ _ h2];rfl)
      (iV (ev_cmp nofun (ah rfl (aF ∅ (λl h=>by injections h)) (Eq.trans (b:=(true, .int (-(j:Int)-1))) ∅ (by rw[neg1])) (ty:=0) ∅ (j5 ca1 ⋯ ⋯))
        (ah rfl (aF ∅ (λl h=>by injections h)) (Eq.trans (b:=(true, .int (-(j:Int)-1))) ∅ (by rw[neg1])) (ty:=0) ∅ (j5 cb1 ⋯ ⋯)) rfl))))
    ·refine Eq.trans (zQ (ρ':=eL (vS a1) (vS b1) (vI m) (vI k) (vI (-(j:Int)-1)) .un .un .un .un .un .un .un .un .un) ∅ cV) ?_
     rw[neg1]
   ·rw[Nat.zero_add]
    generalize hq:bd a1.reverse b1.reverse=q at *
    by_cases h1:q<a1.length
    ·by_cases h2:q<b1.length
     ·have h3:=rU a1.reverse b1.reverse (by rw[hq,List.length_reverse];exact h1) (by rw[hq,List.length_reverse];exact h2)
      rw[hq,rg _ _ h1,rg _ _ h2]at h3;refine⟨.bool (ag [a1.getD (a1.length-(q+1)) 0] [b1.getD (b1.length-(q+1)) 0]), ?_,by rw[h3];rfl⟩;refine fM (eJ (aE ∅ rfl (ck (gT (orv q ∅ ∅))) rfl (sl a1 q ca1 ⋯)) (by rw[truthy_str (ce _ _ ca1),ne1 _ _ h1];rfl) (eJ (aE ∅ rfl (ck (gT (orv q ∅ ∅))) rfl (sl b1 q cb1 ⋯)) (by rw[truthy_str (ce _ _ cb1),ne1 _ _ h2];rfl)
       (iV (ev_cmp nofun (ah rfl (aF ∅ (λl h=>by injections h)) (Eq.trans (b:=(true, .int (-(q:Int)-1))) ∅ (by rw[neg1])) (ty:=0) ∅ (j5 ca1 ⋯ ⋯))
         (ah rfl (aF ∅ (λl h=>by injections h)) (Eq.trans (b:=(true, .int (-(q:Int)-1))) ∅ (by rw[neg1])) (ty:=0) ∅ (j5 cb1 ⋯ ⋯)) rfl))))
     ·refine⟨.str (aP b1 q), ?_,by rw[truthy_str (ce _ _ cb1),em1 _ _ ⋯];rfl⟩
      exact fM (eJ (aE ∅ rfl (ck (gT (orv q ∅ ∅))) rfl (sl a1 q ca1 ⋯)) (by rw[truthy_str (ce _ _ ca1),ne1 _ _ h1];rfl) (f9 (aE ∅ rfl (ck (gT (orv q ∅ ∅))) rfl (sl b1 q cb1 ⋯)) (by rw[truthy_str (ce _ _ cb1),em1 _ _ ⋯];rfl)))
    ·refine⟨.str (aP a1 q), ?_,by rw[truthy_str (ce _ _ ca1),em1 _ _ ⋯];rfl⟩
     exact fM (f9 (aE ∅ rfl (ck (gT (orv q ∅ ∅))) rfl (sl a1 q ca1 ⋯)) (by rw[truthy_str (ce _ _ ca1),em1 _ _ ⋯];rfl))
  refine bC (v := .str (aP a1 (bd a1.reverse b1.reverse))) (aE ∅ rfl (ck (gT (orv _ ∅ ∅))) rfl (sl a1 _ ca1 ⋯)) ∅ (ρ':=eL (vS (aP a1 (bd a1.reverse b1.reverse))) (vS b1) (vI m) (vI k) (vI (-(bd a1.reverse b1.reverse:Int))) .un .un .un .un .un .un .un .un .un) ∅ ?_;refine bC (v := .str (aP b1 (bd a1.reverse b1.reverse))) (aE ∅ rfl (ck (gT (orv _ ∅ ∅))) rfl (sl b1 _ cb1 ⋯)) ∅ (ρ':=eL (vS (aP a1 (bd a1.reverse b1.reverse))) (vS (aP b1 (bd a1.reverse b1.reverse))) (vI m) (vI k) (vI (-(bd a1.reverse b1.reverse:Int))) .un .un .un .un .un .un .un .un .un) ∅ ?_;have la:(aP a1 (bd a1.reverse b1.reverse)).length<=500:=by unfold aP;rw[List.length_take];omega
  have lb:(aP b1 (bd a1.reverse b1.reverse)).length<=500:=by unfold aP;rw[List.length_take];omega
  show _=((true,fV.ret (.int (zV (aP a1 (bd a1.reverse b1.reverse)) (aP b1 (bd a1.reverse b1.reverse)) m))):Res);exact BE hs _ _ m _ _ la lb
end
end
section
open PySem PySem.W PySem.Challenge
structure WS where
 n:Nat
 nt:Nat
 cnt:List Int
 b:Nat
noncomputable def og(s:WS):WS:=
 let c:=bif decide (s.cnt.length<=s.b)then s.cnt++List.replicate (s.b+1-s.cnt.length) 0 else s.cnt
 ⟨s.n+1,s.nt+1,c.set s.b (c.getD s.b 0+1),0⟩
noncomputable def oh:List Nat->WS->WS
 |[],s=>s
 |c::l,s=>bif ag [c] [32]then oh l ⟨s.n+1,s.nt,s.cnt,s.b+1⟩else bif ag [c] [9]then oh l (og s)else s
section
noncomputable abbrev BG:List (Str×NameKind):=fJ.scope.names
noncomputable abbrev BH:Tau:=[(nm "count",1)]
noncomputable def mz:Fns:=⟨GL,[],[]⟩
noncomputable def eW(self ws S T count b n nt ch:Mine.Slot):Rho:=[(nm "self",self),(nm "ws",ws),(nm "S",S),(nm "T",T),(nm "count",count),(nm "b",b),(nm "n",n),(nm "nt",nt),(nm "ch",ch)]
noncomputable def sp(x:Nat)(raw:List Nat)(s:WS)(ch:Mine.Slot):Rho:=eW (.val (.obj x raw)) (vS raw) (vS [32]) (vS [9]) (.own (s.cnt.map .int)) (vI s.b) (vI s.n) (vI s.nt) ch
noncomputable abbrev Dq:List Stmt:=j6 fJ.body[4]?
noncomputable abbrev Fe:Expr:=cz fJ.body[4]?
theorem qt(k:Int):eZ [V.int 0] k=(List.replicate k.toNat (0:Int)).map V.int:=by
 unfold eZ
 induction k.toNat with
 |zero=>rfl
 |succ n ih=>rw[List.replicate_succ,List.flatten_cons,ih,List.replicate_succ];rfl
theorem Dr{μ:List Nm}(hμ:jI (nm "count") μ=true)(x:Nat)(raw:List Nat)(s:WS)(c:Nat)(h32:ag [c] [32]=false)(h9:ag [c] [9]=true)(hb:s.b<=400)(hc:s.cnt.length<=401):
 ex mz BH μ 1000 BG 195 Dq (sp x raw s (vS [c]))=(true, .next (sp x raw (og s) (vS [c]))):=by
 obtain⟨n,nt,cnt,b⟩:=s;dsimp only at hb hc;have cc:cnt.length<=cap:=by unfold cap;omega
 refine eQ (v := .bool (ag [c] [32])) (c:=ag [c] [32]) ∅ ∅ rfl ?_;rw[h32];refine eQ (v := .bool (ag [c] [9])) (c:=ag [c] [9]) ∅ ∅ rfl ?_;rw[h9];refine bC (v := .int ((n:Int)+1)) ∅ ∅ (ρ':=eW (.val (.obj x raw)) (vS raw) (vS [32]) (vS [9]) (.own (cnt.map .int)) (vI b) (vI ((n:Int)+1)) (vI nt) (vS [c])) ∅ ?_;refine bC (v := .int ((nt:Int)+1)) ∅ ∅ (ρ':=eW (.val (.obj x raw)) (vS raw) (vS [32]) (vS [9]) (.own (cnt.map .int)) (vI b) (vI ((n:Int)+1)) (vI ((nt:Int)+1)) (vS [c])) ∅ ?_;have hl:((cnt.map V.int).length:Int)=(cnt.length:Int):=by rw[List.length_map]
 have hl':(cnt.map V.int).length<=cap:=by rw[List.length_map];exact cc
 have lenv:lW (.list (cnt.map .int))=(true, .int cnt.length):=by
  show((decide ((cnt.map V.int).length<=cap),V.int (cnt.map V.int).length):R)=_;rw[decide_eq_true hl',hl]
 have hd:decide ((cnt.length:Int)<=(b:Int))=decide (cnt.length<=b):=by
  by_cases h:cnt.length<=b
  ·rw[decide_eq_true h,decide_eq_true ⋯]
  ·rw[decide_eq_false h,decide_eq_false ⋯]
 have hmul:de .Mult (.list [.int 0]) (.int ((b:Int)-cnt.length+1))=(true, .list (eZ [.int 0] ((b:Int)-cnt.length+1))):=by
  show((decide (-1000<=(b:Int)-cnt.length+1)&&decide ((b:Int)-cnt.length+1<=1000)&&decide (1<=1000),V.list _):R)=_;rw[decide_eq_true (show -1000<=(b:Int)-cnt.length+1 by omega),decide_eq_true (show(b:Int)-cnt.length+1<=1000 by omega)]
  rfl
 have hrl:(eZ [V.int 0] ((b:Int)-cnt.length+1)).length<=402:=by rw[qt];simp;omega
 have hadd:de .Add (.list (cnt.map .int)) (.list (eZ [.int 0] ((b:Int)-cnt.length+1)))=(true, .list (cnt.map .int++eZ [.int 0] ((b:Int)-cnt.length+1))):=by
  show((decide ((cnt.map V.int).length+(eZ [V.int 0] ((b:Int)-cnt.length+1)).length<=cap),V.list _):R)=_;rw[decide_eq_true (by rw[List.length_map];unfold cap;omega)]
 obtain⟨c',hc'⟩:∃c',c'=bif decide (cnt.length<=b)then cnt++List.replicate (b+1-cnt.length) 0 else cnt:=⟨_,rfl⟩
 have hset:og ⟨n,nt,cnt,b⟩=⟨n+1,nt+1,c'.set b (c'.getD b 0+1),0⟩:=by rw[hc'];rfl
 have e1:cnt.map V.int++eZ [V.int 0] ((b:Int)-cnt.length+1)=(cnt++List.replicate ((b:Int)-cnt.length+1).toNat 0).map V.int:=by rw[qt,List.map_append]
 have blt:b<c'.length:=by
  rw[hc'];cases h:decide (cnt.length<=b)with
  |true=>simp;omega
  |false=>have:=of_decide_eq_false h;simp;omega
 have clen:c'.length<=900:=by
  rw[hc'];cases h:decide (cnt.length<=b)with
  |true=>simp;omega
  |false=>simp;omega
 refine rL (v := .bool (decide ((cnt.length:Int)<=(b:Int)))) (c:=decide (cnt.length<=b)) (ρa:=eW (.val (.obj x raw)) (vS raw) (vS [32]) (vS [9]) (.own (cnt.map .int++eZ [.int 0] ((b:Int)-cnt.length+1))) (vI b) (vI ((n:Int)+1)) (vI ((nt:Int)+1)) (vS [c]))
  (ρb:=eW (.val (.obj x raw)) (vS raw) (vS [32]) (vS [9]) (.own (cnt.map .int)) (vI b) (vI ((n:Int)+1)) (vI ((nt:Int)+1)) (vS [c])) (fa:=true) (fb:=true) ∅
  (ev_cmp nofun (x := .int (b:Int)) ∅ (ev_len ∅ (f8 (l:=cnt.map .int) ∅ ∅) lenv) rfl) (by rw[hd];rfl) ?_ ∅ (by simp) ?_
 ·refine bC (v := .list (cnt.map .int++eZ [.int 0] ((b:Int)-cnt.length+1))) (ev_add (f8 (l:=cnt.map .int) ∅ ∅) (ev_bin nofun (x := .list [.int 0]) ∅
   (ev_add (look_other rfl (ev_bin nofun (x := .int (b:Int)) ∅ (ev_len ∅ (f8 (l:=cnt.map .int) ∅ ∅) lenv) rfl)) (y := .int 1) ∅ rfl) hmul) hadd) ∅ ?_ cV
  show put _ (nm "count") (bif jI (nm "count") μ&&true then _ else _)=_;rw[hμ]
  kernel_rfl
 ·have hm:∀y:List V,y=c'.map V.int->ex mz BH μ 1000 BG 190 (Dq.drop 0) (eW (.val (.obj x raw)) (vS raw) (vS [32]) (vS [9]) (.own y) (vI b) (vI ((n:Int)+1)) (vI ((nt:Int)+1)) (vS [c]))=ex mz BH μ 1000 BG 190 (Dq.drop 0) (eW (.val (.obj x raw)) (vS raw) (vS [32]) (vS [9]) (.own (c'.map V.int)) (vI b) (vI ((n:Int)+1)) (vI ((nt:Int)+1)) (vS [c])):=λy h=>by rw[h]
  have mg:∀(ns:List Nm),ns=[nm "count"]->gQ ns (decide (cnt.length<=b)) (eW (.val (.obj x raw)) (vS raw) (vS [32]) (vS [9]) (.own (cnt.map .int++eZ [.int 0] ((b:Int)-cnt.length+1))) (vI b) (vI ((n:Int)+1)) (vI ((nt:Int)+1)) (vS [c]))
   (eW (.val (.obj x raw)) (vS raw) (vS [32]) (vS [9]) (.own (cnt.map .int)) (vI b) (vI ((n:Int)+1)) (vI ((nt:Int)+1)) (vS [c]))=eW (.val (.obj x raw)) (vS raw) (vS [32]) (vS [9]) (.own (c'.map .int)) (vI b) (vI ((n:Int)+1)) (vI ((nt:Int)+1)) (vS [c]):=λns h=>by
   rw[h,hc',e1];cases hcc:decide (cnt.length<=b)with
   |true=>
    have:cnt.length<=b:=of_decide_eq_true hcc;have e3:((b:Int)-cnt.length+1).toNat=b+1-cnt.length:=⋯;rw[e3];kernel_rfl
   |false=>kernel_rfl
  rw[mg _ ∅];have hlt:b<(c'.map V.int).length:=by rw[List.length_map];exact blt
  have hlc:(c'.map V.int).length<=cap:=by rw[List.length_map];unfold cap;omega
  refine jz (l:=c'.map .int) (j:=b) (v := .int (c'.getD b 0+1)) ∅ ∅ (ev_add (look_other rfl (ah rfl (f8 (l:=c'.map .int) ∅ ∅) (y := .int (b:Int)) ∅ (ty:=1) ∅ (sub_int hlc hlt (n8 blt)))) (y := .int 1) ∅ rfl)
   ∅ hlt hlc (ρ':=eW (.val (.obj x raw)) (vS raw) (vS [32]) (vS [9]) (.own (gW (c'.map .int) b (.int (c'.getD b 0+1)))) (vI b) (vI ((n:Int)+1)) (vI ((nt:Int)+1)) (vS [c])) ∅ ?_
  refine bC (v := .int 0) ∅ ∅ (ρ':=sp x raw (og ⟨n,nt,cnt,b⟩) (vS [c])) ?_ cV;rw[hset];unfold sp;dsimp only;rw[<-tO]
  kernel_rfl
theorem ED{μ:List Nm}(x:Nat)(raw:List Nat)(s:WS)(c:Nat)(h32:ag [c] [32]=true):ex mz BH μ 1000 BG 195 Dq (sp x raw s (vS [c]))=(true, .next (sp x raw ⟨s.n+1,s.nt,s.cnt,s.b+1⟩ (vS [c]))):=by
 obtain⟨n,nt,cnt,b⟩:=s;refine eQ (v := .bool (ag [c] [32])) (c:=ag [c] [32]) ∅ ∅ rfl ?_;rw[h32];refine bC (v := .int ((n:Int)+1)) ∅ ∅ (ρ':=eW (.val (.obj x raw)) (vS raw) (vS [32]) (vS [9]) (.own (cnt.map .int)) (vI b) (vI ((n:Int)+1)) (vI nt) (vS [c])) ∅ ?_;exact bC (v := .int ((b:Int)+1)) ∅ ∅ (ρ':=eW (.val (.obj x raw)) (vS raw) (vS [32]) (vS [9]) (.own (cnt.map .int)) (vI ((b:Int)+1)) (vI ((n:Int)+1)) (vI nt) (vS [c])) ∅ cV
theorem Ds{μ:List Nm}(x:Nat)(raw:List Nat)(s:WS)(c:Nat)(h32:ag [c] [32]=false)(h9:ag [c] [9]=false):ex mz BH μ 1000 BG 195 Dq (sp x raw s (vS [c]))=(true, .brk (sp x raw s (vS [c]))):=by
 refine eQ (v := .bool (ag [c] [32])) (c:=ag [c] [32]) ∅ ∅ rfl ?_;rw[h32];refine eQ (v := .bool (ag [c] [9])) (c:=ag [c] [9]) ∅ ∅ rfl ?_;rw[h9]
 rfl
theorem qu{s:WS}(h:s.cnt.length<=401)(hb:s.b<=400):(og s).cnt.length<=401:=by
 unfold og;simp only[List.length_set];cases h2:decide (s.cnt.length<=s.b)with
 |true=>simp;omega
 |false=>simpa using h
theorem rV{μ:List Nm}(hμ:jI (nm "count") μ=true)(x:Nat)(raw:List Nat){s0:WS}:∀(l:List Nat) (s:WS),s.b+l.length<=400->s.cnt.length<=401 ->
 bY (λv ρ=>((bh Fe v ρ).1&&(ex mz BH μ 1000 BG 195 Dq (bh Fe v ρ).2).1,(ex mz BH μ 1000 BG 195 Dq (bh Fe v ρ).2).2)) (sp x raw s0 .un) (ya l) (sp x raw s .un)=(true, .next (sp x raw (oh l s) .un))
 |[],s,_,_=>rfl
 |c::l,s,hb,hc=>by
  rw[List.length_cons]at hb;have mk:∀u:WS,mask (sp x raw s0 .un) (sp x raw u (vS [c]))=sp x raw u .un:=λu=>∅
  have tg:bh Fe (.str [c]) (sp x raw s .un)=(true,sp x raw s (vS [c])):=∅;show bY _ _ (V.str [c]::ya l) _=_;unfold oh;cases h32:ag [c] [32]with
  |true=>
   refine fu (fH tg (ED x raw s c h32)) ?_;rw[mk];exact rV hμ x raw l ⟨s.n+1,s.nt,s.cnt,s.b+1⟩ (by show s.b+1+l.length<=400;omega) hc
  |false=>
   cases h9:ag [c] [9]with
   |true=>
    refine fu (fH tg (Dr hμ x raw s c h32 h9 ⋯ hc)) ?_;rw[mk];exact rV hμ x raw l (og s) (by show 0+l.length<=400;omega) (qu hc ⋯)
   |false=>
    refine(BC (fH tg (Ds x raw s c h32 h9))).trans ?_;rw[mk];rfl
noncomputable abbrev Cm:List Stmt:=(fJ.body.drop 1).take 4
theorem Dt(x:Nat)(raw:List Nat)(hr:raw.length<=400):ex mz BH (aM (fW 20) fJ.body) 1000 BG 200 Cm (cK BG [(nm "self", .obj x raw),(nm "ws", .str raw)])=(true, .next (sp x raw (oh raw ⟨0,0,[],0⟩) .un)):=by
 have cr:raw.length<=cap:=by unfold cap;omega
 refine cw (ρ':=eW (.val (.obj x raw)) (vS raw) (vS [32]) (vS [9]) .un .un .un .un .un) ∅ ?_;refine bC (v := .list []) ∅ ∅ (ρ':=eW (.val (.obj x raw)) (vS raw) (vS [32]) (vS [9]) (.own []) .un .un .un .un) ∅ ?_;refine cw (ρ':=sp x raw ⟨0,0,[],0⟩ .un) ∅ ?_;refine rM (cY (by rfl) (v := .str raw) ∅ (xs:=ya raw) (by show((decide (raw.length<=cap),ya raw):Bool×List V)=_;rw[decide_eq_true cr]) (.inl rfl)) ∅ ?_ cV;have:=rV (μ:=aM (fW 20) fJ.body) (s0:=⟨0,0,[],0⟩) ∅ x raw raw ⟨0,0,[],0⟩ (by simpa using hr) (by simp);exact this
noncomputable def BI:Stmt->List Pos
 | .Assign [.Attribute (.Name _ a) _ b] _ c=>[a,b,c]
 |_=>[]
noncomputable def rW(s:Option Stmt):Expr:=match s with
 |some (.Assign _ e _)=>e
 |_ => .Name "" default
noncomputable def runW:WsRun:=λraw=>(decide (raw.length<=400),(oh raw ⟨0,0,[],0⟩).n,(oh raw ⟨0,0,[],0⟩).nt,(oh raw ⟨0,0,[],0⟩).cnt,(oh raw ⟨0,0,[],0⟩).b)
theorem oj:∀(l:List Nat) (s:WS),s.b+l.length<=400->s.cnt.length<=401->(oh l s).cnt.length<=401
 |[],s,_,h=>h
 |c::l,s,hb,h=>by
  rw[List.length_cons]at hb;unfold oh;cases ag [c] [32]with
  |true=>exact oj l _ (by show s.b+1+l.length<=400;omega) h
  |false=>
   cases ag [c] [9]with
   |true=>exact oj l _ (by show 0+l.length<=400;omega) (qu h ⋯)
   |false=>exact h
theorem BJ:rH mz BH 1000 (cU ["self","ws"] fJ) runW:=by
 refine⟨_,_,_,_,Cm,λi=>((fJ.body.drop 5).flatMap BI).getD i default,rW fJ.body[5]?,rW fJ.body[6]?,rW fJ.body[7]?,rW fJ.body[8]?,rfl,∅,∅,List.forall_mem_cons.mpr ⟨∅,List.forall_mem_cons.mpr ⟨∅,List.forall_mem_cons.mpr ⟨∅,List.forall_mem_cons.mpr ⟨∅,λ_ h=>nomatch h⟩⟩⟩⟩,rfl,rfl,rfl,rfl,rfl,λx raw h => ?_,λraw h n nt cnt b e => ?_⟩
 ·have hr:raw.length<=400:=of_decide_eq_true h
  refine⟨_,aM (fW 20) fJ.body,Dt x raw hr,∅,∅,∅,∅,∅⟩
 ·have hr:raw.length<=400:=of_decide_eq_true h
  have hl:cnt.length<=401:=by
   have:=oj raw ⟨0,0,[],0⟩ (by simpa using hr) (by simp);unfold runW at e;simp only[Prod.mk.injEq]at e;rw[<-e.2.2.2.1];exact this
  have hl':(cnt.map V.int).length<=cap:=by rw[List.length_map];unfold cap;omega
  refine⟨∅,∅, ?_, ?_⟩
  ·refine tL (evL_of (x := .tup (cnt.map .int)) (ev_call ∅ ∅ ∅ (evL_of (x := .list (cnt.map .int)) ∅ evL_nil) (bg rfl ?_)) (evL_of (x := .int b) ∅ evL_nil)) (by simp[cap])
   show((decide ((cnt.map V.int).length<=cap),V.tup (cnt.map V.int)):R)=_;rw[decide_eq_true hl']
  ·have:(decide (((cnt.map V.int).length:Int)<=1))=decide (cnt.length<=1):=by
    rw[List.length_map]
    by_cases h:cnt.length<=1
    ·rw[decide_eq_true h,decide_eq_true ⋯]
    ·rw[decide_eq_false h,decide_eq_false ⋯]
   rw[<-this];refine ev_cmp nofun (x := .int ((cnt.map V.int).length:Int)) (y := .int 1) (ev_len ∅ (aF (v := .list (cnt.map .int)) ∅ (λl h=>by injections h)) ?_) ∅ rfl;show((decide ((cnt.map V.int).length<=cap),V.int ((cnt.map V.int).length:Int)):R)=_;rw[decide_eq_true hl']
end
end
section
open PySem PySem.W PySem.Challenge
theorem EE:Ew mz (cU ["code"] F8) where
 body:=⟨_,_,_,_,nm "code",rfl,rfl,λc=>ev_call ∅ ∅ ∅ (evL_of (x := .str [c]) ∅ evL_nil) (bg rfl ∅)⟩
 glob:=∅
noncomputable abbrev oo:List Stmt:=Fd.body.drop 1
theorem EF:Ey mz (cU ["code"] Fd) (nm "code") oo where
 params:=rfl
 body:=⟨_,_,_,_,_,_,rfl,rfl,λc=>ev_call ∅ ∅ ∅ (evL_of (x := .str [c]) ∅ evL_nil) (bg rfl ∅),rfl,λe p h=>by cases h⟩
 glob:=∅
 loc:=∅
noncomputable abbrev xF:List (Str×NameKind):=Fd.scope.names
noncomputable def lH(L:List (Int×Str))(c:Nat):List Nat:=match L.lookup (c:Int)with
 |some y=>nm y
 |none=>bW [c]
theorem Du(L:List (Int×Str))(c:Nat):FM mz 1000 L xF (nm "code") oo [.str [c]]=(true, .str (lH L c)):=by
 show jN (ex mz [] [] 1000 xF 200 oo (put (cK xF [(nm "code", .str [c])]) (nm "r") (.val (yb L c))))=_;have e:ex mz [] [] 1000 xF 200 oo (put (cK xF [(nm "code", .str [c])]) (nm "r") (.val (yb L c)))=(true, .ret (.str (lH L c))):=by
  unfold yb lH;cases L.lookup (c:Int)with
  |some y=>
   refine eQ (v := .bool true) (c:=true) ∅ ∅ rfl ?_;exact dW ∅
  |none=>
   refine eQ (v := .bool false) (c:=false) ∅ ∅ rfl ?_;exact dW ∅
 rw[e];rfl
theorem zW:F6 mz (cU ["data"] zS) where
 body:=⟨nm "data",_,_,_,_,_,_,_,_,_,_,rfl,rfl,rfl,rfl,λs=>⟨∅,∅,∅⟩⟩
 glob1:=∅
 glob2:=∅
noncomputable def fSub:List V->R:=bN mz [] 1000 (cU ["ch_a","ch_b"] Do)
noncomputable def EG:Fns:=⟨GL,[(nm "_substitution_cost",fSub)],[]⟩
noncomputable def fLev:List V->R:=bN EG vx 1000 (cU ["a","b","max_cost"] gH)
noncomputable def BK:List V->R:=bN mz [] 1000 (cU ["self"] Dp)
noncomputable def j7:List V->R:=bN mz [(nm "count",1)] 1000 (cU ["self","tabsize"] rS)
theorem rX(a b:List Nat)(m:Int)(ha:a.length<=500)(hb:b.length<=500):fLev [.str a, .str b, .int m]=(true, .int (eu a b m)):=
 BF a b m ha hb ⟨λx y=>⟨fSub,rfl,BD x y⟩,rfl⟩
end
section
open PySem PySem.W PySem.Calls PyProof.Rows PySem.Challenge
noncomputable abbrev GW(w:World)(h:Heap):Cfg:=⟨PW,w,195,h⟩
section
variable {w:World} {h:Heap}
noncomputable abbrev lI(h:Heap):Prop:=dw (fR PW) 88 rowsL h
theorem bo(B:lI h){i:Nat}{x:Addr×Obj}(e:(fR PW).objs[i]? = some x):∃o,h.get? x.1=some o/\gv o=x.2:=B.objs x (List.mem_of_getElem? e)
theorem co(B:lI h){i:Nat}{x:Addr×Str}(e:(fR PW).codes[i]? = some x):h.CodeRec (.ref x.1) x.2:=B.codes x (List.mem_of_getElem? e)
theorem EH(B:lI h):cH (GW w h) 45 (cU ["ch_a","ch_b"] Do):=bz (c:=44) (q:="_substitution_cost") (bo B (i:=1) rfl) (co B (i:=1) rfl) (λpm doc=>qo λu0 u1=>∅) ∅
theorem EI(B:lI h):cH (GW w h) 52 (cU ["a","b","max_cost"] gH):=bz (c:=51) (q:="_levenshtein_distance") (bo B (i:=2) rfl) (co B (i:=2) rfl) (λpm doc=>zP λu0 u1 u2=>∅) ∅
theorem BL(B:lI h):cH (GW w h) 69 (cU ["data"] zS):=bz (c:=68) (q:="quotedata") (bo B (i:=3) rfl) (co B (i:=3) rfl) (λpm doc=>lG λu0=>∅) ∅
theorem FQ(B:lI h):cH (GW w h) 87 (cU ["code"] F8):=bz (c:=86) (q:="in_table_b1") (bo B (i:=4) rfl) (co B (i:=4) rfl) (λpm doc=>lG λu0=>∅) ∅
theorem FR(B:lI h):cH (GW w h) 133 (cU ["code"] Fd):=bz (c:=132) (q:="map_table_b3") (bo B (i:=5) rfl) (co B (i:=5) rfl) (λpm doc=>lG λu0=>∅) ∅
theorem Dv(B:lI h):cH (GW w h) 150 (cU ["self","ws"] fJ):=bz (c:=149) (q:="Whitespace.__init__") (bo B (i:=6) rfl) (co B (i:=6) rfl) (λpm doc=>qo λu0 u1=>∅) ∅
theorem Dw(B:lI h):∃o fd,h.get? 150=some o/\o.cls = .type "function"/\o.data = .func fd:=by
 obtain⟨o,e1,e2⟩:=bo B (i:=6) rfl;obtain⟨pm,doc,e3,e4⟩:=cX e2;exact⟨o,_,e1,e3,e4⟩
theorem EJ(B:lI h):cH (GW w h) 157 (cU ["self"] Dp):=bz (c:=156) (q:="Whitespace.longest_run_of_spaces") (bo B (i:=7) rfl) (co B (i:=7) rfl) (λpm doc=>lG λu0=>∅) ∅
theorem EK(B:lI h):∃o fd,h.get? 157=some o/\o.cls = .type "function"/\o.data = .func fd:=by
 obtain⟨o,e1,e2⟩:=bo B (i:=7) rfl;obtain⟨pm,doc,e3,e4⟩:=cX e2;exact⟨o,_,e1,e3,e4⟩
theorem zX(B:lI h):cH (GW w h) 164 (cU ["self","tabsize"] rS):=bz (c:=163) (q:="Whitespace.indent_level") (bo B (i:=8) rfl) (co B (i:=8) rfl) (λpm doc=>qo λu0 u1=>∅) ∅
theorem zY(B:lI h):∃o fd,h.get? 164=some o/\o.cls = .type "function"/\o.data = .func fd:=by
 obtain⟨o,e1,e2⟩:=bo B (i:=8) rfl;obtain⟨pm,doc,e3,e4⟩:=cX e2;exact⟨o,_,e1,e3,e4⟩
theorem Dx(B:lI h):cH (GW w h) 185 (cU ["self","other"] iy):=bz (c:=184) (q:="Whitespace.less") (bo B (i:=11) rfl) (co B (i:=11) rfl) (λpm doc=>qo λu0 u1=>∅) ∅
theorem Dy(B:lI h):∃o fd,h.get? 185=some o/\o.cls = .type "function"/\o.data = .func fd:=by
 obtain⟨o,e1,e2⟩:=bo B (i:=11) rfl;obtain⟨pm,doc,e3,e4⟩:=cX e2;exact⟨o,_,e1,e3,e4⟩
theorem xG(B:lI h):cH (GW w h) 206 (cU ["lead"] n0):=bz (c:=205) (q:="_law_columns") (bo B (i:=13) rfl) (co B (i:=13) rfl) (λpm doc=>lG λu0=>∅) ∅
theorem BM(B:lI h):cH (GW w h) 211 (cU ["leads"] n4):=bz (c:=210) (q:="_law_above") (bo B (i:=14) rfl) (co B (i:=14) rfl) (λpm doc=>lG λu0=>∅) ∅
theorem BN(B:lI h):cH (GW w h) 216 (cU ["numbers","above"] n7):=bz (c:=215) (q:="_law_heads") (bo B (i:=15) rfl) (co B (i:=15) rfl) (λpm doc=>qo λu0 u1=>∅) ∅
theorem Dz(B:lI h):cH (GW w h) 223 (cU ["numbers","above","heads"] zT):=bz (c:=222) (q:="_law_mail") (bo B (i:=16) rfl) (co B (i:=16) rfl) (λpm doc=>zP λu0 u1 u2=>∅) ∅
theorem EL(B:lI h):cH (GW w h) 228 (cU ["dots","i","j"] EB):=bz (c:=227) (q:="_law_due") (bo B (i:=17) rfl) (co B (i:=17) rfl) (λpm doc=>zP λu0 u1 u2=>∅) ∅
theorem EM(B:lI h):cH (GW w h) 233 (cU ["script"] iz):=bz (c:=232) (q:="law") (bo B (i:=18) rfl) (co B (i:=18) rfl) (λpm doc=>lG λu0=>∅) ∅
structure zZ(mg mN:Str->Option Value):Prop where
 g:∀e∈(fR PW).globals,(mg e.1).map bQ=e.2
 n:∀e∈(match(fR PW).nss with|x::_=>x.2|[]=>[]),(mN e.1).map bQ=e.2
theorem eK{mg mb:Str->Option Value}{f:Str}{u:Value}(h:bootBuiltins f=some u)(h1:mg f=none)(h2:mb f=some u):∀v,bootBuiltins f=some v->mg f=none/\mb f=some v:=λv e=>⟨h1,h2.trans (h.symm.trans e)⟩
theorem BO(B:lI h):∃mN mg mb,iY (GW w h) 194 mN mg mb/\zZ mg mN:=by
 obtain⟨mg,hg,eg⟩:=B.globals;obtain⟨mb,hb,eb⟩:=B.builtins;obtain⟨ms,hs,es⟩:=B.statics;obtain⟨mN,hN,eN⟩:=B.nss _ (List.mem_of_getElem? (i:=0) rfl);obtain⟨o,ho,eo⟩:=bo B (i:=19) rfl;obtain⟨k0,k1,k2,k3,k5,rfl⟩:=rJ eo;refine⟨mN,mg,mb,⟨⟨⟨_,_,_,_,_,_,_,_,_,_,_,_,ho⟩,hN⟩,aJ (said eN (n:="__getattribute__") ∅),aJ (said eN (n:="__getattr__") ∅),aJ (said eN (n:="__setattr__") ∅),λx hx => ?_,λx hx => ?_,hg,hb,λf v hf hv => ?_,⟨ms,hs,aJ (said es (n:="sys.recursionlimit") ∅)⟩,
  jx (said eN (n:="S") ∅),jx (said eN (n:="T") ∅),⟨ms,hs,aJ (said es (n:="thirdparty.any") ∅)⟩⟩,⟨eg,eN⟩⟩
 ·simp only[cj,List.mem_cons,List.not_mem_nil,or_false]at hx
  rcases hx with rfl|rfl|rfl|rfl|rfl<;>exact aJ (said eN ∅)
 ·simp only[cj,List.mem_cons,List.not_mem_nil,or_false]at hx
  rcases hx with rfl|rfl|rfl|rfl|rfl<;>(rw[typeLookup_type,builtinLookup_eq_fast];kernel_rfl)
 ·exact(List.forall_mem_cons.mpr ⟨eK (u := .builtin "len") ∅ (aJ (said eg ∅)) (ft (said eb ∅)),List.forall_mem_cons.mpr ⟨eK (u := .builtin "ord") ∅ (aJ (said eg ∅)) (ft (said eb ∅)),List.forall_mem_cons.mpr ⟨eK (u := .builtin "chr") ∅ (aJ (said eg ∅)) (ft (said eb ∅)),List.forall_mem_cons.mpr ⟨eK (u := .builtin "min") ∅ (aJ (said eg ∅)) (ft (said eb ∅)),List.forall_mem_cons.mpr ⟨eK (u := .builtin "max") ∅ (aJ (said eg ∅)) (ft (said eb ∅)),List.forall_mem_cons.mpr ⟨eK (u := .builtin "sum") ∅ (aJ (said eg ∅)) (ft (said eb ∅)),List.forall_mem_cons.mpr ⟨eK (u := .builtin "all") ∅ (aJ (said eg ∅)) (ft (said eb ∅)),List.forall_mem_cons.mpr ⟨eK (u := .type "list") ∅ (aJ (said eg ∅)) (iw (said eb ∅)),List.forall_mem_cons.mpr ⟨eK (u := .type "tuple") ∅ (aJ (said eg ∅)) (iw (said eb ∅)),List.forall_mem_cons.mpr ⟨eK (u := .type "range") ∅ (aJ (said eg ∅)) (iw (said eb ∅)),List.forall_mem_cons.mpr ⟨eK (u := .type "enumerate") ∅ (aJ (said eg ∅)) (iw (said eb ∅)),List.forall_mem_cons.mpr ⟨eK (u := .type "zip") ∅ (aJ (said eg ∅)) (iw (said eb ∅)),λ_ h=>nomatch h⟩⟩⟩⟩⟩⟩⟩⟩⟩⟩⟩⟩:∀f∈(["len","ord","chr","min","max","sum","all","list","tuple","range","enumerate","zip"]:List Str),∀v,bootBuiltins f=some v->mg f=none/\mb f=some v) f hf v hv
noncomputable def BP(x:Option (Addr×Obj)):List (Int×Value):=match x with
 |some (_,⟨_,_, .set es _ _,_⟩)=>es.toList
 |_=>[]
noncomputable def gf:List (Int×Value):=BP ((fR PW).objs[24]?)
theorem DA(B:lI h):h.SetOf (intKind PW w) 77 (kR gf) gf.length:=rK (L:=gf) (bo B (i:=24) rfl) ∅ ∅ (by decide +kernel)
theorem BQ(B:lI h):fG h 57 code1:=j4 (bo B (i:=20) rfl) (bo B (i:=22) rfl) rfl rfl rfl ∅
theorem BR(B:lI h):fG h 62 code2:=j4 (bo B (i:=21) rfl) (bo B (i:=23) rfl) rfl rfl rfl ∅
end
end
section
open PySem PySem.W
noncomputable def fK(κ:List (Str×NameKind)):List Nm:=κ.filterMap λ(x,k)=>bif af (some k)then some (nm x)else none
noncomputable def aq:List Nm->List Mine.Slot->Rho
 |x::ns,s::ss=>(x,s)::aq ns ss
 |_,_=>[]
noncomputable def DB:List Nm->Nm->Nat
 |[],_=>0
 |y::r,x=>bif ag x y then 0 else DB r x+1
theorem qv:∀{ns:List Nm} {ss:List Mine.Slot} {x:Nm} {i:Nat} {s:Mine.Slot},DB ns x=i->ss[i]? = some s->i<ns.length->lk (aq ns ss) x=s
 |[],_,_,_,_,_,_,h=>absurd h (Nat.not_lt_zero _)
 |y::ns,[],_,_,_,_,h,_=>by simp at h
 |y::ns,t::ss,x,i,s,h1,h2,h3=>by
  show(bif ag x y then t else lk (aq ns ss) x)=s;have h1:(bif ag x y then 0 else DB ns x+1)=i:=h1;cases e:ag x y with
  |true=>rw[e]at h1;subst h1;simpa using h2
  |false=>
   rw[e]at h1;subst h1;exact qv rfl (by simpa using h2) (by simpa using h3)
theorem gI:∀{ns:List Nm} {ss:List Mine.Slot} {x:Nm} {i:Nat} {s:Mine.Slot},DB ns x=i->i<ns.length->put (aq ns ss) x s=aq ns (ss.set i s)
 |[],_,_,_,_,_,h=>absurd h (Nat.not_lt_zero _)
 |y::ns,[],_,i,_,_,h=>by induction i using Nat.casesOn<;>rfl
 |y::ns,t::ss,x,i,s,h1,h3=>by
  show(bif ag x y then(y,s)::aq ns ss else(y,t)::put (aq ns ss) x s)=_;have h1:(bif ag x y then 0 else DB ns x+1)=i:=h1;cases e:ag x y with
  |true=>rw[e]at h1;subst h1;rfl
  |false=>
   rw[e]at h1;subst h1;show(y,t)::put (aq ns ss) x s=(y,t)::aq ns (ss.set _ s);rw[gI rfl (by simpa using h3)]
noncomputable def fx(κ:List (Str×NameKind))(ns:List Nm)(a:Str)(i:Nat):Bool:=af (kd κ (nm a))&&Nat.beq (DB ns (nm a)) i&&Nat.blt i ns.length
theorem cR{κ:List (Str×NameKind)}{ns:List Nm}{a:Str}{i:Nat}(h:fx κ ns a i=true):af (kd κ (nm a))=true/\DB ns (nm a)=i/\i<ns.length:=by
 unfold fx at h;rw[Bool.and_eq_true,Bool.and_eq_true]at h;exact⟨h.1.1,Nat.eq_of_beq_eq_true h.1.2,by have:=h.2;rwa [Nat.blt_eq]at this⟩
section
variable {Φ:Fns} {τ:Tau} {μ:List Nm} {W n N:Nat} {κ:List (Str×NameKind)} {ns:List Nm} {ss:List Mine.Slot} {rest:List Stmt} {res:Res} {p q:Pos} {v x y:V}
theorem Cn{a:Str}(i:Nat)(h:fx κ ns a i=true)(hs:ss[i]? = some (.val v)):ev Φ τ (N+1) κ (aq ns ss) (.Name a p)=(true,v):=by
 have h:=cR h;show rd κ Φ (aq ns ss) (nm a)=_;unfold rd;rw[h.1,cond_true,qv h.2.1 hs h.2.2];rfl
theorem e_const{c:Const}{k:Nat}{ρ:Rho}(h:qU c=(true,v)):ev Φ τ (N+1) κ ρ (.Constant c k p)=(true,v):=h
theorem EN{a:Str}{l:List V}{E:Expr->R}(i:Nat)(h:fx κ ns a i=true)(hs:ss[i]? = some (.own l)):look κ (aq ns ss) E (.Name a p)=(true, .list l):=by
 have h:=cR h;refine f8 (qv h.2.1 hs h.2.2) h.1
theorem EO{a:Str}(i:Nat)(h:fx κ ns a i=true)(hs:ss[i]? = some (.val v)):look κ (aq ns ss) (ev Φ τ (N+1) κ (aq ns ss)) (.Name a p)=(true,v):=by
 refine aF (Cn i h hs) λl e => ?_
 have h:=cR h;rw[qv h.2.1 hs h.2.2]at e;injections e
noncomputable def lJ(κ:List (Str×NameKind))(ns:List Nm)(ss:List Mine.Slot)(a:Str)(s:Mine.Slot):Prop:=∃i:Nat,fx κ ns a i=true/\ss[i]? = some s
theorem lJ.of{a:Str}{s:Mine.Slot}(i:Nat)(h:fx κ ns a i=true)(hs:ss[i]? = some s):lJ κ ns ss a s:=⟨i,h,hs⟩
theorem x_loc{a:Str}(h:lJ κ ns ss a (.val v)):ev Φ τ (N+1) κ (aq ns ss) (.Name a p)=(true,v):=let⟨i,h1,h2⟩:=h;Cn i h1 h2
theorem x_val{a:Str}(h:lJ κ ns ss a (.val v)):look κ (aq ns ss) (ev Φ τ (N+1) κ (aq ns ss)) (.Name a p)=(true,v):=let⟨i,h1,h2⟩:=h;EO i h1 h2
theorem x_own{a:Str}{l:List V}{E:Expr->R}(h:lJ κ ns ss a (.own l)):look κ (aq ns ss) E (.Name a p)=(true, .list l):=let⟨i,h1,h2⟩:=h;EN i h1 h2
theorem aY{a:Str}{e:Expr}{s:Mine.Slot}(i:Nat)(hf:freeze (aK 40 e) (aq ns ss)=aq ns ss)(hx:fx κ ns a i=true)(h:ev Φ τ 40 κ (aq ns ss) e=(true,v))(hs:hZ μ (nm a) e v=s)(h2:ex Φ τ μ W κ n rest (aq ns (ss.set i s))=res):
 ex Φ τ μ W κ (n+1) (.Assign [.Name a p] e q::rest) (aq ns ss)=res:=by
 have hx:=cR hx;refine bC (by rw[hf];exact h) hx.1 (ρ':=aq ns (ss.set i s)) ?_ h2;rw[hf,hs];exact gI hx.2.1 hx.2.2
theorem EP{e:Expr}{ts:List Expr}{ss':List Mine.Slot}(hf:freeze (aK 40 e) (aq ns ss)=aq ns ss')(hf2:freeze (aK 40 e) (aq ns ss')=aq ns ss')(h2:ex Φ τ μ W κ (n+1) (.Assign ts e q::rest) (aq ns ss')=res):
 ex Φ τ μ W κ (n+1) (.Assign ts e q::rest) (aq ns ss)=res:=by
 rw[<-h2];show seq (ei (ev Φ τ 40 κ (freeze (aK 40 e) (aq ns ss))) κ μ (freeze (aK 40 e) (aq ns ss)) ts e) (ex Φ τ μ W κ n rest)=seq (ei (ev Φ τ 40 κ (freeze (aK 40 e) (aq ns ss'))) κ μ (freeze (aK 40 e) (aq ns ss')) ts e) (ex Φ τ μ W κ n rest);rw[hf,hf2]
theorem qw{a:Str}{e:Expr}{l:List V}{q1 q2 q3:Pos}(i:Nat)(hf:freeze (gz (aK 40) [e]) (aq ns ss)=aq ns ss)(hx:fx κ ns a i=true)(ho:ss[i]? = some (.own l))(hq:(q1.endLine==q2.line)=true)(hl:l.length<=cap)(h:ev Φ τ 40 κ (aq ns ss) e=(true,v))(h2:ex Φ τ μ W κ n rest (aq ns (ss.set i (.own (l++[v]))))=res):
 ex Φ τ μ W κ (n+1) (.Expr (.Call (.Attribute (.Name a p) "append" q1) [e] [] q2) q3::rest) (aq ns ss)=res:=by
 have hx:=cR hx;exact Dm hq (by rw[hf];exact qv hx.2.1 ho hx.2.2) (by rw[hf];exact h) hx.1 hl (by rw[hf,gI hx.2.1 hx.2.2]) h2
theorem oq{t:Expr}{a b:List Stmt}{v:V}(c:Bool)(hf:freeze (aK 40 t) (aq ns ss)=aq ns ss)(hp:(bf a&&bf b&&ay (fits 20) a&&ay (fits 20) b)=false)(h:ev Φ τ 40 κ (aq ns ss) t=(true,v))(hv:aa v=(true,c))(hr:ex Φ τ μ W κ n ((bif c then a else b)++rest) (aq ns ss)=res):
 ex Φ τ μ W κ (n+1) (.If t a b p::rest) (aq ns ss)=res:=
 eQ hp (by rw[hf];exact h) hv (by rw[hf];exact hr)
theorem lK{e:Expr}(hf:freeze (aK 40 e) (aq ns ss)=aq ns ss)(h:ev Φ τ 40 κ (aq ns ss) e=(true,v)):ex Φ τ μ W κ (n+1) (.Return (some e) p::rest) (aq ns ss)=(true, .ret v):=
 dW (by rw[hf];exact h)
theorem z0 {t it:Expr} {b:List Stmt} {ss':List Mine.Slot} {xs:List V} (hf:freeze (aK 40 it) (aq ns ss)=aq ns ss) (hi:aR κ (ev Φ τ 40 κ (aq ns ss)) t it=(true,xs)) (ht:(aC t).all (λx=>af (kd κ x))=true)
 (h:bY (λv ρ=>((bh t v ρ).1&&(ex Φ τ μ W κ n b (bh t v ρ).2).1,(ex Φ τ μ W κ n b (bh t v ρ).2).2)) (aq ns ss) xs (aq ns ss)=(true, .next (aq ns ss'))) (h2:ex Φ τ μ W κ n rest (aq ns ss')=res):ex Φ τ μ W κ (n+1) (.For t it b [] p::rest) (aq ns ss)=res:=
 rM (by rw[hf];exact hi) ht (by rw[hf];exact h) h2
theorem iB {t it:Expr} {b:List Stmt} (I:Nat->List Mine.Slot) (val:Nat->V) (a k:Nat) (hf:freeze (aK 40 it) (aq ns (I a))=aq ns (I a)) (hi:aR κ (ev Φ τ 40 κ (aq ns (I a))) t it=(true,(List.range' a k).map val)) (ht:(aC t).all (λx=>af (kd κ x))=true)
 (hb:∀j,a<=j->j<a+k->∃ss1 ss2,bh t (val j) (aq ns (I j))=(true,aq ns ss1)/\ex Φ τ μ W κ n b (aq ns ss1)=(true, .next (aq ns ss2))/\mask (aq ns (I a)) (aq ns ss2)=aq ns (I (j+1))) (h2:ex Φ τ μ W κ n rest (aq ns (I (a+k)))=res):
 ex Φ τ μ W κ (n+1) (.For t it b [] p::rest) (aq ns (I a))=res:=
 z0 hf hi ht (rR (λj=>aq ns (I j)) val k a λj h1 h2=>let⟨x,y,h⟩:=hb j h1 h2;⟨_,_,h⟩) h2
theorem xH {t it:Expr} {b:List Stmt} {xs:List V} (hf:freeze (aK 40 it) (aq ns ss)=aq ns ss) (hi:aR κ (ev Φ τ 40 κ (aq ns ss)) t it=(true,xs)) (ht:(aC t).all (λx=>af (kd κ x))=true)
 (h:bY (λv ρ=>((bh t v ρ).1&&(ex Φ τ μ W κ n b (bh t v ρ).2).1,(ex Φ τ μ W κ n b (bh t v ρ).2).2)) (aq ns ss) xs (aq ns ss)=(true, .ret v)):ex Φ τ μ W κ (n+1) (.For t it b [] p::rest) (aq ns ss)=(true, .ret v):=
 nX (by rw[hf];exact hi) ht (by rw[hf];exact h)
theorem iC{d:Def}{as:List V}(hl:Nat.beq d.params.length as.length=true)(h0:cK d.κ (lX d.params as)=aq ns ss)(h:ex Φ τ (aM (fW 20) d.body) W d.κ 200 d.body (aq ns ss)=(true, .ret v)):bN Φ τ W d as=(true,v):=by
 unfold bN;rw[h0,h];unfold jN;rw[hl];rfl
theorem tQ{α σ:Type}{t:Expr}{b:List Stmt}{ρ0:Rho}(val:α->V)(step:σ->α->σ)(P:σ->Prop)(I:σ->List Mine.Slot):∀(l:List α) (s:σ),P s ->
 (∀u,∀a∈l,P u->P (step u a)/\∃ss1 ss2,bh t (val a) (aq ns (I u))=(true,aq ns ss1)/\ex Φ τ μ W κ n b (aq ns ss1)=(true, .next (aq ns ss2))/\mask ρ0 (aq ns ss2)=aq ns (I (step u a))) ->
 bY (λv ρ=>((bh t v ρ).1&&(ex Φ τ μ W κ n b (bh t v ρ).2).1,(ex Φ τ μ W κ n b (bh t v ρ).2).2)) ρ0 (l.map val) (aq ns (I s))=(true, .next (aq ns (I (l.foldl step s))))
 |[],s,_,_=>rfl
 |a::l,s,hp,h=>by
  obtain⟨hp2,ss1,ss2,h1,h2,h3⟩:=h s a (List.mem_cons_self ..) hp;rw[List.map_cons,List.foldl_cons];refine fu (fH h1 h2) ?_;rw[h3];exact tQ val step P I l (step s a) hp2 λu x hx=>h u x (List.mem_cons_of_mem _ hx)
theorem DC {α σ:Type} {t it:Expr} {b:List Stmt} (val:α->V) (step:σ->α->σ) (P:σ->Prop) (I:σ->List Mine.Slot) (l:List α) (s:σ) (hf:freeze (aK 40 it) (aq ns (I s))=aq ns (I s)) (hi:aR κ (ev Φ τ 40 κ (aq ns (I s))) t it=(true,l.map val)) (ht:(aC t).all (λx=>af (kd κ x))=true) (hp:P s)
 (hb:∀u,∀a∈l,P u->P (step u a)/\∃ss1 ss2,bh t (val a) (aq ns (I u))=(true,aq ns ss1)/\ex Φ τ μ W κ n b (aq ns ss1)=(true, .next (aq ns ss2))/\mask (aq ns (I s)) (aq ns ss2)=aq ns (I (step u a))) (h2:ex Φ τ μ W κ n rest (aq ns (I (l.foldl step s)))=res):
 ex Φ τ μ W κ (n+1) (.For t it b [] p::rest) (aq ns (I s))=res:=z0 hf hi ht (tQ val step P I l s hp hb) h2
theorem vy{e:Expr}{ss':List Mine.Slot}(hf:freeze (aK 40 e) (aq ns ss)=aq ns ss')(h:ev Φ τ 40 κ (aq ns ss') e=(true,v)):ex Φ τ μ W κ (n+1) (.Return (some e) p::rest) (aq ns ss)=(true, .ret v):=
 dW (by rw[hf];exact h)
noncomputable abbrev dR(scope:Scope):List Nm:=scope.names.map λx=>nm x.1
theorem gJ{α:Type}{f:V->Bool×Bool×R}(val:α->V)(c:α->Bool)(g:α->V):∀(l:List α),(∀a∈l,(f (val a)).1=true/\(f (val a)).2.1=c a/\(c a=true->(f (val a)).2.2=(true,g a)))->bw f (l.map val)=(true,(l.filter c).map g)
 |[],_=>rfl
 |a::l,h=>by
  obtain⟨h1,h2,h3⟩:=h a (List.mem_cons_self ..);have ih:=gJ val c g l λy hy=>h y (List.mem_cons_of_mem _ hy)
  rw[List.map_cons];rw[AJ,ih,h1,h2];cases hc:c a with
  |true=>rw[h3 hc];simp[hc]
  |false=>simp[hc]
theorem bl {α:Type} (val g:α->V) (l:List α) {ρ:Rho} {elt t it:Expr} {scope:Scope} (sc:List Mine.Slot) (h1:d5 κ scope=true) (h2:jK scope.names t=true) (hi:aR κ (ev Φ τ N κ ρ) t it=(true,l.map val)) (hc:bA scope ρ=aq (dR scope) sc) (hl:l.length<=cap)
 (hb:∀a∈l,∃ss1,bh t (val a) (aq (dR scope) sc)=(true,aq (dR scope) ss1)/\ev Φ τ N scope.names (aq (dR scope) ss1) elt=(true,g a)):ev Φ τ (N+1) κ ρ (.ListComp elt [⟨t,it,[],0⟩] scope p)=(true, .list (l.map g)):=by
 refine wD h1 h2 hi ?_ (by rw[List.length_map];exact hl);rw[hc];refine(gJ val (λ_=>true) g l λa ha => ?_).trans (by rw[List.filter_eq_self.mpr λ_ _=>rfl]);obtain⟨ss1,e1,e2⟩:=hb a ha;unfold cW;dsimp only;rw[e1];exact⟨rfl,rfl,λ_=>e2⟩
theorem j8 {α:Type} (val:α->V) (c:α->Bool) (g:α->V) (l:List α) {ρ:Rho} {elt t it cnd:Expr} {scope:Scope} (sc:List Mine.Slot) (h1:d5 κ scope=true) (h2:jK scope.names t=true) (hi:aR κ (ev Φ τ N κ ρ) t it=(true,l.map val)) (hc:bA scope ρ=aq (dR scope) sc) (hl:l.length<=cap)
 (hb:∀a∈l,∃ss1 w,bh t (val a) (aq (dR scope) sc)=(true,aq (dR scope) ss1)/\ev Φ τ N scope.names (aq (dR scope) ss1) cnd=(true,w)/\aa w=(true,c a)/\(c a=true->ev Φ τ N scope.names (aq (dR scope) ss1) elt=(true,g a))):ev Φ τ (N+1) κ ρ (.ListComp elt [⟨t,it,[cnd],0⟩] scope p)=(true, .list ((l.filter c).map g)):=by
 refine wD h1 h2 hi ?_ (by rw[List.length_map];exact hl);rw[hc];refine gJ val c g l λa ha => ?_
 obtain⟨ss1,w,e1,e2,e3,e4⟩:=hb a ha;have ts:eE (ev Φ τ N scope.names (aq (dR scope) ss1)) [cnd]=(true,c a):=by
  show((ev Φ τ N scope.names (aq (dR scope) ss1) cnd).1&&(aa (ev Φ τ N scope.names (aq (dR scope) ss1) cnd).2).1&&(bif (aa (ev Φ τ N scope.names (aq (dR scope) ss1) cnd).2).2 then true else true),(aa (ev Φ τ N scope.names (aq (dR scope) ss1) cnd).2).2&&true)=_;rw[e2,e3];cases c a<;>rfl
 unfold cW;dsimp only;rw[e1];dsimp only;rw[ts];exact⟨rfl,rfl,e4⟩
theorem j9{l:Nat}{k:Nat}(h:k<l):aZ l (k:Int)=true/\place l (k:Int)=k:=by
 unfold aZ place;rw[decide_eq_true (show -(l:Int)<=(k:Int)by omega),decide_eq_true (show(k:Int)<(l:Int)by omega),decide_eq_false (show ¬(k:Int)<0 by omega)];exact⟨rfl,by simp⟩
theorem cZ{l:List V}{k:Nat}(hs:l.length<=cap)(hk:k<l.length)(hx:l.getD k .none=x):gV 0 (.list l) (.int (k:Int))=(true,x):=by
 show((aZ l.length (k:Int)&&decide (l.length<=cap),sB l (place l.length (k:Int))):R)=_;rw[(j9 hk).1,(j9 hk).2,m6 hk,decide_eq_true hs,hx];rfl
theorem kU{l:List V}{k:Nat}(hs:l.length<=cap)(hk:k<l.length)(hx:l.getD k .none=x):gV 0 (.tup l) (.int (k:Int))=(true,x):=by
 show((aZ l.length (k:Int)&&decide (l.length<=cap),sB l (place l.length (k:Int))):R)=_;rw[(j9 hk).1,(j9 hk).2,m6 hk,decide_eq_true hs,hx];rfl
theorem DD{t e g:Expr}{ρ:Rho}{l r:List V}(hg:aO (kd κ (nm "zip"))=true)(ht:dB t=true)(h1:ev Φ τ N κ ρ e=(true, .list l))(h2:ev Φ τ N κ ρ g=(true, .list r)):aR κ (ev Φ τ N κ ρ) t (.Call (.Name "zip" p) [e,g] [] q)=(true,mO l r):=by
 show sD κ (ev Φ τ N κ ρ) t (nm "zip") [e,g]=_;unfold sD;rw[evL_of h1 (evL_of h2 evL_nil)];show(aO (kd κ (nm "zip"))&&true&&true&&true&&true&&dB t,mO l r)=_;rw[hg,ht];rfl
theorem tS{α β:Type}(f:α->V)(g:β->V):∀(l:List α) (r:List β),mO (l.map f) (r.map g)=(l.zip r).map λp => .tup [f p.1,g p.2]
 |[],_=>by cases ‹List β› <;> rfl
 |_::_,[]=>rfl
 |a::l,b::r=>by show V.tup [f a,g b]::mO (l.map f) (r.map g)=_;rw[tS f g l r];rfl
theorem xI{α:Type}(f:α->Bool)(l:List α)(h:l.length<=cap):dA (nm "all") [.list (l.map λa => .bool (f a))]=(true, .bool (l.all f)):=by
 show(((l.map λa=>V.bool (f a)).all Ca&&decide ((l.map λa=>V.bool (f a)).length<=cap),V.bool (((l.map λa=>V.bool (f a)).map pd).all id)):R)=_;rw[List.length_map,decide_eq_true h,List.all_map,List.map_map,List.all_map];rw[show(l.all (Ca∘λa=>V.bool (f a)))=true from List.all_eq_true.mpr λ_ _=>rfl]
 rfl
theorem z6 {ts es:List Expr} {vs:List V} {k1 k2:Nat} {p3 p4:Pos} {ss':List Mine.Slot} (hf:freeze (aK 40 (.Tuple es k2 p4)) (aq ns ss)=aq ns ss) (hc:(!bM es&&dT (aC (.Tuple ts 0 default))&&i6 κ (aC (.Tuple ts 0 default)))=true) (h:dz (ev Φ τ 40 κ (aq ns ss)) es=(true,vs)) (hl:vs.length<=cap)
 (ht:eU ts vs (aq ns ss)=(true,aq ns ss')) (hr:ex Φ τ μ W κ n rest (aq ns ss')=res):ex Φ τ μ W κ (n+1) (.Assign [.Tuple ts k1 p3] (.Tuple es k2 p4) q::rest) (aq ns ss)=res:=by
 refine cw (ρ':=aq ns ss') ?_ hr;rw[hf];show((jj (dz (ev Φ τ 40 κ (aq ns ss)) es)&&(eU ts (dz (ev Φ τ 40 κ (aq ns ss)) es).2 (aq ns ss)).1&&(!bM es&&dT (aC (.Tuple ts 0 default))&&i6 κ (aC (.Tuple ts 0 default))),fV.next (eU ts (dz (ev Φ τ 40 κ (aq ns ss)) es).2 (aq ns ss)).2):Res)=_;rw[h,hc];show(((true&&decide (vs.length<=cap))&&(eU ts vs (aq ns ss)).1&&true,fV.next (eU ts vs (aq ns ss)).2):Res)=_;rw[ht,decide_eq_true hl];rfl
theorem DE {a b:Str} {e1 e2:Expr} {v1 v2:V} {k1 k2:Nat} {p1 p2 p3 p4:Pos} (i j:Nat) (hf:freeze (aK 40 (.Tuple [e1,e2] k2 p4)) (aq ns ss)=aq ns ss) (hx:fx κ ns a i=true) (hy:fx κ ns b j=true)
 (hc:(!bM [e1,e2] && !ag (nm a) (nm b))=true) (h1:ev Φ τ 40 κ (aq ns ss) e1=(true,v1)) (h2:ev Φ τ 40 κ (aq ns ss) e2=(true,v2)) (hr:ex Φ τ μ W κ n rest (aq ns ((ss.set i (.val v1)).set j (.val v2)))=res):
 ex Φ τ μ W κ (n+1) (.Assign [.Tuple [.Name a p1, .Name b p2] k1 p3] (.Tuple [e1,e2] k2 p4) q::rest) (aq ns ss)=res:=by
 have hx:=cR hx;have hy:=cR hy;have hc:=aG hc;refine z6 (vs:=[v1,v2]) hf ?_ (evL_of h1 (evL_of h2 evL_nil)) (Nat.le_of_ble_eq_true rfl) ?_ hr
 ·rw[hc.1]
  show(true&&(!(bif ag (nm a) (nm b)then true else false)&&(!false&&true))&&(af (kd κ (nm a))&&(af (kd κ (nm b))&&true)))=true;rw[(Bool.not_eq_true' _).mp hc.2,hx.1,hy.1];rfl
 ·show(true,put (put (aq ns ss) (nm a) (.val v1)) (nm b) (.val v2))=_
  rw[gI hx.2.1 hx.2.2,gI hy.2.1 hy.2.2]
theorem z7 {a b c:Str} {e1 e2 e3:Expr} {v1 v2 v3:V} {k1 k2:Nat} {p1 p2 p3 p4 p5:Pos} (i j k:Nat) (hf:freeze (aK 40 (.Tuple [e1,e2,e3] k2 p4)) (aq ns ss)=aq ns ss) (hx:fx κ ns a i=true) (hy:fx κ ns b j=true) (hz:fx κ ns c k=true)
 (hc:(!bM [e1,e2,e3]&&dT [nm a,nm b,nm c])=true) (h1:ev Φ τ 40 κ (aq ns ss) e1=(true,v1)) (h2:ev Φ τ 40 κ (aq ns ss) e2=(true,v2)) (h3:ev Φ τ 40 κ (aq ns ss) e3=(true,v3))
 (hr:ex Φ τ μ W κ n rest (aq ns (((ss.set i (.val v1)).set j (.val v2)).set k (.val v3)))=res):
 ex Φ τ μ W κ (n+1) (.Assign [.Tuple [.Name a p1, .Name b p2, .Name c p5] k1 p3] (.Tuple [e1,e2,e3] k2 p4) q::rest) (aq ns ss)=res:=by
 have hx:=cR hx;have hy:=cR hy;have hz:=cR hz;refine z6 (vs:=[v1,v2,v3]) hf ?_ (evL_of h1 (evL_of h2 (evL_of h3 evL_nil))) (Nat.le_of_ble_eq_true rfl) ?_ hr
 ·show(!bM [e1,e2,e3]&&dT [nm a,nm b,nm c]&&(af (kd κ (nm a))&&(af (kd κ (nm b))&&(af (kd κ (nm c))&&true))))=true
  rw[hc,hx.1,hy.1,hz.1];rfl
 ·show(true,put (put (put (aq ns ss) (nm a) (.val v1)) (nm b) (.val v2)) (nm c) (.val v3))=_
  rw[gI hx.2.1 hx.2.2,gI hy.2.1 hy.2.2,gI hz.2.1 hz.2.2]
theorem wF{sep:List Nat}{l:List (List Nat)}(h:(l.map List.length).sum+l.length*sep.length<=cap)(h2:l.length<=cap):fg Φ (nm "join") (.str sep) [.list (l.map V.str)]=(true, .str (fc sep l)):=by
 have e:∀L:List V,fg Φ (nm "join") (.str sep) [.list L]=((L.all Ax&&decide (L.length<=cap)&&decide (((L.map lV).map List.length).sum+L.length*sep.length<=cap),V.str (fc sep (L.map lV))):R):=λL=>∅
 rw[e,show(l.map V.str).map lV=l by rw[List.map_map];exact List.map_id l,List.length_map,decide_eq_true h,decide_eq_true h2,List.all_map,show(l.all (Ax∘V.str))=true from List.all_eq_true.mpr λ_ _=>rfl]
 rfl
theorem qx:∀l:List Nat,fc [] (l.map λc=>[c])=l
 |[]=>rfl
 |[_]=>rfl
 |a::b::l=>by show[a]++[]++fc [] ((b::l).map λc=>[c])=_;rw[qx (b::l)];rfl
theorem tT:∀l:List Nat,((l.map λc=>[c]).map List.length).sum=l.length
 |[]=>rfl
 |a::l=>by rw[List.map_cons,List.map_cons,List.sum_cons,tT l];simp;omega
theorem kW{l:List Nat}(h:l.length<=cap):fg Φ (nm "join") (.str []) [.list ((l.map λc=>[c]).map V.str)]=(true, .str l):=
 (wF (by rw[tT];simpa using h) (by simpa using h)).trans (by rw[qx])
theorem qy:∀l:List (List Nat),fc [] l=l.flatten
 |[]=>rfl
 |[a]=>by rw[AH];simp
 |a::b::l=>by show a++[]++fc [] (b::l)=_;rw[qy (b::l)];simp
theorem DF {a:Str} {ie e:Expr} {l:List V} {j:Nat} {p1 p2 p3:Pos} (i:Nat) (hf:freeze (aK 40 e) (aq ns ss)=aq ns ss) (hx:fx κ ns a i=true) (ho:ss[i]? = some (.own l)) (hi:ev Φ τ 40 κ (aq ns ss) ie=(true, .int (j:Int))) (h:ev Φ τ 40 κ (aq ns ss) e=(true,v)) (hj:j<l.length) (hc:l.length<=cap)
 (h2:ex Φ τ μ W κ n rest (aq ns (ss.set i (.own (gW l j v))))=res):ex Φ τ μ W κ (n+1) (.Assign [.Subscript (.Name a p1) ie p2] e p3::rest) (aq ns ss)=res:=by
 have hx:=cR hx;have h3:i<ns.length:=by exact hx.2.2
 refine jz (l:=l) (j:=j) (v:=v) (ρ':=aq ns (ss.set i (.own (gW l j v)))) (by rw[hf];exact qv hx.2.1 ho h3) (by rw[hf];exact hi) (by rw[hf];exact h) hx.1 hj hc ?_ h2;rw[hf];exact gI hx.2.1 h3
theorem len_list{l:List V}(h:l.length<=cap):lW (.list l)=(true, .int l.length):=by
 show((decide (l.length<=cap),V.int l.length):R)=_;rw[decide_eq_true h]
theorem len_tup{l:List V}(h:l.length<=cap):lW (.tup l)=(true, .int l.length):=by
 show((decide (l.length<=cap),V.int l.length):R)=_;rw[decide_eq_true h]
theorem len_str{l:List Nat}(h:l.length<=cap):lW (.str l)=(true, .int l.length):=by
 show((decide (l.length<=cap),V.int l.length):R)=_;rw[decide_eq_true h]
theorem f_n{r:List Nat}{n t:Int}{c:List Int}{b:Int}{s:Bool}:yF (nm "n") (.ws r n t c b s)=(true, .int n):=∅
theorem f_nt{r:List Nat}{n t:Int}{c:List Int}{b:Int}{s:Bool}:yF (nm "nt") (.ws r n t c b s)=(true, .int t):=∅
theorem f_norm{r:List Nat}{n t:Int}{c:List Int}{b:Int}{s:Bool}:yF (nm "norm") (.ws r n t c b s)=(true, .tup [.tup (c.map .int), .int b]):=∅
theorem f_simple{r:List Nat}{n t:Int}{c:List Int}{b:Int}{s:Bool}:yF (nm "is_simple") (.ws r n t c b s)=(true, .bool s):=∅
theorem qz{k:Nat}(h:k<=10000000000):small (k:Int)=true:=by unfold small big;rw[decide_eq_true ⋯,decide_eq_true ⋯];rfl
theorem b_mulR{a b:Int}(h:small b=true):de .Mult (.int a) (.int b)=(true, .int (a*b)):=by
 show((small a||small b,V.int (a*b)):R)=_;rw[h,Bool.or_true]
theorem b_mulL{a b:Int}(h:small a=true):de .Mult (.int a) (.int b)=(true, .int (a*b)):=by
 show((small a||small b,V.int (a*b)):R)=_;rw[h,Bool.true_or]
theorem b_mod{a k:Nat}(h:k≠0):de .Mod (.int (a:Int)) (.int (k:Int))=(true, .int ((a%k:Nat):Int)):=by
 show((!decide ((k:Int)=0),V.int ((a:Int).fmod (k:Int))):R)=_;rw[decide_eq_false ⋯,Int.fmod_eq_emod_of_nonneg _ ⋯];rfl
theorem b_div{a k:Nat}(h:k≠0)(h2:k<10000000000):de .FloorDiv (.int (a:Int)) (.int (k:Int))=(true, .int ((a/k:Nat):Int)):=by
 show((!decide ((k:Int)=0)&&small (k:Int),V.int ((a:Int).fdiv (k:Int))):R)=_;rw[decide_eq_false ⋯,show small (k:Int)=true by unfold small big;rw[decide_eq_true ⋯,decide_eq_true ⋯];rfl];rw[Int.fdiv_eq_ediv_of_nonneg _ ⋯];rfl
end
end
set_option hygiene false in
local macro_rules | `(tactic|walk_at $s:str)=>do
 let tb:=["op:p b_mod D|p b_div D D|p b_mulR r|p b_mulL r|R","lk:x_val at|x_own at|look_other W ee","el:evL_nil|evL_of ee el","cf:C","cm:R","ln:p len_list A|p len_tup A|p len_str A","ff:f_n|f_nt|f_norm|f_simple|R","ee:e_const R|x_loc at|ev_add lk ee op|ev_bin D ee ee op|ev_cmp D ee ee op|ev_field r ee ff|ev_len K lk ln|ev_call K K K el cf|ev_meth r D r ee el cm"];let mut t <- `(tactic|fail)
 if s.getString=="at" then
  for j in [0:32]do
   t <- `(tactic|first|exact .of $(Lean.quote (31-j)) (by decide +kernel) rfl| $t:tactic)
  return t
 let some r:=tb.find? (λx=>x.startsWith (s.getString++":"))|Lean.Macro.throwUnsupported
 for a in ((r.splitOn ":").getLast!.splitOn "|").reverse do
  let mut q <- `(tactic|skip);let mut p:=false
  for w in a.splitOn " " do
   if w=="p" then p:=true
   else
    let x <-if w=="D" then `(tactic|decide)else if w=="R" then `(tactic|exact rfl)else if w=="r" then `(tactic|rfl)else if w=="K" then `(tactic|kernel_rfl)else if w=="A" then `(tactic|assumption)else if w=="W" then `(tactic|with_reducible rfl)else if w=="C" then `(tactic|exact bg ∅ rfl)else if w.length==2 then `(tactic|walk_at $(Lean.quote w))else `(tactic|apply $(Lean.mkIdent (.mkSimple w)))
    q <-if p||w.length<3 then `(tactic|($q:tactic; $x:tactic))else `(tactic|($q:tactic;with_reducible $x:tactic))
    p:=false
  t <- `(tactic|first| $q:tactic| $t:tactic)
 return t
section
open PySem PySem.W PySem.Challenge
noncomputable abbrev Gc:List (Str×NameKind):=Dp.scope.names
noncomputable abbrev nR:List Nm:=fK Gc
noncomputable def fRunP:List V->R:=fU (DT λraw n nt cnt b sm=>(decide (cnt.length<=1000), .int (bif decide ((cnt.length:Int)-1<b)then b else(cnt.length:Int)-1)))
theorem BS(raw:List Nat)(n nt:Int)(cnt:List Int)(b:Int)(sm:Bool)(h:cnt.length<=1000):BK [.ws raw n nt cnt b sm]=(true, .int (bif decide ((cnt.length:Int)-1<b)then b else(cnt.length:Int)-1)):=by
 have hl:(cnt.map V.int).length<=cap:=by rw[List.length_map];unfold cap;omega
 have e:((cnt.length:Int))=((cnt.map V.int).length:Int):=by rw[List.length_map]
 rw[e];refine iC (ns:=nR) (ss:=[.val (.ws raw n nt cnt b sm), .un, .un]) rfl ∅ ?_;refine cw (ρ':=aq nR [.val (.ws raw n nt cnt b sm), .val (.tup (cnt.map .int)), .val (.int b)]) ∅ ?_;refine lK ∅ ?_
 walk_at "ee"
theorem jB{a b:Nat}(ha:a<=10000)(hb:b<=10000):fe [.int (a:Int), .int (b:Int)]=(true,(List.range' a (b-a)).map λi:Nat => .int (i:Int)):=by
 have hs:Builtin.Range.rangeSize (a:Int) (b:Int) 1=((b-a:Nat):Int):=by
  unfold Builtin.Range.rangeSize;simp
  omega
 have h1:bX (a:Int) (b:Int) 1=true:=by
  have fl:∀i:Int, -2<=i->i<=20000->Builtin.Range.rangeFitsLong i=true:=λi a b=>by
   unfold Builtin.Range.rangeFitsLong;simp
   omega
  unfold bX Builtin.Range.small;rw[hs,fl a ⋯ ⋯,fl b ⋯ ⋯,fl 1 ⋯ ⋯,if_pos nofun,fl (b+(1-1)) ⋯ ⋯,fl ((b-a:Nat):Int) ⋯ ⋯,decide_eq_true (show((b-a:Nat):Int)<=10000 by omega)];simp
 show((bX (a:Int) (b:Int) 1,(df (a:Int) (b:Int) 1).map V.int):Bool×List V)=_;rw[h1];unfold df;rw[hs,Int.toNat_natCast,jy,List.map_map];rfl
noncomputable abbrev Gd:List (Str×NameKind):=rS.scope.names
noncomputable abbrev nN:List Nm:=fK Gd
noncomputable def jc(cnt:List Int)(ts:Nat):Nat->Int
 |0=>0
 |k+1=>jc cnt ts k+((ts+k)/ts:Nat)*cnt.getD (ts+k) 0
noncomputable def bm(cnt:List Int)(b nt:Int)(ts:Nat):Int:=b+(ts:Int)*(jc cnt ts (cnt.length-ts)+nt)
theorem z8{l:List V}{k:Nat}{i:Int}(hs:l.length<=cap)(hk:k<l.length)(hi:l.getD k .none = .int i):gV 1 (.tup l) (.int (k:Int))=(true, .int i):=by
 show((aZ l.length (k:Int)&&decide (l.length<=cap)&&mK (l.getD (place l.length (k:Int)) .none),V.int (getI (l.getD (place l.length (k:Int)) .none))):R)=_;rw[decide_eq_true hs];unfold aZ place;rw[show decide ((k:Int)<0)=false by simp];simp only[cond_false,Int.toNat_natCast];rw[show decide (-(l.length:Int)<=(k:Int))=true from decide_eq_true ⋯,show decide ((k:Int)<(l.length:Int))=true from decide_eq_true ⋯,hi]
 rfl
theorem vz(raw:List Nat)(n nt:Int)(cnt:List Int)(b:Int)(sm:Bool)(ts:Nat)(h:cnt.length<=1000)(h1:1<=ts)(h2:ts<=1000):j7 [.ws raw n nt cnt b sm, .int (ts:Int)]=(true, .int (bm cnt b nt ts)):=by
 have hl:(cnt.map V.int).length<=cap:=by rw[List.length_map];unfold cap;omega
 have e:((cnt.map V.int).length:Int)=(cnt.length:Int):=by rw[List.length_map]
 have ht:small (ts:Int)=true:=by unfold small big;rw[decide_eq_true ⋯,decide_eq_true ⋯];rfl
 refine iC (ns:=nN) (ss:=[.val (.ws raw n nt cnt b sm), .val (.int ts), .un, .un, .un, .un]) rfl ∅ ?_;refine cw (ρ':=aq nN [.val (.ws raw n nt cnt b sm), .val (.int ts), .val (.tup (cnt.map .int)), .val (.int b), .un, .un]) ∅ ?_;refine aY 4 ∅ (by decide +kernel) (v := .int 0) (by walk_at "ee") rfl ?_;rw[show(0:Int)=jc cnt ts (ts-ts)by rw[Nat.sub_self];rfl];refine iB (λi=>[.val (.ws raw n nt cnt b sm), .val (.int ts), .val (.tup (cnt.map .int)), .val (.int b), .val (.int (jc cnt ts (i-ts))), .un]) (λi => .int (i:Int)) ts (cnt.length-ts) ∅
  (fw ∅ rfl (vs:=[.int ts, .int cnt.length]) (by rw[<-e];walk_at "el") (jB ⋯ ⋯)) ∅ (λj hj hj2 => ?_) ?_
 ·obtain⟨k,rfl⟩:∃k,j=ts+k:=⟨j-ts,⋯⟩
  have hk:ts+k<cnt.length:=⋯;refine⟨[.val (.ws raw n nt cnt b sm), .val (.int ts), .val (.tup (cnt.map .int)), .val (.int b), .val (.int (jc cnt ts (ts+k-ts))), .val (.int ((ts+k:Nat):Int))],
   [.val (.ws raw n nt cnt b sm), .val (.int ts), .val (.tup (cnt.map .int)), .val (.int b), .val (.int (jc cnt ts (ts+k+1-ts))), .val (.int ((ts+k:Nat):Int))],∅, ?_,∅⟩
  rw[show ts+k+1-ts=k+1 by omega,show ts+k-ts=k by omega];refine aY 4 ∅ (by decide +kernel) (v := .int (jc cnt ts (k+1))) ?_ rfl cV;have hi:(cnt.map V.int).getD (ts+k) .none = .int (cnt.getD (ts+k) 0):=n8 hk;refine ev_add (x := .int (jc cnt ts k)) (y := .int (((ts+k)/ts:Nat)*cnt.getD (ts+k) 0)) (by walk_at "lk") ?_ rfl;refine ev_bin nofun (x := .int ((ts+k)/ts:Nat)) (y := .int (cnt.getD (ts+k) 0)) ?_ ?_ (b_mulL ?_)
  ·refine ev_bin nofun (x := .int (ts+k:Nat)) (y := .int ts) (by walk_at "ee") (by walk_at "ee") (b_div ⋯ ⋯)
  ·exact ah rfl (x := .tup (cnt.map .int)) (y := .int (ts+k:Nat)) (by walk_at "lk") (by walk_at "ee") (ty:=1) ∅ (z8 hl (by rw[List.length_map];exact hk) hi)
  ·exact qz (by have:(ts+k)/ts<=ts+k:=Nat.div_le_self _ _;generalize (ts+k)/ts=q at *;omega)
 ·rw[show ts+(cnt.length-ts)-ts=cnt.length-ts by omega]
  refine lK ∅ ?_;refine ev_add (x := .int b) (y := .int ((ts:Int)*(jc cnt ts (cnt.length-ts)+nt))) (by walk_at "lk") ?_ rfl;exact ev_bin nofun (x := .int ts) (y := .int (jc cnt ts (cnt.length-ts)+nt)) (by walk_at "ee") (by walk_at "ee") (b_mulL ht)
noncomputable def fy(cnt:List Int)(b:Int):Int:=bif decide ((cnt.length:Int)-1<b)then b else(cnt.length:Int)-1
noncomputable def kX(c1 c2:List Int)(b1 b2 t1 t2:Int):List Nat->Bool
 |[]=>true
 |ts::l=>bif decide (bm c2 b2 t2 ts<=bm c1 b1 t1 ts)then false else kX c1 c2 b1 b2 t1 t2 l
theorem z9{c1 c2:List Int}{b1 b2 t1 t2:Int}{ts:Nat}{l:List Nat}:kX c1 c2 b1 b2 t1 t2 (ts::l)=bif decide (bm c2 b2 t2 ts<=bm c1 b1 t1 ts)then false else kX c1 c2 b1 b2 t1 t2 l:=rfl
noncomputable def l7(a b:Int):Int:=bif decide (a<b)then b else a
noncomputable def Aa(n1 t1:Int)(c1:List Int)(b1:Int)(s1:Bool)(n2 t2:Int)(c2:List Int)(b2:Int)(s2:Bool):Bool:=
 bif decide (n2<=n1)then false else bif s1&&s2 then decide (t1<=t2)else kX c1 c2 b1 b2 t1 t2 (List.range' 2 (l7 (fy c1 b1) (fy c2 b2)+2-2).toNat)
noncomputable def fIndentP:List V->R:=qP λx y=>DT (λraw n nt cnt b sm=>kt (λt=>(decide (cnt.length<=1000)&&decide (1<=t)&&decide (t<=1000), .int (bm cnt b nt t.toNat))) y) x
theorem Ab{as:List V}(h:(fIndentP as).1=true):j7 as=fIndentP as:=by
 refine v0 (λas r=>j7 as=r) h λx y h=>qQ (λv r=>j7 [v,y]=r) h λraw n nt cnt b sm h=>CE (λv r=>j7 [.ws raw n nt cnt b sm,v]=r) h λt h => ?_
 have h0:=aG h;have h1:=of_decide_eq_true (aG h0.1).1;have h2:=of_decide_eq_true (aG h0.1).2;have h3:=of_decide_eq_true h0.2;rw[decide_eq_true h1,decide_eq_true h2,decide_eq_true h3];obtain⟨k,rfl⟩:∃k:Nat,t=k:=⟨t.toNat,(Int.toNat_of_nonneg (Int.le_of_lt h2)).symm⟩;exact vz raw n nt cnt b sm k h1 (Int.ofNat_le.mp h2) (Int.ofNat_le.mp h3)
theorem EQ{as:List V}(h:(fRunP as).1=true):BK as=fRunP as:=by
 refine iL (λas r=>BK as=r) h λv h=>qQ (λv r=>BK [v]=r) h λraw n nt cnt b sm h => ?_
 have h1:=of_decide_eq_true h;rw[decide_eq_true h1];exact BS raw n nt cnt b sm h1
noncomputable def xJ:Fns:=⟨GL,[],[(nm "longest_run_of_spaces",fRunP),(nm "indent_level",fIndentP)]⟩
noncomputable abbrev DV:List (Str×NameKind):=iy.scope.names
noncomputable abbrev nS:List Nm:=fK DV
noncomputable def ER(s:Option Stmt):Expr:=match s with
 |some (.For _ it _ _ _)=>it
 |_ => .Name "" default
noncomputable abbrev ou:List Stmt:=j6 iy.body[3]?
theorem BT(a b:Int):a<=l7 a b/\b<=l7 a b:=by
 unfold l7;cases h:decide (a<b)with
 |true=>have:=of_decide_eq_true h;exact⟨by simp;omega,by simp⟩
 |false=>have:=of_decide_eq_false h;exact⟨by simp,by simp;omega⟩
theorem qA{p1 p2:Pos}{μ:List Nm}(A B:V)(m:Int)(r1 r2:List Nat)(n1 t1:Int)(c1:List Int)(b1:Int)(s1:Bool)(n2 t2:Int)(c2:List Int)(b2:Int)(s2:Bool)(hA:A = .ws r1 n1 t1 c1 b1 s1)(hB:B = .ws r2 n2 t2 c2 b2 s2)(h1:c1.length<=900)(h2:c2.length<=900):∀(l:List Nat),(∀t∈l,1<=t/\t<=1000) ->
 bY (λv ρ=>((bh (cz iy.body[3]?) v ρ).1&&(ex xJ [] μ 1000 DV 196 ou (bh (cz iy.body[3]?) v ρ).2).1,(ex xJ [] μ 1000 DV 196 ou (bh (cz iy.body[3]?) v ρ).2).2)) (aq nS [.val A, .val B, .val (.int m), .un]) (l.map λi:Nat => .int (i:Int)) (aq nS [.val A, .val B, .val (.int m), .un]) =
  bif kX c1 c2 b1 b2 t1 t2 l then(true, .next (aq nS [.val A, .val B, .val (.int m), .un]))else(true, .ret (.bool false))
 |[],_=>rfl
 |t::l,hl=>by
  have ht:=hl t (List.mem_cons_self ..);have tg:bh (cz iy.body[3]?) (.int (t:Int)) (aq nS [.val A, .val B, .val (.int m), .un])=(true,aq nS [.val A, .val B, .val (.int m), .val (.int t)]):=∅;have e:∀{res:Res},(bif decide (bm c2 b2 t2 t<=bm c1 b1 t1 t)then(true,fV.ret (.bool false))else(true,fV.next (aq nS [.val A, .val B, .val (.int m), .val (.int t)])))=res->ex xJ [] μ 1000 DV 196 ou (aq nS [.val A, .val B, .val (.int m), .val (.int t)])=res:=λ{res} he=>by
   refine oq (v := .bool (decide (bm c2 b2 t2 t<=bm c1 b1 t1 t))) (decide (bm c2 b2 t2 t<=bm c1 b1 t1 t)) ∅ ∅ ?_ rfl ?_
   ·refine ev_cmp nofun (x := .int (bm c1 b1 t1 t)) (y := .int (bm c2 b2 t2 t)) ?_ ?_ rfl
    ·refine ev_meth rfl nofun rfl (x:=A) (by walk_at "ee") (vs:=[.int t]) (by walk_at "el") ?_
     rw[hA];show((decide (c1.length<=1000)&&decide (1<=(t:Int))&&decide ((t:Int)<=1000),V.int (bm c1 b1 t1 t)):R)=_;rw[decide_eq_true ⋯,decide_eq_true ⋯,decide_eq_true ⋯];rfl
    ·refine ev_meth rfl nofun rfl (x:=B) (by walk_at "ee") (vs:=[.int t]) (by walk_at "el") ?_
     rw[hB];show((decide (c2.length<=1000)&&decide (1<=(t:Int))&&decide ((t:Int)<=1000),V.int (bm c2 b2 t2 t)):R)=_;rw[decide_eq_true ⋯,decide_eq_true ⋯,decide_eq_true ⋯];rfl
   ·rw[<-he]
    cases decide (bm c2 b2 t2 t<=bm c1 b1 t1 t)with
    |true=>exact lK ∅ ∅
    |false=>rfl
  rw[List.map_cons];rw[z9];cases hd:decide (bm c2 b2 t2 t<=bm c1 b1 t1 t)with
  |true=>exact wB (fH tg (e (by rw[hd];rfl)))
  |false=>
   refine fu (fH tg (e (by rw[hd];rfl))) ?_;rw[show mask (aq nS [.val A, .val B, .val (.int m), .un]) (aq nS [.val A, .val B, .val (.int m), .val (.int t)])=aq nS [.val A, .val B, .val (.int m), .un]by kernel_rfl];exact qA (p1:=p1) (p2:=p2) A B m r1 r2 n1 t1 c1 b1 s1 n2 t2 c2 b2 s2 hA hB h1 h2 l λx hx=>hl x (List.mem_cons_of_mem _ hx)
noncomputable def ov:List V->R:=bN xJ [] 1000 (cU ["self","other"] iy)
theorem Ac(r1 r2:List Nat)(n1 t1:Int)(c1:List Int)(b1:Int)(s1:Bool)(n2 t2:Int)(c2:List Int)(b2:Int)(s2:Bool)(h1:c1.length<=900)(h2:c2.length<=900)(g1:0<=b1/\b1<=900)(g2:0<=b2/\b2<=900):
 ov [.ws r1 n1 t1 c1 b1 s1, .ws r2 n2 t2 c2 b2 s2]=(true, .bool (Aa n1 t1 c1 b1 s1 n2 t2 c2 b2 s2)):=by
 obtain⟨A,hA⟩:∃A,A=V.ws r1 n1 t1 c1 b1 s1:=⟨_,rfl⟩;obtain⟨B,hB⟩:∃A,A=V.ws r2 n2 t2 c2 b2 s2:=⟨_,rfl⟩;rw[<-hA,<-hB];refine iC (ns:=nS) (ss:=[.val A, .val B, .un, .un]) rfl ∅ ?_;unfold Aa;refine oq (v := .bool (decide (n2<=n1))) (decide (n2<=n1)) ∅ ∅ ?_ rfl ?_
 ·rw[hA,hB];walk_at "ee"
 cases decide (n2<=n1)with
 |true=>exact lK ∅ ∅
 |false=>
  simp only[cond_false];refine oq (v := .bool (s1&&s2)) (s1&&s2) ∅ ∅ ?_ rfl ?_
  ·refine fM ?_
   rw[hA,hB]
   induction s1 using Bool.casesOn with
   |true=>exact eJ (x := .bool true) (by walk_at "ee") rfl (iV (by walk_at "ee"))
   |false=>exact f9 (x := .bool false) (by walk_at "ee") rfl
  cases(s1&&s2)with
  |true=>
   simp only[cond_true];refine lK ∅ ?_;rw[hA,hB];walk_at "ee"
  |false=>
   simp only[cond_false];have e1:∀(c:List Int) (b:Int),0<=b/\b<=900->c.length<=900->0<=fy c b/\fy c b<=900:=λc b h hc=>by
    have:=BT ((c.length:Int)-1) b;unfold l7 at this;unfold fy;cases hd:decide ((c.length:Int)-1<b)with
    |true=>simp;omega
    |false=>have:=of_decide_eq_false hd;simp;omega
   have p1:=e1 c1 b1 g1 h1;have p2:=e1 c2 b2 g2 h2;have pm:0<=l7 (fy c1 b1) (fy c2 b2)/\l7 (fy c1 b1) (fy c2 b2)<=900:=by
    unfold l7;cases decide (fy c1 b1<fy c2 b2)<;>simp<;>omega
   have rn:∀(x:V) (r:List Nat) (n t:Int) (c:List Int) (b:Int) (s:Bool),x = .ws r n t c b s->c.length<=900->fg xJ (nm "longest_run_of_spaces") x []=(true, .int (fy c b)):=λx r n t c b s hx hc=>by
    rw[hx];show fRunP [.ws r n t c b s]=_;show((decide (c.length<=1000),V.int (fy c b)):R)=_;rw[decide_eq_true ⋯]
   refine aY 2 ∅ (by decide +kernel) (v := .int (l7 (fy c1 b1) (fy c2 b2)+1)) ?_ rfl ?_
   ·refine ev_add (x := .int (l7 (fy c1 b1) (fy c2 b2))) (y := .int 1) (look_other rfl ?_) (by walk_at "ee") rfl
    refine ev_call ∅ ∅ ∅ (vs:=[.int (fy c1 b1), .int (fy c2 b2)]) ?_ (bg rfl rfl);refine evL_of ?_ (evL_of ?_ evL_nil)
    ·exact ev_meth rfl nofun rfl (x:=A) (by walk_at "ee") (vs:=[]) evL_nil (rn A _ _ _ _ _ _ hA h1)
    ·exact ev_meth rfl nofun rfl (x:=B) (by walk_at "ee") (vs:=[]) evL_nil (rn B _ _ _ _ _ _ hB h2)
   obtain⟨k,hk⟩:∃k:Nat,l7 (fy c1 b1) (fy c2 b2)=k:=⟨(l7 (fy c1 b1) (fy c2 b2)).toNat,⋯⟩;rw[hk]at pm |-;rw[show((k:Int)+2-2).toNat=k by omega];have L:=qA (p1:=default) (p2:=default) (μ:=aM (fW 20) iy.body) A B ((k:Int)+1) r1 r2 n1 t1 c1 b1 s1 n2 t2 c2 b2 s2 hA hB h1 h2 (List.range' 2 k) λt ht=>by
    rw[List.mem_range'_1]at ht;omega
   have it:aR DV (ev xJ [] 40 DV (aq nS [.val A, .val B, .val (.int ((k:Int)+1)), .un])) (cz iy.body[3]?) (ER iy.body[3]?)=(true,(List.range' 2 k).map λi:Nat => .int (i:Int)):=by
    refine fw ∅ rfl (vs:=[.int (2:Nat), .int ((k+2:Nat):Int)]) ?_ ((jB ⋯ ⋯).trans ?_)
    ·refine evL_of (by walk_at "ee") (evL_of ?_ evL_nil)
     rw[show((k+2:Nat):Int)=(k:Int)+1+1 by omega]
     walk_at "ee"
    ·rw[show k+2-2=k by omega]
   cases hg:kX c1 c2 b1 b2 t1 t2 (List.range' 2 k)with
   |true=>
    rw[hg]at L;exact z0 ∅ it ∅ L (lK ∅ ∅)
   |false=>
    rw[hg]at L;exact xH ∅ it ∅ L
noncomputable def fLessP:List V->R:=qP λx y=>DT (λr1 n1 t1 c1 b1 s1=>DT (λr2 n2 t2 c2 b2 s2=>(decide (c1.length<=900)&&decide (c2.length<=900)&&decide (0<=b1)&&decide (b1<=900)&&decide (0<=b2)&&decide (b2<=900), .bool (Aa n1 t1 c1 b1 s1 n2 t2 c2 b2 s2))) y) x
theorem DG{as:List V}(h:(fLessP as).1=true):ov as=fLessP as:=by
 refine v0 (λas r=>ov as=r) h λx y h=>qQ (λv r=>ov [v,y]=r) h λr1 n1 t1 c1 b1 s1 h=>qQ (λv r=>ov [.ws r1 n1 t1 c1 b1 s1,v]=r) h λr2 n2 t2 c2 b2 s2 h => ?_
 have k1:=aG h;have k2:=aG k1.1;have k3:=aG k2.1;have k4:=aG k3.1;have k5:=aG k4.1;have h1:=of_decide_eq_true k5.1;have h2:=of_decide_eq_true k5.2;have h3:=of_decide_eq_true k4.2;have h4:=of_decide_eq_true k3.2;have h5:=of_decide_eq_true k2.2;have h6:=of_decide_eq_true k1.2;rw[decide_eq_true h1,decide_eq_true h2,decide_eq_true h3,decide_eq_true h4,decide_eq_true h5,decide_eq_true h6];exact Ac _ _ _ _ _ _ _ _ _ _ _ _ h1 h2 ⟨h3,h4⟩ ⟨h5,h6⟩
noncomputable def ka(size c s:Nat):Nat:=bif ag [s] [32]then c+1 else c/size*size+size
noncomputable def iD(lead:List Nat)(size:Nat):Nat:=lead.foldl (ka size) 0
noncomputable def bV(lead:List Nat):List Nat:=(List.range' 1 6).map (iD lead)
noncomputable abbrev Ge:List (Str×NameKind):=n0.scope.names
noncomputable abbrev nC:List Nm:=fK Ge
noncomputable def vN(i:Nat):V := .int (i:Int)
noncomputable def kb:List V->R:=bN mz [] 1000 (cU ["lead"] n0)
theorem kY{s:List Nat}(h:s.length<=cap):mL (.str s)=(true,s.map λc=>V.str [c]):=by
 show((decide (s.length<=cap),ya s):Bool×List V)=_;rw[decide_eq_true h];rfl
theorem dX{s:List V}(h:s.length<=cap):mL (.list s)=(true,s):=by
 show((decide (s.length<=cap),s):Bool×List V)=_;rw[decide_eq_true h]
theorem vA(a k:Nat):List.range' a (k+1)=List.range' a k++[a+k]:=by
 rw[List.range'_concat];simp
theorem tU(lead:List Nat)(h:lead.length<=1000):kb [.str lead]=(true, .list ((bV lead).map vN)):=by
 have hl:lead.length<=cap:=by unfold cap;omega
 refine iC (ns:=nC) (ss:=[.val (.str lead), .un, .un, .un, .un]) rfl ∅ ?_;refine aY 1 ∅ (by decide +kernel) (v := .list []) (s := .own ((List.range' 1 (1-1)).map λi=>vN (iD lead i))) ∅ ∅ ?_;refine iB (λj=>[.val (.str lead), .own ((List.range' 1 (j-1)).map λi=>vN (iD lead i)), .un, .un, .un]) vN 1 6 ∅ ∅ ∅ (λj h1 h2 => ?_) ?_
 ·refine⟨[.val (.str lead), .own ((List.range' 1 (j-1)).map λi=>vN (iD lead i)), .val (vN j), .un, .un],[.val (.str lead), .own ((List.range' 1 (j+1-1)).map λi=>vN (iD lead i)), .val (vN j), .val (vN (iD lead j)), .un],∅, ?_,∅⟩
  obtain⟨own,ho⟩:∃own,own=(List.range' 1 (j-1)).map λi=>vN (iD lead i):=⟨_,rfl⟩
  have ho2:(List.range' 1 (j+1-1)).map (λi=>vN (iD lead i))=own++[vN (iD lead j)]:=by
   rw[show j+1-1=(j-1)+1 by omega,vA,List.map_append,ho,show 1+(j-1)=j by omega];rfl
  have hlen:own.length<=cap:=by rw[ho];simp[cap];omega
  rw[<-ho,ho2];refine aY 3 ∅ (by decide +kernel) (v:=vN 0) ∅ rfl ?_;refine DC (λc => .str [c]) (ka j) (λ_=>True) (λc=>[.val (.str lead), .own own, .val (vN j), .val (vN c), .un]) lead 0 ∅ (cY ∅ (v := .str lead) (by walk_at "ee") (kY hl) (.inl rfl)) ∅ trivial (λc s hs _=>⟨trivial, ?_⟩) ?_
  ·refine⟨[.val (.str lead), .own own, .val (vN j), .val (vN c), .val (.str [s])],[.val (.str lead), .own own, .val (vN j), .val (vN (ka j c s)), .val (.str [s])],∅, ?_,∅⟩
   refine aY 3 ∅ (by decide +kernel) (v:=vN (ka j c s)) ?_ rfl cV;refine zR (x := .bool (ag [s] [32])) (c:=ag [s] [32]) ∅ rfl ?_;unfold ka;cases ag [s] [32]with
   |true=>exact ev_add (x:=vN c) (y:=vN 1) (by walk_at "lk") ∅ rfl
   |false=>
    refine ev_add (x:=vN (c/j*j)) (y:=vN j) (look_other rfl ?_) (by walk_at "ee") rfl;exact ev_bin nofun (x:=vN (c/j)) (y:=vN j) (ev_bin nofun (x:=vN c) (y:=vN j) (by walk_at "ee") (by walk_at "ee") (b_div ⋯ ⋯)) (by walk_at "ee") (b_mulR (qz ⋯))
  ·exact qw 1 ∅ (by decide +kernel) rfl rfl hlen (v:=vN (iD lead j)) (by walk_at "ee") cV
 ·refine vy (ss':=[.val (.str lead), .val (.list ((List.range' 1 6).map λi=>vN (iD lead i))), .un, .un, .un]) ∅ ?_
  unfold bV;rw[List.map_map];exact x_loc (lJ.of 1 (by decide +kernel) rfl)
noncomputable def lL(a b:List Nat):Bool:=((bV a).zip (bV b)).all λp=>decide ((p.1:Int)<(p.2:Int))
noncomputable def ke:List Nat:=[120,32,9]
noncomputable def tV(lead:List Nat):V:=(Cj runW [.str (lead++ke)]).2
noncomputable def fColumnsP:List V->R:=fU (vX λlead=>(decide (lead.length<=1000), .list ((bV lead).map vN)))
noncomputable def Ff:Fns:=⟨GL,[(nm "_law_columns",fColumnsP),(nm "Whitespace",Cj runW)],[(nm "less",fLessP)]⟩
noncomputable abbrev Fg:List (Str×NameKind):=n4.scope.names
noncomputable abbrev nA:List Nm:=fK Fg
noncomputable abbrev Fi:Tau:=[(nm "above",1)]
noncomputable def gU(D:Nat->Nat->Bool)(above:List Nat)(i:Nat):Nat->Nat->Nat
 |0,j=>j
 |k+1,j=>let j':=bif Nat.beq j i then i-1 else above.getD j 0;bif D j' i then j' else gU D above i k j'
noncomputable def bK(D:Nat->Nat->Bool):Nat->List Nat
 |0=>[0]
 |k+1=>bK D k++[gU D (bK D k) (k+1) (k+1) (k+1)]
theorem iE(D:Nat->Nat->Bool):∀k,(bK D k).length=k+1
 |0=>rfl
 |k+1=>by show(bK D k++_).length=_;rw[List.length_append,iE D k];rfl
theorem tW{D:Nat->Nat->Bool}{above:List Nat}{i:Nat}(h0:D 0 i=true)(hi:1<=i)(ha:∀j,1<=j->j<i->above.getD j 0<j):∀(k j:Nat),1<=j->j<=i->j<=k->gU D above i k j<i
 |0,j,h1,_,h3=>⋯
 |k+1,j,h1,h2,h3=>by
  show(let j':=bif Nat.beq j i then i-1 else above.getD j 0;bif D j' i then j' else gU D above i k j')<i;have hj:(bif Nat.beq j i then i-1 else above.getD j 0)<j:=by
   cases e:Nat.beq j i with
   |true=>have:=Nat.eq_of_beq_eq_true e;simp;omega
   |false=>have:=Nat.ne_of_beq_eq_false e;exact ha j h1 ⋯
  dsimp only;generalize (bif Nat.beq j i then i-1 else above.getD j 0)=j' at hj |-;cases hd:D j' i with
  |true=>simp;omega
  |false=>
   have:j'≠0:=λe=>by rw[e,h0]at hd;injections hd
   exact tW h0 hi ha k j' ⋯ ⋯ ⋯
theorem gK{D:Nat->Nat->Bool}:∀(k:Nat),(∀i,1<=i->i<=k->D 0 i=true)->∀j,1<=j->j<=k->(bK D k).getD j 0<j
 |0,_,j,h1,h2=>⋯
 |k+1,h,j,h1,h2=>by
  have hl:=iE D k;show(bK D k++[_]).getD j 0<j
  rcases Nat.lt_or_ge k j with hk|hk
  ·have:j=k+1:=⋯
   subst this;rw[List.getD_eq_getElem?_getD,List.getElem?_append_right ⋯,hl,Nat.sub_self];exact tW (h (k+1) ⋯ ⋯) ⋯ (λj a b=>gK k (λi x y=>h i x ⋯) j a ⋯) _ _ ⋯ ⋯ ⋯
  ·have:=gK k (λi x y=>h i x ⋯) j h1 hk
   rw[List.getD_eq_getElem?_getD,List.getElem?_append_left ⋯,<-List.getD_eq_getElem?_getD];exact this
noncomputable def xK(s:Option Stmt):List Stmt:=match s with
 |some (.While _ b _ _)=>b
 |_=>[]
noncomputable def xL(s:Option Stmt):Expr:=match s with
 |some (.While t _ _ _)=>t
 |_ => .Name "" default
noncomputable abbrev Co:List Stmt:=j6 n4.body[3]?
noncomputable abbrev wG:List Stmt:=xK Co[1]?
noncomputable abbrev DH:Expr:=xL Co[1]?
structure mA(leads:List (List Nat)):Prop where
 len:leads.length=6
 short:∀a∈leads,a.length<=100
 pair:∀a∈leads,∀b∈leads,fLessP [tV a,tV b]=(true, .bool (lL a b))
 first:∀i,1<=i->i<6->lL (leads.getD 0 []) (leads.getD i [])=true
noncomputable def Ay(leads:List (List Nat))(above:List Nat)(i j due:Mine.Slot):List Mine.Slot:=
 [.val (.list (leads.map .str)), .val (.list (leads.map λa => .list ((bV a).map vN))), .val (.list (leads.map tV)), .own (above.map vN),i,j,due]
theorem rY{row:List Nat}{i:Nat}(h:i<row.length):(row.map vN).getD i .none=vN (row.getD i 0):=by
 simp[List.getD_eq_getElem?_getD,h]
theorem gh{α:Type}{f:α->V}{row:List α}{i:Nat}(d:α)(h:i<row.length):(row.map f).getD i .none=f (row.getD i d):=by
 simp[List.getD_eq_getElem?_getD,h]
theorem getD_mem{α:Type}{row:List α}{i:Nat}(d:α)(h:i<row.length):row.getD i d∈row:=by
 rw[List.getD_eq_getElem?_getD,List.getElem?_eq_getElem h];exact List.getElem_mem h
theorem xM{leads:List (List Nat)}(L:mA leads){above:List Nat}{i j:Nat}{μ:List Nm}{m:Nat}(hi1:1<=i)(hi:i<6)(hl:above.length=i)(hj:j<=i)(j':Nat)(ej:j'=bif Nat.beq j i then i-1 else above.getD j 0)(hj':j'<6):
 ex Ff Fi μ 1000 Fg 196 wG (aq nA (Ay leads above (.val (vN i)) (.val (vN j)) (.val (.bool false))))=(true, .next (aq nA (Ay leads above (.val (vN i)) (.val (vN j')) (.val (.bool (lL (leads.getD j' []) (leads.getD i []))))))):=by
 have hll:(above.map vN).length<=cap:=by rw[List.length_map,hl];unfold cap;omega
 have hlc:(leads.map λa=>V.list ((bV a).map vN)).length<=cap:=by rw[List.length_map,L.len];decide
 have hlr:(leads.map tV).length<=cap:=by rw[List.length_map,L.len];decide
 refine aY 5 ∅ (by decide +kernel) (v:=vN j') ?_ rfl ?_
 ·refine zR (x := .bool (Nat.beq j i)) (c:=Nat.beq j i) ?_ rfl ?_
  ·refine ev_cmp nofun (x:=vN j) (y:=vN i) (by walk_at "ee") (by walk_at "ee") ?_
   show((true,decide ((j:Int)=(i:Int))):Bool×Bool)=_
   congr 1
   cases e:Nat.beq j i with
   |true=>exact decide_eq_true (by rw[Nat.eq_of_beq_eq_true e])
   |false=>have:=Nat.ne_of_beq_eq_false e;exact decide_eq_false ⋯
  ·rw[ej]
   cases e:Nat.beq j i with
   |true=>
    refine ev_bin nofun (x:=vN i) (y:=vN 1) (by walk_at "ee") ∅ ?_;show((true,V.int ((i:Int)-1)):R)=(true,V.int ((i-1:Nat):Int));rw[show(i:Int)-1=((i-1:Nat):Int)by omega]
   |false=>
    have:=Nat.ne_of_beq_eq_false e;exact ah rfl (x := .list (above.map vN)) (y:=vN j) (by walk_at "lk") (by walk_at "ee") (ty:=1) ∅ (sub_int hll (by rw[List.length_map];omega) (rY ⋯))
 ·have ci:∀k,k<6->(leads.map λa=>V.list ((bV a).map vN)).getD k .none = .list ((bV (leads.getD k [])).map vN):=λk hk=>gh [] (by rw[L.len];exact hk)
  have ri:∀k,k<6->(leads.map tV).getD k .none=tV (leads.getD k []):=λk hk=>gh [] (by rw[L.len];exact hk)
  refine aY 6 ∅ (by decide +kernel) (v := .bool (lL (leads.getD j' []) (leads.getD i []))) ?_ rfl ?_
  ·refine ev_call ∅ ∅ ∅ (vs:=[.list (((bV (leads.getD j' [])).zip (bV (leads.getD i []))).map λp:Nat×Nat => .bool (decide ((p.1:Int)<(p.2:Int))))]) (evL_of ?_ evL_nil) (bg rfl (xI (λp:Nat×Nat=>decide ((p.1:Int)<(p.2:Int))) ((bV (leads.getD j' [])).zip (bV (leads.getD i []))) (by simp[cap,bV])))
   refine bl (λp:Nat×Nat => .tup [vN p.1,vN p.2]) (λp:Nat×Nat => .bool (decide ((p.1:Int)<(p.2:Int)))) ((bV (leads.getD j' [])).zip (bV (leads.getD i []))) [.un, .un, .un] ∅ ∅ ?_ ∅ (by simp[cap,bV]) (λp _=>⟨[.un, .val (vN p.1), .val (vN p.2)],∅,by walk_at "ee"⟩);refine(DD ∅ rfl (l:=(bV (leads.getD j' [])).map vN) (r:=(bV (leads.getD i [])).map vN) ?_ ?_).trans (by rw[tS])
   ·exact ah rfl (x := .list (leads.map λa => .list ((bV a).map vN))) (y:=vN j') (by walk_at "lk") (by walk_at "ee") (ty:=0) ∅ (cZ hlc (by rw[List.length_map,L.len];exact hj') (ci j' hj'))
   ·exact ah rfl (x := .list (leads.map λa => .list ((bV a).map vN))) (y:=vN i) (by walk_at "lk") (by walk_at "ee") (ty:=0) ∅ (cZ hlc (by rw[List.length_map,L.len];exact hi) (ci i hi))
  ·refine oq (v := .bool false) false ∅ ∅ ?_ rfl ?_
   ·refine ev_cmp nofun (x := .bool (lL (leads.getD j' []) (leads.getD i []))) (y := .bool (lL (leads.getD j' []) (leads.getD i []))) (c:=false) ?_ (by walk_at "ee") (by cases lL (leads.getD j' []) (leads.getD i [])<;>rfl)
    refine ev_meth rfl nofun rfl (x:=tV (leads.getD j' [])) ?_ (vs:=[tV (leads.getD i [])]) (evL_of ?_ evL_nil) ?_
    ·exact ah rfl (x := .list (leads.map tV)) (y:=vN j') (by walk_at "lk") (by walk_at "ee") (ty:=0) ∅ (cZ hlr (by rw[List.length_map,L.len];exact hj') (ri j' hj'))
    ·exact ah rfl (x := .list (leads.map tV)) (y:=vN i) (by walk_at "lk") (by walk_at "ee") (ty:=0) ∅ (cZ hlr (by rw[List.length_map,L.len];exact hi) (ri i hi))
    ·have hp:=L.pair _ (getD_mem [] (show j'<leads.length by rw[L.len];exact hj')) _ (getD_mem [] (show i<leads.length by rw[L.len];exact hi))
     exact hp
   ·rfl
theorem qB{leads:List (List Nat)}(L:mA leads){above:List Nat}{i:Nat}{μ:List Nm}(hi1:1<=i)(hi:i<6)(hl:above.length=i)(ha:∀j,1<=j->j<i->above.getD j 0<j):∀(k j m:Nat),1<=j->j<=i->j<=k->k<m ->
 bR (λρ=>ev Ff Fi 40 Fg ρ DH) (ex Ff Fi μ 1000 Fg 196 wG) (m+1) (aq nA (Ay leads above (.val (vN i)) (.val (vN j)) (.val (.bool false)))) =
  (true, .next (aq nA (Ay leads above (.val (vN i)) (.val (vN (gU (λj i=>lL (leads.getD j []) (leads.getD i [])) above i k j))) (.val (.bool true)))))
 |0,j,m,h1,_,h3,_=>⋯
 |k+1,j,m,h1,h2,h3,h4=>by
  obtain⟨j',ej⟩:∃j',j'=bif Nat.beq j i then i-1 else above.getD j 0:=⟨_,rfl⟩
  have hj:j'<j:=by
   rw[ej];cases e:Nat.beq j i with
   |true=>have:=Nat.eq_of_beq_eq_true e;simp;omega
   |false=>have:=Nat.ne_of_beq_eq_false e;exact ha j h1 ⋯
  have ec:gU (λj i=>lL (leads.getD j []) (leads.getD i [])) above i (k+1) j=bif lL (leads.getD j' []) (leads.getD i [])then j' else gU (λj i=>lL (leads.getD j []) (leads.getD i [])) above i k j':=by rw[ej];rfl
  rw[ec];refine nY (ρ1:=aq nA (Ay leads above (.val (vN i)) (.val (vN j')) (.val (.bool (lL (leads.getD j' []) (leads.getD i [])))))) (v := .bool true) ∅ rfl (xM L hi1 hi hl h2 j' ej ⋯ (m:=0)) ?_;cases hd:lL (leads.getD j' []) (leads.getD i [])with
  |true=>
   obtain⟨m,rfl⟩:∃m',m=m'+1:=⟨m-1,⋯⟩;exact qq (v := .bool false) ∅ rfl
  |false=>
   have hz:j'≠0:=λe=>by rw[e,L.first i hi1 hi]at hd;injections hd
   obtain⟨m,rfl⟩:∃m',m=m'+1:=⟨m-1,⋯⟩;exact qB L hi1 hi hl ha k j' m ⋯ ⋯ ⋯ ⋯
noncomputable def fAbove:List V->R:=bN Ff Fi 1000 (cU ["leads"] n4)
noncomputable def fN(leads:List (List Nat)):List Nat:=bK (λj i=>lL (leads.getD j []) (leads.getD i [])) 5
theorem BU{a:List Nat}(h:a.length<=100):Cj runW [.str (a++ke)]=(true,tV a):=by
 have:(Cj runW [.str (a++ke)]).1=true:=decide_eq_true (by rw[List.length_append];unfold ke;simp;omega);exact FP this rfl
theorem xN{leads:List (List Nat)}(L:mA leads):fAbove [.list (leads.map .str)]=(true, .list ((fN leads).map vN)):=by
 have hll:(leads.map V.str).length<=cap:=by rw[List.length_map,L.len];decide
 have hl6:leads.length<=cap:=by rw[L.len];decide
 refine iC (ns:=nA) (ss:=[.val (.list (leads.map .str)), .un, .un, .un, .un, .un, .un]) rfl ∅ ?_;refine aY 1 ∅ (by decide +kernel) (v := .list (leads.map λa => .list ((bV a).map vN))) ?_ (s := .val (.list (leads.map λa => .list ((bV a).map vN)))) ∅ ?_
 ·refine bl V.str (λa => .list ((bV a).map vN)) leads [.un, .un, .un] ∅ ∅ (cY ∅ (v := .list (leads.map .str)) (by walk_at "ee") (dX hll) (.inl rfl)) ∅ hl6 λa ha=>⟨[.un, .val (.str a), .un],∅, ?_⟩
  have h100:=L.short a ha;refine ev_call ∅ ∅ ∅ (vs:=[.str a]) (by walk_at "el") (bJ (F:=fColumnsP) rfl ?_);show((decide (a.length<=1000),V.list ((bV a).map vN)):R)=_;rw[decide_eq_true ⋯]
 refine aY 2 ∅ (by decide +kernel) (v := .list (leads.map tV)) ?_ (s := .val (.list (leads.map tV))) ∅ ?_
 ·refine bl V.str tV leads [.un, .un, .un] ∅ ∅ (cY ∅ (v := .list (leads.map .str)) (by walk_at "ee") (dX hll) (.inl rfl)) ∅ hl6 λa ha=>⟨[.un, .val (.str a), .un],∅, ?_⟩
  have h100:=L.short a ha;refine ev_call ∅ ∅ ∅ (vs:=[.str (a++ke)]) (evL_of (ev_add (x := .str a) (y := .str ke) (by walk_at "lk") ∅ ?_) evL_nil) (bJ (F:=Cj runW) rfl (BU h100));show((decide (a.length+ke.length<=cap),V.str (a++ke)):R)=_;rw[decide_eq_true (by unfold ke cap;simp;omega)]
 refine aY 3 ∅ (by decide +kernel) (v := .list [vN 0]) ∅ (s := .own ((bK (λj i=>lL (leads.getD j []) (leads.getD i [])) (1-1)).map vN)) ∅ ?_;refine iB (λi=>Ay leads (bK (λj i=>lL (leads.getD j []) (leads.getD i [])) (i-1)) .un .un .un) vN 1 5 ∅ ∅ ∅ (λi h1 h2 => ?_) ?_
 ·obtain⟨k,rfl⟩:∃k,i=k+1:=⟨i-1,⋯⟩
  rw[show k+1-1=k by omega,show k+1+1-1=k+1 by omega];have hlen:=iE (λj i=>lL (leads.getD j []) (leads.getD i [])) k;have hlt:=gK (D:=λj i=>lL (leads.getD j []) (leads.getD i [])) k (λi a b=>L.first i a ⋯);have hs:bK (λj i=>lL (leads.getD j []) (leads.getD i [])) (k+1)=bK (λj i=>lL (leads.getD j []) (leads.getD i [])) k++[gU (λj i=>lL (leads.getD j []) (leads.getD i [])) (bK (λj i=>lL (leads.getD j []) (leads.getD i [])) k) (k+1) (k+1) (k+1)]:=rfl;rw[hs];generalize bK (λj i=>lL (leads.getD j []) (leads.getD i [])) k=ab at hlen hlt |-;obtain⟨c,hc⟩:∃c,c=gU (λj i=>lL (leads.getD j []) (leads.getD i [])) ab (k+1) (k+1) (k+1):=⟨_,rfl⟩
  have W:=qB L (μ:=aM (fW 20) n4.body) (above:=ab) (i:=k+1) ⋯ ⋯ hlen (λj a b=>hlt j a ⋯) (k+1) (k+1) 999 ⋯ ⋯ ⋯ ⋯;rw[<-hc]at W |-;refine⟨Ay leads ab (.val (vN (k+1))) .un .un,Ay leads (ab++[c]) (.val (vN (k+1))) (.val (vN c)) (.val (.bool true)),∅, ?_,∅⟩;refine cw (ρ':=aq nA (Ay leads ab (.val (vN (k+1))) (.val (vN (k+1))) (.val (.bool false)))) ∅ ?_;refine nV (ρ':=aq nA (Ay leads ab (.val (vN (k+1))) (.val (vN c)) (.val (.bool true)))) W ?_;refine(qw 3 ∅ (by decide +kernel) rfl rfl (by rw[List.length_map,hlen];unfold cap;omega) (v:=vN c) (by walk_at "ee") cV).trans ?_;rw[show(ab.map vN++[vN c])=(ab++[c]).map vN by rw[List.map_append];rfl]
  rfl
 ·exact vy (ss':=[.val (.list (leads.map .str)), .val (.list (leads.map λa => .list ((bV a).map vN))), .val (.list (leads.map tV)), .val (.list ((fN leads).map vN)), .un, .un, .un]) ∅ (x_loc (lJ.of 3 (by decide +kernel) rfl))
noncomputable def fL:Nat->List (List Nat)
 |0=>[[]]
 |n+1=>(fL n).flatMap λl=>[32::l,9::l]
noncomputable def allLeads:List (List Nat):=fL 0++fL 1++fL 2++fL 3++fL 4++fL 5
noncomputable def FS(b:Bool):V->Bool
 | .bool c=>c==b
 |_=>false
noncomputable def wH(r:R)(b:Bool):Bool:=r.1&&FS b r.2
theorem Ad:(allLeads.all λa=>allLeads.all λb=>wH (fLessP [tV a,tV b]) (lL a b))=true:=by decide +kernel
noncomputable def tX(above:List Nat):Nat->Nat->List Nat
 |0,_=>[]
 |k+1,j=>let j':=above.getD j 0;bif Nat.beq j' 0 then[0]else j'::tX above k j'
noncomputable def FT(a:List Nat)(k:Nat):List Nat:=bif Nat.beq k 0 then[0]else k::tX a (k+1) k
noncomputable def rZ:Nat->List (List Nat)
 |0=>[[0]]
 |k+1=>(rZ k).flatMap λa=>(FT a k).map λj=>a++[j]
noncomputable def trees:List (List Nat):=rZ 5
theorem qC{D:Nat->Nat->Bool}{above:List Nat}{i:Nat}(h0:D 0 i=true)(hi:1<=i)(ha:∀j,1<=j->j<i->above.getD j 0<j):∀(k j m:Nat),1<=j->j<i->j<=k->j<m->gU D above i k j∈tX above m j
 |0,j,m,h1,_,h3,_=>⋯
 |k+1,j,0,h1,_,h3,h4=>⋯
 |k+1,j,m+1,h1,h2,h3,h4=>by
  have hb:Nat.beq j i=false:=by cases e:Nat.beq j i with|true=>have:=Nat.eq_of_beq_eq_true e;omega|false=>rfl
  show(let j':=bif Nat.beq j i then i-1 else above.getD j 0;bif D j' i then j' else gU D above i k j')∈(let j':=above.getD j 0;bif Nat.beq j' 0 then[0]else j'::tX above m j');rw[hb];have hj:=ha j h1 h2;simp only[cond_false];generalize above.getD j 0=j' at hj |-;cases hz:Nat.beq j' 0 with
  |true=>
   have:=Nat.eq_of_beq_eq_true hz;rw[this,h0];simp
  |false=>
   have:=Nat.ne_of_beq_eq_false hz;cases hd:D j' i with
   |true=>simp
   |false=>exact List.mem_cons_of_mem _ (qC h0 hi ha k j' m ⋯ ⋯ ⋯ ⋯)
theorem kf{D:Nat->Nat->Bool}:∀k,(∀i,1<=i->i<=k->D 0 i=true)->bK D k∈rZ k
 |0,_=>List.mem_singleton.mpr rfl
 |k+1,h=>by
  have h0:=h (k+1) ⋯ ⋯;have hlt:=gK k (D:=D) λi a b=>h i a ⋯
  refine List.mem_flatMap.mpr ⟨_,kf k λi a b=>h i a ⋯,List.mem_map.mpr ⟨_, ?_,rfl⟩⟩;show(let j':=bif Nat.beq (k+1) (k+1)then k+1-1 else(bK D k).getD (k+1) 0;bif D j' (k+1)then j' else gU D (bK D k) (k+1) k j')∈bif Nat.beq k 0 then[0]else k::tX (bK D k) (k+1) k;rw[show Nat.beq (k+1) (k+1)=true from Nat.beq_refl _];simp only[cond_true,Nat.add_sub_cancel];cases hz:Nat.beq k 0 with
  |true=>have:=Nat.eq_of_beq_eq_true hz;subst this;rw[h0];simp
  |false=>
   have:=Nat.ne_of_beq_eq_false hz;cases hd:D k (k+1)with
   |true=>simp
   |false=>
    exact List.mem_cons_of_mem _ (qC h0 ⋯ (λj a b=>hlt j a ⋯) k k (k+1) ⋯ ⋯ ⋯ ⋯)
noncomputable def DI(base:List Nat)(w:Nat):List Nat:=[base++[32],base++[9],32::base,9::base,base.reverse++[9],bif base.isEmpty then[32]else base].getD w []
noncomputable def aH(nums:List Nat):Nat->List (List Nat)
 |0=>[[]]
 |k+1=>aH nums k++[DI ((aH nums k).getD (nums.getD k 0%60%(k+1)) []) (nums.getD k 0/60%6)]
noncomputable def oA(n:Nat)(a:List Nat):Prop:=a.length<=n/\∀c∈a,c=32\/c=9
theorem Ae{n:Nat}{base:List Nat}{w:Nat}(h:oA n base)(hw:w<6):oA (n+1) (DI base w)/\DI base w≠[]:=by
 obtain⟨h1,h2⟩:=h;unfold DI oA
 match w,hw with
 |0,_=>exact⟨⟨by simp;omega,λc hc=>by simp at hc;rcases hc with hc|hc;exact h2 c hc;exact .inl hc⟩,by simp⟩
 |1,_=>exact⟨⟨by simp;omega,λc hc=>by simp at hc;rcases hc with hc|hc;exact h2 c hc;exact .inr hc⟩,by simp⟩
 |2,_=>exact⟨⟨by simp;omega,λc hc=>by simp at hc;rcases hc with hc|hc;exact .inl hc;exact h2 c hc⟩,by simp⟩
 |3,_=>exact⟨⟨by simp;omega,λc hc=>by simp at hc;rcases hc with hc|hc;exact .inr hc;exact h2 c hc⟩,by simp⟩
 |4,_=>exact⟨⟨by simp;omega,λc hc=>by simp at hc;rcases hc with hc|hc;exact h2 c hc;exact .inr hc⟩,by simp⟩
 |5,_=>
  induction base using List.casesOn with
  |nil=>exact⟨⟨by simp,λc hc=>by simp at hc;exact .inl hc⟩,by simp⟩
  |cons b l=>exact⟨⟨by simp at h1 |-;omega,λc hc=>h2 c (by simpa using hc)⟩,by simp⟩
theorem tY:∀(n:Nat) (a:List Nat),a.length=n->(∀c∈a,c=32\/c=9)->a∈fL n
 |0,a,h,_=>by rw[List.length_eq_zero_iff.mp h];exact List.mem_singleton.mpr rfl
 |n+1,[],h,_=>by injections h
 |n+1,c::a,h,hc=>by
  refine List.mem_flatMap.mpr ⟨a,tY n a (by simpa using h) (λx hx=>hc x (List.mem_cons_of_mem _ hx)), ?_⟩
  rcases hc c (List.mem_cons_self ..)with rfl|rfl<;>simp
theorem oC{a:List Nat}(h:oA 5 a):a∈allLeads:=by
 have hm:=tY a.length a rfl h.2;have:=h.1;unfold allLeads;simp only[List.mem_append]
 match hl:a.length,this with
 |0,_=>rw[hl]at hm;simp[hm]
 |1,_=>rw[hl]at hm;simp[hm]
 |2,_=>rw[hl]at hm;simp[hm]
 |3,_=>rw[hl]at hm;simp[hm]
 |4,_=>rw[hl]at hm;simp[hm]
 |5,_=>rw[hl]at hm;simp[hm]
theorem jC(nums:List Nat):∀k,(aH nums k).length=k+1/\(∀a∈aH nums k,oA k a)/\(∀i,1<=i->i<=k->(aH nums k).getD i []≠[])/\(aH nums k).getD 0 []=[]
 |0=>⟨rfl,λa ha=>by rw[List.mem_singleton.mp ha];exact⟨Nat.le_refl _,λc hc=>nomatch hc⟩,λi a b=>⋯,rfl⟩
 |k+1=>by
  obtain⟨h1,h2,h3,h4⟩:=jC nums k;have hw:=Ae (h2 _ (getD_mem [] (show nums.getD k 0%60%(k+1)<(aH nums k).length by rw[h1];exact Nat.mod_lt _ ⋯))) (show nums.getD k 0/60%6<6 from Nat.mod_lt _ nofun);show(aH nums k++[_]).length=_/\(∀a∈aH nums k++[_],_)/\_/\_;refine⟨by rw[List.length_append,h1];rfl,λa ha => ?_,λi a b => ?_, ?_⟩
  ·rcases List.mem_append.mp ha with ha|ha
   ·exact⟨by have:=(h2 a ha).1;omega,(h2 a ha).2⟩
   ·rw[List.mem_singleton.mp ha];exact hw.1
  ·show(aH nums k++[_]).getD i []≠[]
   rcases Nat.lt_or_ge k i with hk|hk
   ·have:i=k+1:=⋯
    subst this;rw[List.getD_eq_getElem?_getD,List.getElem?_append_right ⋯,h1,Nat.sub_self];exact hw.2
   ·rw[List.getD_eq_getElem?_getD,List.getElem?_append_left ⋯,<-List.getD_eq_getElem?_getD]
    exact h3 i a hk
  ·show(aH nums k++[_]).getD 0 []=[]
   rw[List.getD_eq_getElem?_getD,List.getElem?_append_left ⋯,<-List.getD_eq_getElem?_getD];exact h4
theorem Af:(allLeads.all λa=>a.isEmpty||lL [] a)=true:=by decide +kernel
theorem tZ{r:R}{b:Bool}(h:wH r b=true):r=(true, .bool b):=by
 have h:=aG h;refine Prod.ext h.1 (?_ : r.2 = .bool b);have h:=h.2;generalize r.2=v at h |-
 induction v using V.casesOn with
 |bool c=>rw[eq_of_beq (show(c==b)=true from h)]
 |_=>exact ad h
theorem t7(nums:List Nat):mA (aH nums 5):=by
 obtain⟨h1,h2,h3,h4⟩:=jC nums 5;refine⟨h1,λa ha=>by have:=(h2 a ha).1;omega,λa ha b hb => ?_,λi a b => ?_⟩
 ·exact tZ (List.all_eq_true.mp (List.all_eq_true.mp Ad a (oC (h2 a ha))) b (oC (h2 b hb)))
 ·have:=List.all_eq_true.mp Af _ (oC (h2 _ (getD_mem [] (show i<(aH nums 5).length by rw[h1];omega))))
  rw[h4]
  rcases Bool.or_eq_true_iff.mp this with h|h
  ·exact absurd (List.isEmpty_iff.mp h) (h3 i a ⋯)
  ·exact h
theorem oD(nums:List Nat):fN (aH nums 5)∈trees:=kf 5 λi a b=>(t7 nums).first i a ⋯
noncomputable def tableL:List Nat:=[173,847,6150,6155,6156,6157,8203,8204,8205,8288,65279,65024,65025,65026,65027,65028,65029,65030,65031,65032,65033,65034,65035,65036,65037,65038,65039]
noncomputable def cA:List Nat:=[97,224,945,1072,248]
noncomputable def dn:List Nat:=[26,23,17,32,7]
noncomputable abbrev FU:List (Str×NameKind):=n7.scope.names
noncomputable abbrev nH:List Nm:=fK FU
noncomputable def ew(nums:List Nat)(k:Nat):Nat:=cA.getD k 0+nums.getD k 0/360%32%dn.getD k 0
noncomputable def ax(nums:List Nat):List Nat:=(List.range' 0 5).map (ew nums)
noncomputable def ai(ls:List Nat)(m:List Bool):List Nat:=List.zipWith (λl b=>bif b then l-32 else l) ls m
noncomputable def aI(ab:List Nat):Nat->List (List Bool)
 |0=>[[false,false,false,false,false]]
 |k+1=>aI ab k++[((aI ab k).getD (ab.getD (k+1) 0) []).set k true]
noncomputable def gq(a:List Nat)(k c:Nat):List Nat:=a.take k++[c]++a.drop k
noncomputable def aT(ls:List Nat)(nums ab:List Nat):Nat->List (List Nat)
 |0=>[ai ls [false,false,false,false,false]]
 |k+1=>aT ls nums ab k++[gq (ai ls ((aI ab (k+1)).getD (k+1) [])) (nums.getD k 0/311040%6) (tableL.getD (nums.getD k 0/11520%27) 0)]
theorem lM(ab:List Nat):∀k,(aI ab k).length=k+1
 |0=>rfl
 |k+1=>by show(aI ab k++[_]).length=_;rw[List.length_append,lM ab k];rfl
theorem gL(ls nums ab:List Nat):∀k,(aT ls nums ab k).length=k+1
 |0=>rfl
 |k+1=>by show(aT ls nums ab k++[_]).length=_;rw[List.length_append,gL ls nums ab k];rfl
theorem vB:(trees.all λab=>(List.range 5).all λk=>Nat.ble (ab.getD (k+1) 0) k&&Nat.beq ab.length 6&&Nat.beq ((aI ab k).getD (ab.getD (k+1) 0) []).length 5 && !((aI ab k).getD (ab.getD (k+1) 0) []).getD k true)=true:=by decide +kernel
theorem dq{ab:List Nat}(h:ab∈trees){k:Nat}(hk:k<5):ab.getD (k+1) 0<=k/\ab.length=6/\((aI ab k).getD (ab.getD (k+1) 0) []).length=5/\((aI ab k).getD (ab.getD (k+1) 0) []).getD k true=false:=by
 have:=List.all_eq_true.mp (List.all_eq_true.mp vB ab h) k (List.mem_range.mpr hk);simp only[Bool.and_eq_true,Bool.not_eq_true',Nat.ble_eq,Nat.beq_eq]at this;exact⟨this.1.1.1,this.1.1.2,this.1.2,this.2⟩
theorem oE{k:Nat}:de .Sub (vN (k+1)) (vN 1)=(true,vN k):=by
 show((true,V.int (((k+1:Nat):Int)-1)):R)=(true,V.int (k:Int));rw[show((k+1:Nat):Int)-1=(k:Int)by omega]
theorem add_str{a b:List Nat}(h:a.length+b.length<=cap):de .Add (.str a) (.str b)=(true, .str (a++b)):=by
 show((decide (a.length+b.length<=cap),V.str (a++b)):R)=_;rw[decide_eq_true h]
theorem vC{c:Nat}(h:c<1114112):dA (nm "chr") [vN c]=(true, .str [c]):=by
 show((decide (0<=(c:Int))&&decide ((c:Int)<1114112),V.str [(c:Int).toNat]):R)=_;rw[decide_eq_true ⋯,decide_eq_true ⋯];rfl
theorem DJ{c:Nat}:dA (nm "ord") [.str [c]]=(true,vN c):=rfl
theorem cS{a k:Nat}(h:k≠0):de .Mod (vN a) (vN k)=(true,vN (a%k)):=b_mod h
theorem jD{a k:Nat}(h:k≠0)(h2:k<10000000000):de .FloorDiv (vN a) (vN k)=(true,vN (a/k)):=b_div h h2
theorem cE{l:List Nat}{k:Nat}(hs:l.length<=cap)(hk:k<l.length):gV 0 (.list (l.map vN)) (vN k)=(true,vN (l.getD k 0)):=
 cZ (by rw[List.length_map];exact hs) (by rw[List.length_map];exact hk) (rY hk)
theorem wI{l:List Nat}{k:Nat}(hs:l.length<=cap)(hk:k<l.length):gV 0 (.tup (l.map vN)) (vN k)=(true,vN (l.getD k 0)):=
 kU (by rw[List.length_map];exact hs) (by rw[List.length_map];exact hk) (rY hk)
theorem bp{l:List (List Nat)}{k:Nat}(hs:l.length<=cap)(hk:k<l.length):gV 0 (.list (l.map .str)) (vN k)=(true, .str (l.getD k [])):=
 cZ (by rw[List.length_map];exact hs) (by rw[List.length_map];exact hk) (gh [] hk)
theorem kZ{α β:Type}(f:α->β){row:List α}{i:Nat}(d:α)(e:β)(h:i<row.length):(row.map f).getD i e=f (row.getD i d):=by
 simp[List.getD_eq_getElem?_getD,h]
theorem dj{ls:List Nat}{m:List Bool}(h:ls.length=5)(hm:m.length=5):(ai ls m).length=5:=by
 unfold ai;rw[List.length_zipWith,h,hm];rfl
theorem xO{ls:List Nat}{m:List Bool}{k:Nat}(h:ls.length=5)(hm:m.length=5)(hk:k<5)(hb:m.getD k true=false):(ai ls m).getD k 0=ls.getD k 0:=by
 unfold ai;rw[List.getD_eq_getElem?_getD,List.getD_eq_getElem?_getD,List.getElem?_zipWith];rw[List.getD_eq_getElem?_getD,List.getElem?_eq_getElem ⋯]at hb;rw[List.getElem?_eq_getElem (show k<ls.length by omega),List.getElem?_eq_getElem (show k<m.length by omega)];simp only[Option.getD_some]at hb |-;rw[hb];rfl
theorem lN{α β γ:Type}(f:α->β->γ):∀(l:List α) (m:List β) (k:Nat) (b:β) (d:α),k<l.length->List.zipWith f l (m.set k b)=(List.zipWith f l m).set k (f (l.getD k d) b)
 |[],_,_,_,_,h=>absurd h (Nat.not_lt_zero _)
 |a::l,[],k,b,d,_=>by simp
 |a::l,c::m,0,b,d,_=>rfl
 |a::l,c::m,k+1,b,d,h=>by
  show f a c::List.zipWith f l (m.set k b)=f a c::(List.zipWith f l m).set k (f (l.getD k d) b);rw[lN f l m k b d (by simpa using h)]
theorem vD{ls:List Nat}{m:List Bool}{k:Nat}(h:ls.length=5)(hm:m.length=5)(hk:k<5):(ai ls m).take k++[ls.getD k 0-32]++(ai ls m).drop (k+1)=ai ls (m.set k true):=by
 have hl:=dj h hm;have e:ai ls (m.set k true)=(ai ls m).set k (ls.getD k 0-32):=lN _ ls m k true 0 ⋯;rw[e,List.set_eq_take_append_cons_drop,if_pos ⋯];simp
theorem gM{nums:List Nat}{k:Nat}(hk:k<5):cA.getD k 0<=ew nums k/\ew nums k<cA.getD k 0+dn.getD k 0:=by
 unfold ew;have:0<dn.getD k 0:=by
  match k,hk with
  |0,_=>decide
  |1,_=>decide
  |2,_=>decide
  |3,_=>decide
  |4,_=>decide
 have:=Nat.mod_lt (nums.getD k 0/360%32) this
 omega
theorem kg{nums:List Nat}{k:Nat}(hk:k<5):97<=ew nums k/\ew nums k<1104:=by
 have:=gM (nums:=nums) hk
 match k,hk with
 |0,_=>simp only[cA,dn,List.getD_eq_getElem?_getD]at this;simp at this;omega
 |1,_=>simp only[cA,dn,List.getD_eq_getElem?_getD]at this;simp at this;omega
 |2,_=>simp only[cA,dn,List.getD_eq_getElem?_getD]at this;simp at this;omega
 |3,_=>simp only[cA,dn,List.getD_eq_getElem?_getD]at this;simp at this;omega
 |4,_=>simp only[cA,dn,List.getD_eq_getElem?_getD]at this;simp at this;omega
theorem oG{nums:List Nat}{k:Nat}(hk:k<5):(ax nums).getD k 0=ew nums k:=by
 unfold ax;rw[List.getD_eq_getElem?_getD,List.getElem?_map,List.getElem?_range' hk];simp
theorem iF(ls:List Nat)(h:ls.length=5):ai ls [false,false,false,false,false]=ls:=by
 match ls,h with
 |[a,b,c,d,e],_=>rfl
noncomputable def fHeads:List V->R:=bN mz [] 1000 (cU ["numbers","above"] n7)
noncomputable def Fj(nums ab:List Nat)(k:Mine.Slot)(names heads:List (List Nat))(i x name:Mine.Slot):List Mine.Slot:=
 [.val (.list (nums.map vN)), .val (.list (ab.map vN)), .val (.list (tableL.map vN)), .val (.tup (cA.map vN)), .val (.tup (dn.map vN)),k, .own (names.map .str), .own (heads.map .str),i,x,name]
theorem xP{nums ab:List Nat}(hn:nums.length=11)(ht:ab∈trees):fHeads [.list (nums.map vN), .list (ab.map vN)]=(true, .list ((aT (ax nums) nums ab 5).map .str)):=by
 have hab:ab.length=6:=(dq ht (k:=0) ⋯).2.1;have cn:nums.length<=cap:=by rw[hn];decide
 have cb:ab.length<=cap:=by rw[hab];decide
 have ct:tableL.length<=cap:=nofun;have c5:cA.length<=cap:=nofun;have c6:dn.length<=cap:=nofun;refine iC (ns:=nH) (ss:=[.val (.list (nums.map vN)), .val (.list (ab.map vN)), .un, .un, .un, .un, .un, .un, .un, .un, .un]) rfl ∅ ?_;refine aY 2 ∅ (by decide +kernel) (v := .list (tableL.map vN)) ∅ (s := .val (.list (tableL.map vN))) ∅ ?_;refine cw (ρ':=aq nH [.val (.list (nums.map vN)), .val (.list (ab.map vN)), .val (.list (tableL.map vN)), .val (.tup (cA.map vN)), .val (.tup (dn.map vN)), .un, .un, .un, .un, .un, .un]) ∅ ?_;have hlet:(ax nums).length=5:=by unfold ax;simp
 refine aY 6 ∅ (by decide +kernel) (v := .list [.str (ax nums)]) ?_ (s := .own [.str (ax nums)]) ∅ ?_
 ·refine rO (evL_of ?_ evL_nil) (by simp[cap])
  refine ev_meth rfl nofun rfl (x := .str []) ∅ (vs:=[.list (((ax nums).map λc=>[c]).map .str)]) (evL_of ?_ evL_nil) (kW (by rw[hlet];decide));unfold ax;rw[List.map_map,List.map_map];refine bl vN _ (List.range' 0 5) [.un, .un, .un, .val (.tup (cA.map vN)), .val (.tup (dn.map vN)), .val (.list (nums.map vN))] ∅ ∅ ∅ ∅ nofun λk hk=>⟨[.un, .val (vN k), .un, .val (.tup (cA.map vN)), .val (.tup (dn.map vN)), .val (.list (nums.map vN))],∅, ?_⟩
  have hk:k<5:=by rw[List.mem_range'_1]at hk;omega
  have hb:=kg (nums:=nums) hk;have hm:dn.getD k 0≠0:=by have:=gM (nums:=nums) hk;omega
  refine ev_call ∅ ∅ ∅ (vs:=[vN (ew nums k)]) (evL_of ?_ evL_nil) (bg rfl (vC ⋯));refine ev_add (x:=vN (cA.getD k 0)) (y:=vN (nums.getD k 0/360%32%dn.getD k 0)) (look_other rfl (ah rfl (x := .tup (cA.map vN)) (y:=vN k) (by walk_at "lk") (by walk_at "ee") (ty:=0) ∅ (wI c5 hk))) ?_ rfl;refine ev_bin nofun (x:=vN (nums.getD k 0/360%32)) (y:=vN (dn.getD k 0)) ?_ (ah rfl (x := .tup (dn.map vN)) (y:=vN k) (by walk_at "lk") (by walk_at "ee") (ty:=0) ∅ (wI c6 hk)) (cS hm);refine ev_bin nofun (x:=vN (nums.getD k 0/360)) (y:=vN 32) ?_ ∅ (cS nofun);exact ev_bin nofun (x:=vN (nums.getD k 0)) (y:=vN 360) (ah rfl (x := .list (nums.map vN)) (y:=vN k) (by walk_at "lk") (by walk_at "ee") (ty:=0) ∅ (cE cn ⋯)) ∅ (jD nofun nofun)
 refine aY 7 ∅ (by decide +kernel) (v := .list [.str (ax nums)]) ?_ (s := .own [.str (ax nums)]) ∅ ?_
 ·exact rO (evL_of (ah rfl (x := .list [.str (ax nums)]) (y:=vN 0) (by walk_at "lk") ∅ (ty:=0) ∅ (cZ (by simp[cap]) (by simp) rfl)) evL_nil) (by simp[cap])
 have N0:[V.str (ax nums)]=((aI ab 0).map (ai (ax nums))).map .str:=by
  show _=[V.str (ai (ax nums) [false,false,false,false,false])];rw[iF _ hlet]
 have H0:[V.str (ax nums)]=(aT (ax nums) nums ab 0).map .str:=by
  show _=[V.str (ai (ax nums) [false,false,false,false,false])];rw[iF _ hlet]
 have L:=λk (hk:k<5)=>oG (nums:=nums) hk
 have L2:=λk (hk:k<5)=>kg (nums:=nums) hk
 generalize hls:ax nums=ls at *;have E0:∀(a b:List V),a=((aI ab (1-1)).map (ai ls)).map .str->b=(aT ls nums ab (1-1)).map .str->∀{res:Res} {n:Nat} {st:List Stmt},ex mz [] (aM (fW 20) n7.body) 1000 FU n st (aq nH (Fj nums ab .un ((aI ab (1-1)).map (ai ls)) (aT ls nums ab (1-1)) .un .un .un))=res ->
  ex mz [] (aM (fW 20) n7.body) 1000 FU n st (aq nH [.val (.list (nums.map vN)), .val (.list (ab.map vN)), .val (.list (tableL.map vN)), .val (.tup (cA.map vN)), .val (.tup (dn.map vN)), .un, .own a, .own b, .un, .un, .un])=res:=λa b ha hb res n st h=>by rw[ha,hb];exact h
 refine E0 _ _ N0 H0 ?_;refine iB (λj=>Fj nums ab .un ((aI ab (j-1)).map (ai ls)) (aT ls nums ab (j-1)) .un .un .un) vN 1 5 ∅ ∅ ∅ (λi h1 h2 => ?_) ?_
 ·obtain⟨k,rfl⟩:∃k,i=k+1:=⟨i-1,⋯⟩
  have hk:k<5:=⋯;rw[show k+1-1=k by omega,show k+1+1-1=k+1 by omega];obtain⟨t1,_,t2,t3⟩:=dq ht hk;have ml:=lM ab k;have hl:=gL ls nums ab k;have eM:aI ab (k+1)=aI ab k++[((aI ab k).getD (ab.getD (k+1) 0) []).set k true]:=rfl;have eH:aT ls nums ab (k+1)=aT ls nums ab k++[gq (ai ls ((aI ab (k+1)).getD (k+1) [])) (nums.getD k 0/311040%6) (tableL.getD (nums.getD k 0/11520%27) 0)]:=rfl;have eg:(aI ab (k+1)).getD (k+1) []=((aI ab k).getD (ab.getD (k+1) 0) []).set k true:=by
   rw[eM,List.getD_eq_getElem?_getD,List.getElem?_append_right ⋯,ml,Nat.sub_self];rfl
  rw[eH,eg,eM];generalize hM:aI ab k=M at *;generalize hHd:aT ls nums ab k=Hd at *;obtain⟨m,hm⟩:∃m,m=M.getD (ab.getD (k+1) 0) []:=⟨_,rfl⟩;rw[<-hm]at t2 t3 |-;obtain⟨x,hx⟩:∃x,x=nums.getD k 0:=⟨_,rfl⟩;rw[<-hx];have n5:(ai ls m).length=5:=dj hlet t2;have n5':(ai ls (m.set k true)).length=5:=dj hlet (by rw[List.length_set];exact t2);have c1:(ai ls m).length<=cap:=by rw[n5];decide
  have c1':(ai ls (m.set k true)).length<=cap:=by rw[n5'];decide
  have hat:(ai ls m).getD k 0=ls.getD k 0:=xO hlet t2 hk t3;have hL2:=L2 k hk;rw[<-L k hk]at hL2;have h6:x/311040%6<6:=Nat.mod_lt _ nofun;have h27:x/11520%27<27:=Nat.mod_lt _ nofun;have hhid:tableL.getD (x/11520%27) 0<1114112:=by
   have:∀y∈tableL,y<1114112:=nofun
   exact this _ (getD_mem 0 h27)
  refine⟨Fj nums ab .un (M.map (ai ls)) Hd (.val (vN (k+1))) .un .un,Fj nums ab (.val (vN (x/311040%6))) ((M++[m.set k true]).map (ai ls)) (Hd++[gq (ai ls (m.set k true)) (x/311040%6) (tableL.getD (x/11520%27) 0)]) (.val (vN (k+1))) (.val (vN x)) (.val (.str (ai ls m))),∅, ?_,∅⟩;refine DE 9 10 ∅ (by decide +kernel) (by decide +kernel) (by decide +kernel) (v1:=vN x) (v2 := .str (ai ls m)) ?_ ?_ ?_
  ·rw[hx]
   exact ah rfl (x := .list (nums.map vN)) (y:=vN k) (by walk_at "lk") (ev_bin nofun (x:=vN (k+1)) (y:=vN 1) (by walk_at "ee") ∅ oE) (ty:=0) ∅ (cE cn ⋯)
  ·refine ah rfl (x := .list ((M.map (ai ls)).map .str)) (y:=vN (ab.getD (k+1) 0)) (by walk_at "lk") ?_ (ty:=0) ∅ ((bp (by rw[List.length_map,ml];unfold cap;omega) (by rw[List.length_map,ml];omega)).trans ?_)
   ·exact ah rfl (x := .list (ab.map vN)) (y:=vN (k+1)) (by walk_at "lk") (by walk_at "ee") (ty:=0) ∅ (cE cb ⋯)
   ·rw[hm]
    rw[kZ (ai ls) [] [] (show ab.getD (k+1) 0<M.length by omega)]
  refine qw 6 (l:=(M.map (ai ls)).map .str) ∅ (by decide +kernel) rfl rfl (by rw[List.length_map,List.length_map,ml];unfold cap;omega) (v := .str (ai ls (m.set k true))) ?_ ?_
  ·rw[<-vD hlet t2 hk]
   refine ev_add (x := .str ((ai ls m).take k++[ls.getD k 0-32])) (y := .str ((ai ls m).drop (k+1))) (look_other rfl ?_) ?_ (add_str (by simp[n5,cap];omega))
   ·refine ev_add (x := .str ((ai ls m).take k)) (y := .str [ls.getD k 0-32]) (look_other rfl ?_) ?_ (add_str (by simp[n5,cap];omega))
    ·exact aE (x := .str (ai ls m)) (by walk_at "ee") rfl (ck (ev_bin nofun (x:=vN (k+1)) (y:=vN 1) (by walk_at "ee") ∅ oE)) rfl (tM c1)
    ·refine ev_call ∅ ∅ ∅ (vs:=[vN (ls.getD k 0-32)]) (evL_of ?_ evL_nil) (bg rfl (vC ⋯))
     refine ev_bin nofun (x:=vN (ls.getD k 0)) (y:=vN 32) ?_ ∅ ?_
     ·refine ev_call ∅ ∅ ∅ (vs:=[.str [ls.getD k 0]]) (evL_of ?_ evL_nil) (bg rfl DJ)
      rw[<-hat];exact ah rfl (x := .str (ai ls m)) (y:=vN k) (by walk_at "lk") (ev_bin nofun (x:=vN (k+1)) (y:=vN 1) (by walk_at "ee") ∅ oE) (ty:=0) ∅ (gG c1 ⋯)
     ·show((true,V.int (((ls.getD k 0:Nat):Int)-(32:Nat))):R)=(true,V.int ((ls.getD k 0-32:Nat):Int))
      rw[show(((ls.getD k 0:Nat):Int)-(32:Nat))=((ls.getD k 0-32:Nat):Int)by omega]
   ·exact aE (x := .str (ai ls m)) (by walk_at "ee") (ck (by walk_at "ee")) rfl rfl (bn c1)
  have eN:(M.map (ai ls)).map V.str++[V.str (ai ls (m.set k true))]=((M++[m.set k true]).map (ai ls)).map V.str:=by simp
  rw[eN];have hN:((M++[m.set k true]).map (ai ls)).getD (k+1) []=ai ls (m.set k true):=by
   rw[List.getD_eq_getElem?_getD,List.getElem?_map,List.getElem?_append_right ⋯,ml,Nat.sub_self];rfl
  have hNl:((M++[m.set k true]).map (ai ls)).length=k+2:=by simp[ml]
  generalize (M++[m.set k true]).map (ai ls)=NN at hN hNl |-;refine aY 5 ∅ (by decide +kernel) (v:=vN (x/311040%6)) ?_ rfl ?_
  ·exact ev_bin nofun (x:=vN (x/311040)) (y:=vN 6) (ev_bin nofun (x:=vN x) (y:=vN 311040) (by walk_at "ee") ∅ (jD nofun nofun)) ∅ (cS nofun)
  refine(qw 7 (l:=Hd.map .str) ∅ (by decide +kernel) rfl rfl (by rw[List.length_map,hl];unfold cap;omega) (v := .str (gq (ai ls (m.set k true)) (x/311040%6) (tableL.getD (x/11520%27) 0))) ?_ cV).trans ?_
  ·unfold gq
   rw[<-hN]at n5' c1' |-;refine ev_add (x := .str ((NN.getD (k+1) []).take (x/311040%6)++[tableL.getD (x/11520%27) 0])) (y := .str ((NN.getD (k+1) []).drop (x/311040%6))) (look_other rfl ?_) ?_ (add_str (by simp only[List.length_append,List.length_take,List.length_drop,n5',List.length_singleton];unfold cap;omega))
   ·refine ev_add (x := .str ((NN.getD (k+1) []).take (x/311040%6))) (y := .str [tableL.getD (x/11520%27) 0]) (look_other rfl ?_) ?_ (add_str (by simp only[List.length_append,List.length_take,List.length_drop,n5',List.length_singleton];unfold cap;omega))
    ·exact aE (x := .str (NN.getD (k+1) [])) (ah rfl (x := .list (NN.map .str)) (y:=vN (k+1)) (by walk_at "lk") (by walk_at "ee") (ty:=0) ∅ (bp (by rw[hNl];unfold cap;omega) ⋯)) rfl (ck (by walk_at "ee")) rfl (tM c1')
    ·refine ev_call ∅ ∅ ∅ (vs:=[vN (tableL.getD (x/11520%27) 0)]) (evL_of ?_ evL_nil) (bg rfl (vC hhid))
     refine ah rfl (x := .list (tableL.map vN)) (y:=vN (x/11520%27)) (by walk_at "lk") ?_ (ty:=0) ∅ (cE ct h27);exact ev_bin nofun (x:=vN (x/11520)) (y:=vN 27) (ev_bin nofun (x:=vN x) (y:=vN 11520) (by walk_at "ee") ∅ (jD nofun nofun)) ∅ (cS nofun)
   ·exact aE (x := .str (NN.getD (k+1) [])) (ah rfl (x := .list (NN.map .str)) (y:=vN (k+1)) (by walk_at "lk") (by walk_at "ee") (ty:=0) ∅ (bp (by rw[hNl];unfold cap;omega) ⋯)) (ck (by walk_at "ee")) rfl rfl (bn c1')
  ·rw[show Hd.map V.str++[V.str (gq (ai ls (m.set k true)) (x/311040%6) (tableL.getD (x/11520%27) 0))]=(Hd++[gq (ai ls (m.set k true)) (x/311040%6) (tableL.getD (x/11520%27) 0)]).map .str by simp]
   rfl
 ·exact vy (ss':=[.val (.list (nums.map vN)), .val (.list (ab.map vN)), .val (.list (tableL.map vN)), .val (.tup (cA.map vN)), .val (.tup (dn.map vN)), .un, .own (((aI ab 5).map (ai ls)).map .str), .val (.list ((aT ls nums ab 5).map .str)), .un, .un, .un]) ∅ (x_loc (lJ.of 7 (by decide +kernel) rfl))
end
section
open PySem PySem.W
noncomputable def bv:Bool->List Nat->List Nat
 |_,[]=>[]
 |b,c::l=>bif b&&c==46 then 46::46::bv false l else c::bv (c==10) l
theorem BV{b:Bool}{c:Nat}{l:List Nat}:bv b (c::l)=bif b&&c==46 then 46::46::bv false l else c::bv (c==10) l:=rfl
noncomputable def aN:Bool->List Nat->List Nat
 |_,[]=>[]
 |p,c::l=>bif c==13 then 13::10::aN true l else bif c==10 then(bif p then aN false l else 13::10::aN false l)else c::aN false l
theorem r8{p:Bool}{c:Nat}{l:List Nat}:aN p (c::l)=bif c==13 then 13::10::aN true l else bif c==10 then(bif p then aN false l else 13::10::aN false l)else c::aN false l:=rfl
noncomputable def dM(x:List Nat)(p:Nat):Bool:=p==0||x.getD (p-1) 0==10
theorem fz(x:List Nat)(p:Nat):x.toArray.getD p 0=x.getD p 0:=by simp[Array.getD_eq_getD_getElem?,List.getD_eq_getElem?_getD]
theorem fO{x:List Nat}{p:Nat}(h:p<x.length):x.drop p=x.getD p 0::x.drop (p+1):=by
 rw[List.drop_eq_getElem_cons h,List.getD_eq_getElem?_getD,List.getElem?_eq_getElem h];rfl
theorem ki{x:List Nat}{p b:Nat}(h:p<b)(hb:b<=x.length):(x.take b).drop p=x.getD p 0::(x.take b).drop (p+1):=by
 have hp:p<(x.take b).length:=by rw[List.length_take];omega
 rw[fO hp]
 congr 1
 rw[List.getD_eq_getElem?_getD,List.getD_eq_getElem?_getD,List.getElem?_take,if_pos h]
theorem iG{x:List Nat}{p:Nat}:(x.take p).drop p=[]:=by
 rw[List.drop_eq_nil_iff,List.length_take];omega
theorem t8(x:List Nat):∀(n p:Nat),x.length-p<=n+1->match cP x.toArray x.length n p with
 |none=>bv (dM x p) (x.drop p)=x.drop p
 |some b=>p<=b/\b<x.length/\bv (dM x p) (x.drop p)=(x.take b).drop p++(46::46::bv false (x.drop (b+1))):=by
 have base:∀p,di x.toArray x.length p=(dM x p&&decide (p<x.length)&&x.getD p 0==46):=λp=>by
  unfold di dM;rw[fz,fz]
 have out:∀p,x.length<=p->di x.toArray x.length p=false:=λp h=>by
  rw[base,decide_eq_false ⋯];simp
 have yes:∀p,di x.toArray x.length p=true->p<x.length/\bv (dM x p) (x.drop p)=(x.take p).drop p++(46::46::bv false (x.drop (p+1))):=λp h=>by
  rw[base]at h;simp only[Bool.and_eq_true,decide_eq_true_eq,beq_iff_eq]at h;obtain⟨⟨h1,h2⟩,h3⟩:=h;refine⟨h2, ?_⟩;rw[iG,fO h2,h3,h1];rfl
 have no:∀p,p<x.length->di x.toArray x.length p=false->bv (dM x p) (x.drop p)=x.getD p 0::bv (dM x (p+1)) (x.drop (p+1)):=λp h hh=>by
  rw[base,decide_eq_true h,Bool.and_true]at hh;rw[fO h];show(bif dM x p&&x.getD p 0==46 then _ else x.getD p 0::bv (x.getD p 0==10) (x.drop (p+1)))=_;rw[hh];show x.getD p 0::bv (x.getD p 0==10) (x.drop (p+1))=_;have:dM x (p+1)=(x.getD p 0==10):=by unfold dM;simp
  rw[this]
 intro n
 induction n with
 |zero=>
  intro p hp;show match(if di x.toArray x.length p=true then some p else none)with|none=>_|some b=>_
  cases hh:di x.toArray x.length p with
  |true=>rw[if_pos rfl];exact⟨Nat.le_refl _,yes p hh⟩
  |false=>
   rw[if_neg (by simp)];show bv (dM x p) (x.drop p)=x.drop p
   rcases Nat.lt_or_ge p x.length with h|h
   ·rw[no p h hh,List.drop_eq_nil_of_le (show x.length<=p+1 by omega),fO h,List.drop_eq_nil_of_le (show x.length<=p+1 by omega)];rfl
   ·rw[List.drop_eq_nil_of_le h];rfl
 |succ n ih=>
  intro p hp;show match(if di x.toArray x.length p=true then some p else cP x.toArray x.length n (p+1))with|none=>_|some b=>_
  cases hh:di x.toArray x.length p with
  |true=>rw[if_pos rfl];exact⟨Nat.le_refl _,yes p hh⟩
  |false=>
   rw[if_neg (by simp)];have I:=ih (p+1) ⋯
   rcases Nat.lt_or_ge p x.length with h|h
   ·cases hf:cP x.toArray x.length n (p+1)with
    |none=>rw[hf]at I;show bv _ _=_;rw[no p h hh,I,fO h]
    |some b=>
     rw[hf]at I;obtain⟨i1,i2,i3⟩:=I;refine⟨⋯,i2, ?_⟩;rw[no p h hh,i3,ki (p:=p) (b:=b) ⋯ ⋯];rfl
   ·cases hf:cP x.toArray x.length n (p+1)with
    |none=>show bv _ _=_;rw[List.drop_eq_nil_of_le h];rfl
    |some b=>rw[hf]at I;omega
theorem oH(text:Array Nat)(lim:Nat):∀(n p b:Nat),cP text lim n p=some b->di text lim b=true
 |0,p,b,h=>by
  have h:(if di text lim p=true then some p else none)=some b:=h
  split at h
  ·injection h with h;subst h;assumption
  ·injections h
 |n+1,p,b,h=>by
  have h:(if di text lim p=true then some p else cP text lim n (p+1))=some b:=h
  split at h
  ·injection h with h;subst h;assumption
  ·exact oH text lim n (p+1) b h
theorem t9(x:List Nat):∀(n s:Nat),x.length-s<n->j0 f1 [46,46] x n s=bv (dM x s) (x.drop s)
 |0,s,h=>⋯
 |n+1,s,h=>by
  have F:=t8 x (x.length-s) s ⋯;have e:f1 x s=(cP x.toArray x.length (x.length-s) s).map λb=>(b,b+1):=by unfold f1;simp
  show(match f1 x s with|some (b,e)=>(x.take b).drop s++([46,46]++j0 f1 [46,46] x n e)|none=>x.drop s)=_;rw[e];cases hf:cP x.toArray x.length (x.length-s) s with
  |none=>rw[hf]at F;exact F.symm
  |some b=>
   rw[hf]at F;obtain⟨h1,h2,h3⟩:=F;show(x.take b).drop s++([46,46]++j0 f1 [46,46] x n (b+1))=_;rw[t9 x n (b+1) ⋯,h3]
   by_cases hb:b+1<x.length\/True
   ·have:dM x (b+1)=(x.getD b 0==10):=by unfold dM;simp
    rw[this];have h46:x.getD b 0=46:=by
     have hm:=oH x.toArray x.length (x.length-s) s b hf;unfold di at hm;simp only[Bool.and_eq_true,beq_iff_eq]at hm;have h2:=hm.2
     rwa [fz]at h2
    rw[h46];rfl
   ·exact absurd (.inr trivial) hb
theorem ua(x:List Nat):∀(n p:Nat),x.length-p<=n->match cQ x.toArray x.length n p with
 |none=>aN false (x.drop p)=x.drop p
 |some b=>p<=b/\b<x.length/\aN false (x.drop p)=(x.take b).drop p++(13::10::aN false (x.drop (dK x.toArray x.length b))):=by
 intro n
 induction n with
 |zero=>
  intro p hp;show aN false (x.drop p)=x.drop p;rw[List.drop_eq_nil_of_le ⋯];rfl
 |succ n ih=>
  intro p hp;show match(if iu (x.toArray.getD p 0)=true then some p else cQ x.toArray x.length n (p+1))with|none=>_|some b=>_
  have I:=ih (p+1) ⋯;cases hh:iu (x.toArray.getD p 0)with
  |true=>
   rw[if_pos rfl];rw[fz]at hh;have hlt:p<x.length:=by
    rcases Nat.lt_or_ge p x.length with h|h
    ·exact h
    ·rw[List.getD_eq_getElem?_getD,List.getElem?_eq_none h]at hh;injections hh
   refine⟨Nat.le_refl _,hlt, ?_⟩;rw[iG,fO hlt];show aN false (x.getD p 0::x.drop (p+1))=13::10::aN false (x.drop (dK x.toArray x.length p));unfold dK;rw[fz,fz];have hc:x.getD p 0=10\/x.getD p 0=13:=by
    unfold iu at hh;rw[Bool.or_eq_true,beq_iff_eq,beq_iff_eq]at hh;exact hh.symm
   rcases hc with hc|hc
   ·rw[hc,if_neg (by simp)];rfl
   ·rw[hc]
    show 13::10::aN true (x.drop (p+1))=_
    congr 2
    rcases Nat.lt_or_ge (p+1) x.length with h|h
    ·rw[fO h]
     by_cases h10:x.getD (p+1) 0=10
     ·rw[h10,if_pos (by simp[h])];rfl
     ·rw[if_neg (by simp only[Bool.and_eq_true,beq_iff_eq];exact λe=>h10 e.2),fO h]
      have e10:(x.getD (p+1) 0==10)=false:=by rw[beq_eq_false_iff_ne];exact h10
      rw[r8,r8,e10];rfl
    ·rw[if_neg (by simp only[Bool.and_eq_true,decide_eq_true_eq];omega),List.drop_eq_nil_of_le h];rfl
  |false=>
   rw[if_neg (by simp)];rw[fz]at hh
   rcases Nat.lt_or_ge p x.length with h|h
   ·have hno:aN false (x.drop p)=x.getD p 0::aN false (x.drop (p+1)):=by
     rw[fO h];unfold iu at hh;simp only[Bool.or_eq_false_iff]at hh;rw[r8];have a:(x.getD p 0==13)=false:=by first|exact hh.2|exact hh.1
     have b:(x.getD p 0==10)=false:=by first|exact hh.1|exact hh.2
     rw[a,b];rfl
    cases hf:cQ x.toArray x.length n (p+1)with
    |none=>rw[hf]at I;show aN false _=_;rw[hno,I,<-fO h]
    |some b=>
     rw[hf]at I;obtain⟨i1,i2,i3⟩:=I;refine⟨⋯,i2, ?_⟩;rw[hno,i3,ki (p:=p) (b:=b) ⋯ ⋯];rfl
   ·cases hf:cQ x.toArray x.length n (p+1)with
    |none=>show aN false _=_;rw[List.drop_eq_nil_of_le h];rfl
    |some b=>rw[hf]at I;omega
theorem oJ(x:List Nat):∀(n s:Nat),x.length-s<n->j0 f2 [13,10] x n s=aN false (x.drop s)
 |0,s,h=>⋯
 |n+1,s,h=>by
  have F:=ua x (x.length-s) s ⋯;have e:f2 x s=(cQ x.toArray x.length (x.length-s) s).map λb=>(b,dK x.toArray x.length b):=by unfold f2;simp
  show(match f2 x s with|some (b,e)=>(x.take b).drop s++([13,10]++j0 f2 [13,10] x n e)|none=>x.drop s)=_;rw[e];cases hf:cQ x.toArray x.length (x.length-s) s with
  |none=>rw[hf]at F;exact F.symm
  |some b=>
   rw[hf]at F;obtain⟨h1,h2,h3⟩:=F;have he:b<dK x.toArray x.length b:=by unfold dK;split<;>omega
   show(x.take b).drop s++([13,10]++j0 f2 [13,10] x n (dK x.toArray x.length b))=_;rw[oJ x n _ ⋯,h3];rfl
theorem ub(x:List Nat):wA (jb x)=bv true (aN false x):=by
 unfold wA jb;rw[oJ x _ 0 ⋯,List.drop_zero,t9 _ _ 0 ⋯,List.drop_zero];rfl
end
section
open PySem PySem.W PySem.Challenge
noncomputable def gi(t:List Nat):Prop:=∀c∈t,c≠10/\c≠13
theorem jE:∀(t r:List Nat),gi t->aN false (t++r)=t++aN false r
 |[],r,_=>rfl
 |c::t,r,h=>by
  have hc:=h c (List.mem_cons_self ..);have a:(c==13)=false:=by rw[beq_eq_false_iff_ne];exact hc.2
  have b:(c==10)=false:=by rw[beq_eq_false_iff_ne];exact hc.1
  show(bif c==13 then _ else bif c==10 then _ else c::aN false (t++r))=_;rw[a,b];show c::aN false (t++r)=_;rw[jE t r λx hx=>h x (List.mem_cons_of_mem _ hx)];rfl
theorem oK:∀(t r:List Nat),gi t->bv false (t++r)=t++bv false r
 |[],r,_=>rfl
 |c::t,r,h=>by
  have hc:=h c (List.mem_cons_self ..);have b:(c==10)=false:=by rw[beq_eq_false_iff_ne];exact hc.1
  show(bif false&&c==46 then _ else c::bv (c==10) (t++r))=_;rw[b];show c::bv false (t++r)=_;rw[oK t r λx hx=>h x (List.mem_cons_of_mem _ hx)];rfl
noncomputable def lO(t:List Nat):List Nat:=46::(t++[13,10])
noncomputable def aU(ts:List (List Nat)):List Nat:=(ts.map lO).flatten
theorem vE{c:Nat}{t:List Nat}(hc:c≠10/\c≠13)(h:gi t):gi (c::t):=λx hx=>by
 rcases List.mem_cons.mp hx with rfl|hx
 ·exact hc
 ·exact h x hx
theorem qD{t:List Nat}(h:gi t):gi (46::t):=vE nofun h
theorem oL:∀ts:List (List Nat),(∀t∈ts,gi t)->aN false (aU ts)=aU ts
 |[],_=>rfl
 |t::ts,h=>by
  show aN false ((46::(t++[13,10]))++aU ts)=(46::(t++[13,10]))++aU ts;have e:(46::(t++[13,10]))++aU ts=(46::t)++(13::10::aU ts):=by simp
  rw[e,jE _ _ (qD (h t (List.mem_cons_self ..)))];show _++(13::10::aN false (aU ts))=_;rw[oL ts λx hx=>h x (List.mem_cons_of_mem _ hx)]
theorem oM:∀ts:List (List Nat),(∀t∈ts,gi t)->bv true (aU ts)=aU (ts.map (46 :: ·))
 |[],_=>rfl
 |t::ts,h=>by
  show bv true ((46::(t++[13,10]))++aU ts)=(46::((46::t)++[13,10]))++aU (ts.map (46 :: ·));have e:(46::(t++[13,10]))++aU ts=46::(t++(13::10::aU ts)):=by simp
  rw[e];show 46::46::bv false (t++(13::10::aU ts))=_;rw[oK _ _ (h t (List.mem_cons_self ..))];show 46::46::(t++(13::10::bv true (aU ts)))=_;rw[oM ts λx hx=>h x (List.mem_cons_of_mem _ hx)];simp
noncomputable def endsL:List (List Nat):=[[10],[13],[13,10]]
theorem vF(ts:List (List Nat)):aU ts=[]\/∃r,aU ts=46::r:=by
 induction ts using List.casesOn with
 |nil=>exact .inl rfl
 |cons t ts=>exact .inr ⟨_,rfl⟩
theorem Ag{e:List Nat}(he:e∈endsL){ts:List (List Nat)}(h:∀t∈ts,gi t):aN false (e++aU ts)=[13,10]++aU ts:=by
 have hl:=oL ts h;simp only[endsL,List.mem_cons,List.not_mem_nil,or_false]at he
 rcases he with rfl|rfl|rfl
 ·show 13::10::aN false (aU ts)=_;rw[hl];rfl
 ·show 13::10::aN true (aU ts)=_
  rcases vF ts with e|⟨r,e⟩
  ·rw[e];rfl
  ·rw[e]at hl |-
   have:aN true (46::r)=aN false (46::r):=rfl;rw[this,hl];rfl
 ·show 13::10::aN false (aU ts)=_;rw[hl];rfl
theorem uc{t e:List Nat}{ts:List (List Nat)}(ht:gi t)(he:e∈endsL)(h:∀x∈ts,gi x):bv true (aN false (46::t++e++aU ts))=aU ((t::ts).map (46 :: ·)):=by
 have e1:46::t++e++aU ts=(46::t)++(e++aU ts):=by simp
 rw[e1,jE _ _ (qD ht),Ag he h];have e2:46::t++([13,10]++aU ts)=aU (t::ts):=by show _=(46::(t++[13,10]))++aU ts;simp
 rw[e2];refine oM (t::ts) λx hx => ?_
 rcases List.mem_cons.mp hx with rfl|hx
 ·exact ht
 ·exact h x hx
noncomputable def fQuoteP:List V->R:=fU (vX λx=>(decide (x.length<=10000), .str (bv true (aN false x))))
theorem kj:∀(b:Bool) (x:List Nat),(aN b x).length<=2*x.length
 |_,[]=>Nat.le_refl _
 |b,c::x=>by
  have h1:=kj true x;have h2:=kj false x;show(bif c==13 then 13::10::aN true x else bif c==10 then(bif b then aN false x else 13::10::aN false x)else c::aN false x).length<=2*(x.length+1);cases c==13<;>cases c==10<;>induction b using Bool.casesOn<;>simp<;>omega
theorem BW{as:List V}(h:(fQuoteP as).1=true):fQuote as=fQuoteP as:=by
 refine iL (λas r=>fQuote as=r) h λv h=>uH (λv r=>fQuote [v]=r) h λx h => ?_
 have h1:=of_decide_eq_true h;rw[decide_eq_true h1];show((decide (x.length<=100000)&&decide ((jb x).length<=100000),V.str (wA (jb x))):R)=_;have h2:(jb x).length<=100000:=by
  have:jb x=aN false x:=by unfold jb;rw[oJ x _ 0 ⋯,List.drop_zero]
  rw[this];have:=kj false x;omega
 rw[decide_eq_true ⋯,decide_eq_true h2,ub];rfl
noncomputable def ud(ab:List Nat)(B:List (List (Nat×Nat)))(i:Nat):List (List (Nat×Nat)):=B.set (ab.getD i 0) (((1,i)::(B.getD i []).map λx=>(x.1+1,x.2))++B.getD (ab.getD i 0) [])
noncomputable def bu(ab:List Nat):Nat->List (List (Nat×Nat))
 |0=>[[],[],[],[],[],[]]
 |j+1=>ud ab (bu ab j) (5-j)
noncomputable def kl(hs:List (List Nat))(x:Nat×Nat):List Nat:=List.replicate x.1 46++hs.getD x.2 []
noncomputable def bc(hs:List (List Nat))(l:List (Nat×Nat)):List Nat:=aU (l.map (kl hs))
noncomputable def an(ab:List Nat):Nat->List Nat
 |0=>[1]
 |k+1=>an ab k++[(an ab k).getD (ab.getD (k+1) 0) 0+1]
theorem r9:(trees.all λab=>(List.range 6).all λj=>Nat.beq (bu ab j).length 6&&(bu ab j).all λl=>Nat.ble l.length 6&&l.all λx=>Nat.ble x.1 6&&Nat.blt x.2 6)=true:=by decide +kernel
theorem lP:(trees.all λab=>((bu ab 5).getD 0 []==(List.range 5).map λk=>((an ab 5).getD (k+1) 0-1,k+1))&&(List.range 6).all λk=>Nat.ble 1 ((an ab 5).getD k 0)&&Nat.ble ((an ab 5).getD k 0) 6)=true:=by decide +kernel
structure km(hs:List (List Nat)):Prop where
 len:hs.length=6
 each:∀h∈hs,h.length<=6/\gi h
noncomputable abbrev Gf:List (Str×NameKind):=zT.scope.names
noncomputable abbrev nM:List Nm:=fK Gf
noncomputable def Gg:Fns:=⟨GL,[(nm "quotedata",fQuoteP)],[]⟩
noncomputable def fMail:List V->R:=bN Gg [] 1000 (cU ["numbers","above","heads"] zT)
noncomputable def c8(ab:List Nat)(hs:List (List Nat)):List Nat:=46::(hs.getD 0 []++[13,10])++bc hs ((bu ab 5).getD 0 [])
noncomputable def FV(nums ab:List Nat)(hs:List (List Nat))(B:List (List (Nat×Nat)))(i e:Mine.Slot):List Mine.Slot:=
 [.val (.list (nums.map vN)), .val (.list (ab.map vN)), .val (.list (hs.map .str)), .own ((B.map (bc hs)).map .str),i,e]
theorem oN{hs:List (List Nat)}(H:km hs){x:Nat×Nat}(h1:x.1<=6)(h2:x.2<6):gi (kl hs x)/\(kl hs x).length<=12:=by
 have hm:=H.each _ (getD_mem [] (show x.2<hs.length by rw[H.len];exact h2));refine⟨λc hc => ?_, ?_⟩
 ·unfold kl at hc
  rcases List.mem_append.mp hc with hc|hc
  ·rw[(List.mem_replicate.mp hc).2];decide
  ·exact hm.2 c hc
 ·unfold kl;rw[List.length_append,List.length_replicate];omega
theorem gj{hs:List (List Nat)}(H:km hs):∀{l:List (Nat×Nat)},(∀x∈l,x.1<=6/\x.2<6)->(bc hs l).length<=15*l.length
 |[],_=>Nat.le_refl _
 |x::l,h=>by
  have ih:=gj H (l:=l) λy hy=>h y (List.mem_cons_of_mem _ hy)
  have hx:=h x (List.mem_cons_self ..);have:=(oN H hx.1 hx.2).2;show((46::(kl hs x++[13,10]))++bc hs l).length<=15*(l.length+1);simp only[List.length_append,List.length_cons,List.length_nil]
  omega
theorem xQ(hs:List (List Nat))(a b:List (Nat×Nat)):bc hs (a++b)=bc hs a++bc hs b:=by
 unfold bc aU;simp
theorem vG{hs:List (List Nat)}(H:km hs){i:Nat}(hi:i<6){e:List Nat}(he:e∈endsL){l:List (Nat×Nat)}(hl:∀x∈l,x.1<=6/\x.2<6):bv true (aN false ([46]++hs.getD i []++e++bc hs l))=bc hs ((1,i)::l.map λx=>(x.1+1,x.2)):=by
 have hm:=H.each _ (getD_mem [] (show i<hs.length by rw[H.len];exact hi));refine(uc (t:=hs.getD i []) (ts:=l.map (kl hs)) hm.2 he λx hx => ?_).trans ?_
 ·obtain⟨y,hy,rfl⟩:=List.mem_map.mp hx
  exact(oN H (hl y hy).1 (hl y hy).2).1
 ·unfold bc
  congr 1
  rw[List.map_cons,List.map_cons,List.map_map,List.map_map]
  congr 1
theorem wJ{ab:List Nat}(ht:ab∈trees){j:Nat}(hj:j<6):(bu ab j).length=6/\∀k,k<6->((bu ab j).getD k []).length<=6/\∀x∈(bu ab j).getD k [],x.1<=6/\x.2<6:=by
 have:=List.all_eq_true.mp (List.all_eq_true.mp r9 ab ht) j (List.mem_range.mpr hj);simp only[Bool.and_eq_true,Nat.beq_eq,List.all_eq_true,Nat.ble_eq,Nat.blt_eq]at this;refine⟨this.1,λk hk => ?_⟩;exact this.2 _ (getD_mem [] (by rw[this.1];exact hk))
theorem Ah{nums ab:List Nat}{hs:List (List Nat)}(hn:nums.length=11)(ht:ab∈trees)(H:km hs):fMail [.list (nums.map vN), .list (ab.map vN), .list (hs.map .str)]=(true, .str (c8 ab hs)):=by
 have hab:ab.length=6:=(dq ht (k:=0) ⋯).2.1;have cn:nums.length<=cap:=by rw[hn];decide
 have cb:ab.length<=cap:=by rw[hab];decide
 have ch:hs.length<=cap:=by rw[H.len];decide
 refine iC (ns:=nM) (ss:=[.val (.list (nums.map vN)), .val (.list (ab.map vN)), .val (.list (hs.map .str)), .un, .un, .un]) rfl ∅ ?_;refine aY 3 ∅ (by decide +kernel) (v := .list (((bu ab 0).map (bc hs)).map .str)) ∅ (s := .own (((bu ab 0).map (bc hs)).map .str)) ∅ ?_;refine iB (λj=>FV nums ab hs (bu ab j) .un .un) (λj=>vN (5-j)) 0 5 ∅ ∅ ∅ (λj h1 h2 => ?_) ?_
 ·obtain⟨k,hk,hk5⟩:∃k,5-j=k+1/\k<5:=⟨4-j,⋯,⋯⟩
  obtain⟨b1,b2⟩:=wJ ht (j:=j) ⋯;have eB:bu ab (j+1)=ud ab (bu ab j) (5-j):=rfl;rw[eB,hk];generalize bu ab j=B at b1 b2 |-;obtain⟨e,he⟩:∃e,e=endsL.getD (nums.getD k 0/1866240%3) []:=⟨_,rfl⟩;have h3:nums.getD k 0/1866240%3<3:=Nat.mod_lt _ nofun;have hem:e∈endsL:=by rw[he];exact getD_mem [] h3
  have hel:e.length<=2:=by
   have:∀y∈endsL,y.length<=2:=nofun
   exact this _ hem
  obtain⟨t1,_,_,_⟩:=dq ht hk5;have hB:=b2 (k+1) ⋯;have hA:=b2 (ab.getD (k+1) 0) ⋯;have hH:=H.each _ (getD_mem [] (show k+1<hs.length by rw[H.len];omega));have l1:=gj H hB.2;have l2:=gj H hA.2;have htl:∀i,i<6->(B.map (bc hs)).getD i []=bc hs (B.getD i []):=λi hi=>kZ (bc hs) [] [] ⋯
  have cB:(B.map (bc hs)).length<=cap:=by rw[List.length_map,b1];decide
  refine⟨FV nums ab hs B (.val (vN (k+1))) .un,FV nums ab hs (ud ab B (k+1)) (.val (vN (k+1))) (.val (.str e)),∅, ?_,∅⟩;refine aY 5 ∅ (by decide +kernel) (v := .str e) ?_ rfl ?_
  ·refine ah rfl (x := .tup (endsL.map .str)) (y:=vN (nums.getD k 0/1866240%3)) (look_other rfl ∅) ?_ (ty:=0) ∅ (kU nofun h3 (by rw[he];exact gh [] h3))
   refine ev_bin nofun (x:=vN (nums.getD k 0/1866240)) (y:=vN 3) (ev_bin nofun (x:=vN (nums.getD k 0)) (y:=vN 1866240) ?_ ∅ (jD nofun nofun)) ∅ (cS nofun);exact ah rfl (x := .list (nums.map vN)) (y:=vN k) (by walk_at "lk") (ev_bin nofun (x:=vN (k+1)) (y:=vN 1) (by walk_at "ee") ∅ oE) (ty:=0) ∅ (cE cn ⋯)
  obtain⟨tb,htb⟩:∃tb,tb=bc hs ((1,k+1)::(B.getD (k+1) []).map λx=>(x.1+1,x.2)):=⟨_,rfl⟩;have Q:=vG H (i:=k+1) ⋯ hem hB.2;have tl:=gj H (l:=(1,k+1)::(B.getD (k+1) []).map λx=>(x.1+1,x.2));have tbl:tb.length<=400:=by
   rw[htb,<-Q];have d1:∀(b:Bool) (x:List Nat),(bv b x).length<=2*x.length:=λb x=>by
    induction x generalizing b with
    |nil=>exact Nat.zero_le _
    |cons c x ih=>
     have i1:=ih false;have i2:=ih (c==10);rw[BV];cases(b&&c==46)<;>simp<;>omega
   have a1:=d1 true (aN false ([46]++hs.getD (k+1) []++e++bc hs (B.getD (k+1) [])));have a2:=kj false ([46]++hs.getD (k+1) []++e++bc hs (B.getD (k+1) []));have a3:([46]++hs.getD (k+1) []++e++bc hs (B.getD (k+1) [])).length<=1+6+2+90:=by
    simp only[List.length_append,List.length_singleton];omega
   have a4:=H.len
   omega
  refine(DF 3 (l:=(B.map (bc hs)).map .str) (j:=ab.getD (k+1) 0) (v := .str (tb++bc hs (B.getD (ab.getD (k+1) 0) []))) ∅ (by decide +kernel) rfl ?_ ?_ (by rw[List.length_map,List.length_map,b1];omega) (by rw[List.length_map];exact cB) cV).trans ?_
  ·exact ah rfl (x := .list (ab.map vN)) (y:=vN (k+1)) (by walk_at "lk") (by walk_at "ee") (ty:=0) ∅ (cE cb ⋯)
  ·refine ev_add (x := .str tb) (y := .str (bc hs (B.getD (ab.getD (k+1) 0) []))) (look_other rfl ?_) ?_ (add_str (by unfold cap;omega))
   ·refine ev_call ∅ ∅ ∅ (vs:=[.str ([46]++hs.getD (k+1) []++e++bc hs (B.getD (k+1) []))]) (evL_of ?_ evL_nil) (bJ (F:=fQuoteP) rfl ?_)
    ·refine ev_add (x := .str ([46]++hs.getD (k+1) []++e)) (y := .str (bc hs (B.getD (k+1) []))) (look_other rfl ?_) ?_ (add_str (by simp only[List.length_append,List.length_singleton];unfold cap;omega))
     ·refine ev_add (x := .str ([46]++hs.getD (k+1) [])) (y := .str e) (look_other rfl ?_) (by walk_at "ee") (add_str (by simp only[List.length_append,List.length_singleton];unfold cap;omega))
      refine ev_add (x := .str [46]) (y := .str (hs.getD (k+1) [])) (look_other rfl ∅) ?_ (add_str (by simp only[List.length_singleton];unfold cap;omega));exact ah rfl (x := .list (hs.map .str)) (y:=vN (k+1)) (by walk_at "lk") (by walk_at "ee") (ty:=0) ∅ (bp ch (by rw[H.len];omega))
     ·rw[<-htl (k+1) ⋯]
      exact ah rfl (x := .list ((B.map (bc hs)).map .str)) (y:=vN (k+1)) (by walk_at "lk") (by walk_at "ee") (ty:=0) ∅ (bp cB (by rw[List.length_map,b1];omega))
    ·show((decide (([46]++hs.getD (k+1) []++e++bc hs (B.getD (k+1) [])).length<=10000),V.str (bv true (aN false ([46]++hs.getD (k+1) []++e++bc hs (B.getD (k+1) []))))):R)=_
     rw[Q,htb,decide_eq_true (by simp only[List.length_append,List.length_singleton];omega)]
   ·rw[<-htl (ab.getD (k+1) 0) ⋯]
    refine ah rfl (x := .list ((B.map (bc hs)).map .str)) (y:=vN (ab.getD (k+1) 0)) (by walk_at "lk") ?_ (ty:=0) ∅ (bp cB (by rw[List.length_map,b1];omega));exact ah rfl (x := .list (ab.map vN)) (y:=vN (k+1)) (by walk_at "lk") (by walk_at "ee") (ty:=0) ∅ (cE cb ⋯)
  ·have eS:gW ((B.map (bc hs)).map V.str) (ab.getD (k+1) 0) (.str (tb++bc hs (B.getD (ab.getD (k+1) 0) [])))=((ud ab B (k+1)).map (bc hs)).map .str:=by
    unfold gW ud;rw[htb,<-xQ,List.map_set,List.map_set]
   rw[eS]
   first|done|rfl
 ·obtain⟨b1,b2⟩:=wJ ht (j:=5) ⋯
  have h0:=b2 0 ⋯;have l0:=gj H h0.2;have hH:=H.each _ (getD_mem [] (show 0<hs.length by rw[H.len];omega));have htl:(((bu ab (0+5)).map (bc hs)).map V.str).getD 0 .none = .str (bc hs ((bu ab 5).getD 0 [])):=by
   rw[List.map_map];exact gh (f:=V.str∘bc hs) (row:=bu ab 5) (i:=0) [] (by rw[b1];decide)
  refine lK ∅ ?_;refine ev_add (x := .str (46::(hs.getD 0 []++[13,10]))) (y := .str (bc hs ((bu ab 5).getD 0 []))) (look_other rfl ?_) ?_ (add_str (by simp only[List.length_append,List.length_cons,List.length_nil];unfold cap;omega))
  ·refine ev_add (x := .str (46::hs.getD 0 [])) (y := .str [13,10]) (look_other rfl ?_) ∅ (add_str (by show(hs.getD 0 []).length+1+2<=1000000;omega))
   refine ev_add (x := .str [46]) (y := .str (hs.getD 0 [])) (look_other rfl ∅) ?_ (add_str (by simp only[List.length_singleton];unfold cap;omega));exact ah rfl (x := .list (hs.map .str)) (y:=vN 0) (by walk_at "lk") ∅ (ty:=0) ∅ (bp ch (by rw[H.len];omega))
  ·exact ah rfl (x := .list (((bu ab (0+5)).map (bc hs)).map .str)) (y:=vN 0) (by walk_at "lk") ∅ (ty:=0) ∅ (cZ (by rw[List.length_map,List.length_map,b1];decide) (by rw[List.length_map,List.length_map,b1];omega) htl)
end
section
open PySem PySem.W
open PySem.StrLaws PySem.Builtin.Str
theorem vH{l:List Nat}{a b n i:Nat}(hn:n=l.length):At (tx l) (tx [a,b]) n i↔l[i]? = some a/\l[i+1]? = some b:=by
 subst hn;unfold At;rw[subAt_eq];show i+2<=l.length/\((l.drop i).take 2==[a,b])=true↔_
 constructor
 ·rintro⟨h1,h2⟩
  have h3:=eq_of_beq h2;have e0:((l.drop i).take 2)[0]? = some a:=by rw[h3];rfl
  have e1:((l.drop i).take 2)[1]? = some b:=by rw[h3];rfl
  rw[List.getElem?_take,if_pos nofun,List.getElem?_drop]at e0 e1;exact⟨e0,e1⟩
 ·rintro⟨h1,h2⟩
  obtain⟨k1,e1⟩:=List.getElem?_eq_some_iff.mp h1;obtain⟨k2,e2⟩:=List.getElem?_eq_some_iff.mp h2;refine⟨⋯, ?_⟩;rw[List.drop_eq_getElem_cons k1,List.drop_eq_getElem_cons k2,e1,e2];simp
theorem vJ{l:List Nat}{a n i:Nat}(hn:n=l.length):At (tx l) (tx [a]) n i↔l[i]? = some a:=by
 subst hn;exact subAt_one (tx l) a i
theorem oO(l:List Nat)(a b:Nat):(strSub (tx l) a b).cps.toList=(l.drop a).take (b-a):=strSub_toList _ _ _
theorem ue{l last:List Nat}(hlast:13∉last):∀(rows:List (List Nat)) (a:Nat) (cuts:List Nat) (f:Nat),(∀r∈rows,13∉r)->l.drop a=(rows.map (· ++ [13,10])).flatten++last->a<=l.length->ChainG (tx l) (tx [13,10]) l.length a cuts f->(∀k,f<=k->¬At (tx l) (tx [13,10]) l.length k) ->
 (partsFrom (tx l) 2 a cuts).map (λx=>x.cps.toList)=rows++[last]
 |[],a,cuts,f,hr,hd,ha,hc,hf=>by
  have hd:l.drop a=last:=by simpa using hd
  induction cuts using List.casesOn with
  |nil=>
   show[(strSub (tx l) a (tx l).length).cps.toList]=[last];rw[oO,hd]
   congr 1
   exact List.take_of_length_le (by rw[<-hd];show(l.drop a).length<=l.length-a;simp)
  |cons c r=>
   have h1:=((vH rfl).mp hc.2.1).1;have h2:last[c-a]? = some 13:=by rw[<-hd,List.getElem?_drop,show a+(c-a)=c by have:=hc.1;omega];exact h1
   exact absurd (List.mem_of_getElem? h2) hlast
 |row::rows,a,cuts,f,hr,hd,ha,hc,hf=>by
  have hd':l.drop a=row++13::10::((rows.map (· ++ [13,10])).flatten++last):=by rw[hd];simp
  have hat:At (tx l) (tx [13,10]) l.length (a+row.length):=(vH rfl).mpr ⟨by rw[<-List.getElem?_drop,hd',List.getElem?_append_right (Nat.le_refl _),Nat.sub_self];rfl,by
   rw[show a+row.length+1=a+(row.length+1)by omega,<-List.getElem?_drop,hd',List.getElem?_append_right ⋯,show row.length+1-row.length=1 by omega];rfl⟩
  have hrow:=hr row (List.mem_cons_self ..)
  induction cuts using List.casesOn with
  |nil=>
   have e:f=a:=hc;exact absurd hat (hf _ ⋯)
  |cons c r=>
   obtain⟨h1,h2,h3,h4⟩:=hc;have hle:c<=a+row.length:=by
    rcases Nat.lt_or_ge (a+row.length) c with h|h
    ·exact absurd hat (h3 _ ⋯ h)
    ·exact h
   have hce:c=a+row.length:=by
    rcases Nat.lt_or_ge c (a+row.length)with h|h
    ·have e13:=((vH rfl).mp h2).1
     have:row[c-a]? = some 13:=by
      have:(l.drop a)[c-a]? = some 13:=by rw[List.getElem?_drop,show a+(c-a)=c by omega];exact e13
      rw[hd',List.getElem?_append_left ⋯]at this;exact this
     exact absurd (List.mem_of_getElem? this) hrow
    ·omega
   subst hce;have hlen:a+row.length+2<=l.length:=by
    have:=congrArg List.length hd';simp at this
    omega
   have hd2:l.drop (a+row.length+2)=(rows.map (· ++ [13,10])).flatten++last:=by
    rw[show a+row.length+2=a+(row.length+2)by omega,<-List.drop_drop,hd',show row.length+2=(row++[13,10]).length by simp,show row++13::10::((rows.map (· ++ [13,10])).flatten++last)=(row++[13,10])++((rows.map (· ++ [13,10])).flatten++last)by simp];exact List.drop_left
   show(strSub (tx l) a (a+row.length)).cps.toList::(partsFrom (tx l) 2 (a+row.length+2) r).map (λx=>x.cps.toList)=row::(rows++[last]);rw[ue hlast rows (a+row.length+2) r f (λx hx=>hr x (List.mem_cons_of_mem _ hx)) hd2 ⋯ h4 hf,oO,hd',show a+row.length-a=row.length by omega,List.take_left]
theorem vK{rows:List (List Nat)}{last:List Nat}(hr:∀r∈rows,13∉r)(hlast:13∉last)(hne:rows≠[]):dS ((rows.map (· ++ [13,10])).flatten++last) [13,10]=rows++[last]:=by
 generalize hl:(rows.map (· ++ [13,10])).flatten++last=l;obtain⟨f,h1,h2⟩:=occ_tight (tx l) (tx [13,10]) nofun;have C:=ue hlast rows 0 _ f hr (by rw[List.drop_zero,hl]) (Nat.zero_le _) h1 h2;have hmem:13∈l:=by
  induction rows using List.casesOn with
  |nil=>exact absurd rfl hne
  |cons r rs=>rw[<-hl];simp
 unfold dS Txt.split;have hk:(decide ((tx l).length<(tx [13,10]).length)||decide (strKind (tx l)<strKind (tx [13,10])))=false:=by
  rw[Bool.or_eq_false_iff]
  constructor
  ·apply decide_eq_false
   show ¬l.length<2
   induction rows using List.casesOn with
   |nil=>exact absurd rfl hne
   |cons r rs=>rw[<-hl];simp;omega
  ·apply decide_eq_false
   intro hlt;have e:strKind (tx [13,10])=strKind (⟨#[13]⟩:Str):=by decide +kernel
   rw[e]at hlt;exact kind_free (tx l) 13 hlt hmem
 rw[hk,if_neg (by simp)];cases ho:occurrences (tx l) (tx [13,10]) 0 (tx l).length ((tx l).length+1)with
 |nil=>
  rw[ho]at C;rw[if_pos (show([]:List Nat).isEmpty=true from rfl)];have C':[(strSub (tx l) 0 l.length).cps.toList]=rows++[last]:=C;have e:(strSub (tx l) 0 l.length).cps.toList=l:=by rw[oO];simp
  rw[e]at C';exact C'
 |cons c r=>
  rw[ho]at C;rw[if_neg (show ¬(c::r).isEmpty=true by simp),partsBetween_eq];exact C
theorem oP{l:List Nat}{c:Nat}:∀(cuts:List Nat) (a f:Nat),a<=l.length->ChainG (tx l) (tx [c]) l.length a cuts f->(∀k,f<=k->¬At (tx l) (tx [c]) l.length k)->cuts.length=(l.drop a).count c
 |[],a,f,ha,hc,hf=>by
  have e:f=a:=hc
  symm
  rw[List.length_nil,List.count_eq_zero];intro hm;obtain⟨k,hk⟩:=List.mem_iff_getElem?.mp hm;rw[List.getElem?_drop]at hk;exact hf (a+k) ⋯ ((vJ rfl).mpr hk)
 |d::r,a,f,ha,hc,hf=>by
  obtain⟨h1,h2,h3,h4⟩:=hc;have hd:=(vJ rfl).mp h2;obtain⟨hlt,he⟩:=List.getElem?_eq_some_iff.mp hd;have ih:=oP r (d+1) f ⋯ h4 hf;have e:l.drop a=(l.drop a).take (d-a)++c::l.drop (d+1):=by
   have:l.drop d=c::l.drop (d+1):=by rw[List.drop_eq_getElem_cons hlt,he]
   rw[<-this];have h5:l.drop d=(l.drop a).drop (d-a):=by rw[List.drop_drop];congr 1;omega
   rw[h5,List.take_append_drop]
  have h0:((l.drop a).take (d-a)).count c=0:=by
   rw[List.count_eq_zero];intro hm;obtain⟨k,hk⟩:=List.mem_iff_getElem?.mp hm;rw[List.getElem?_take]at hk
   split at hk
   ·rw[List.getElem?_drop]at hk
    exact h3 (a+k) ⋯ ⋯ ((vJ rfl).mpr hk)
   ·injections hk
  rw[e,List.count_append,h0,List.count_cons_self,List.length_cons,ih];omega
theorem Ai(l:List Nat)(c:Nat):qO l [c]=(l.count c:Int):=by
 obtain⟨f,h1,h2⟩:=occ_tight (tx l) (tx [c]) (Nat.le_refl 1);have:=oP _ 0 f (Nat.zero_le _) h1 h2;unfold qO Txt.count;show((occurrences (tx l) (tx [c]) 0 (tx l).length ((tx l).length+1)).length:Int)=_;rw[show(tx l).length=l.length from rfl]at *;rw[this,List.drop_zero]
end
section
open PySem PySem.W PySem.Challenge
section
variable (C:Nat->Nat->Int) (E:Nat->Nat->Bool)
noncomputable def vL:List Nat->List Nat->Nat
 |x::a,y::b=>bif E x y then vL a b+1 else 0
 |_,_=>0
noncomputable def Fk:List Nat->List Nat->Bool
 |[],[]=>true
 |x::a,y::b=>E x y&&Fk a b
 |_,_=>false
noncomputable def se(c:Nat)(a:List Nat)(i:Nat)(s:LS):LS:=
 let d:=s.row.getD i 0;let idl:=(bif decide (d<s.res)then d else s.res)+2;let sub:=s.dist+C c (a.getD i 0);let r:=bif decide (sub<idl)then sub else idl
 ⟨s.row.set i r,d,r,bif decide (r<s.mn)then r else s.mn⟩
noncomputable def oQ(c:Nat)(a:List Nat)(s:LS):Nat->LS
 |0=>s
 |k+1=>se C c a k (oQ c a s k)
noncomputable def mB(a:List Nat)(m:Int):List Nat->Nat->List Int->Int->Int
 |[],_,_,res=>res
 |c::bs,j,row,res=>
  let s:=oQ C c a ⟨row,(j:Int)*2,(j:Int)*2,Cl⟩ a.length
  bif decide (m<s.mn)then m+1 else mB a m bs (j+1) s.row s.res
noncomputable def wK(a b:List Nat)(m:Int):Int:=
 bif decide (m<((b.length:Int)-a.length)*2)then m+1 else mB C a m b 0 ((List.range' 1 a.length).map λi:Nat=>(i:Int)*2) 0
noncomputable def ES(a b:List Nat)(m:Int):Int:=
 bif a.isEmpty||b.isEmpty then 2*((a.length:Int)+b.length)
 else bif decide (40<a.length)||decide (40<b.length)then m+1
 else bif decide (b.length<a.length)then wK C b a m else wK C a b m
noncomputable def k8(a b:List Nat)(m:Int):Int:=
 bif Fk E a b then 0 else
 let k:=vL E a b;let a1:=a.drop k;let b1:=b.drop k;let q:=vL E a1.reverse b1.reverse
 ES C (aP a1 q) (aP b1 q) m
end
section
variable {C:Nat->Nat->Int} {E:Nat->Nat->Bool} {φ ψ:Nat->Nat}
theorem sg:∀(a b:List Nat),(∀x∈a,∀y∈b,ag [x] [y]=E (φ x) (ψ y))->bd a b=vL E (a.map φ) (b.map ψ)
 |[],b,_=>by induction b using List.casesOn<;>rfl
 |x::a,[],_=>rfl
 |x::a,y::b,h=>by
  show(bif ag [x] [y]then bd a b+1 else 0)=bif E (φ x) (ψ y)then vL E (a.map φ) (b.map ψ)+1 else 0
  rw[h x (List.mem_cons_self ..) y (List.mem_cons_self ..),sg a b λx hx y hy=>h x (List.mem_cons_of_mem _ hx) y (List.mem_cons_of_mem _ hy)]
theorem Aj:∀(a b:List Nat),(∀x∈a,∀y∈b,ag [x] [y]=E (φ x) (ψ y))->ag a b=Fk E (a.map φ) (b.map ψ)
 |[],[],_=>rfl
 |[],_::_,_=>rfl
 |_::_,[],_=>rfl
 |x::a,y::b,h=>by
  have h1:=h x (List.mem_cons_self ..) y (List.mem_cons_self ..);have h1':Nat.beq x y=E (φ x) (ψ y):=by rw[<-h1];show Nat.beq x y=(Nat.beq x y&&true);rw[Bool.and_true]
  show(Nat.beq x y&&ag a b)=(E (φ x) (ψ y)&&Fk E (a.map φ) (b.map ψ));rw[h1',Aj a b λx hx y hy=>h x (List.mem_cons_of_mem _ hx) y (List.mem_cons_of_mem _ hy)]
theorem Ak(φ:Nat->Nat){c c':Nat}{a:List Nat}(h:∀x∈a,bT c x=C c' (φ x))(s:LS):∀k,k<=a.length->ga c a s k=oQ C c' (a.map φ) s k
 |0,_=>rfl
 |k+1,hk=>by
  show jA c a k (ga c a s k)=se C c' (a.map φ) k (oQ C c' (a.map φ) s k);rw[Ak φ h s k ⋯];unfold jA se;rw[kZ φ 0 0 (show k<a.length by omega),h _ (getD_mem 0 (show k<a.length by omega))]
theorem wL{φ ψ:Nat->Nat}{a:List Nat}{m:Int}:∀(b:List Nat) (j:Nat) (row:List Int) (res:Int),(∀x∈a,∀y∈b,bT y x=C (ψ y) (φ x))->iA a m b j row res=mB C (a.map φ) m (b.map ψ) j row res
 |[],_,_,_,_=>rfl
 |c::bs,j,row,res,h=>by
  show(let s:=ga c a ⟨row,(j:Int)*2,(j:Int)*2,Cl⟩ a.length;bif decide (m<s.mn)then m+1 else iA a m bs (j+1) s.row s.res)=(let s:=oQ C (ψ c) (a.map φ) ⟨row,(j:Int)*2,(j:Int)*2,Cl⟩ (a.map φ).length;bif decide (m<s.mn)then m+1 else mB C (a.map φ) m (bs.map ψ) (j+1) s.row s.res);rw[List.length_map,Ak φ (λx hx=>h x hx c (List.mem_cons_self ..)) _ _ (Nat.le_refl _)];dsimp only;rw[wL bs _ _ _ λx hx y hy=>h x hx y (List.mem_cons_of_mem _ hy)]
theorem uf{φ ψ:Nat->Nat}{a b:List Nat}{m:Int}(h:∀x∈a,∀y∈b,bT y x=C (ψ y) (φ x)):qr a b m=wK C (a.map φ) (b.map ψ) m:=by
 unfold qr wK;rw[wL b 0 _ 0 h,List.length_map,List.length_map]
theorem kn{a b:List Nat}{m:Int}(h1:∀x∈a,∀y∈b,ag [x] [y]=E (φ x) (ψ y))(h2:∀x∈a,∀y∈b,bT y x=C (ψ y) (φ x)/\bT x y=C (φ x) (ψ y)):eu a b m=k8 C E (a.map φ) (b.map ψ) m:=by
 unfold eu k8;rw[Aj a b h1,sg a b h1];have da:∀k x,x∈a.drop k->x∈a:=λk x hx=>List.mem_of_mem_drop hx
 have db:∀k x,x∈b.drop k->x∈b:=λk x hx=>List.mem_of_mem_drop hx
 have ce:∀(l:List Nat) k x,x∈aP l k->x∈l:=λl k x hx=>List.mem_of_mem_take hx
 have cm:∀(f:Nat->Nat) (l:List Nat) k,aP (l.map f) k=(aP l k).map f:=λf l k=>by unfold aP;rw[List.length_map,List.map_take]
 dsimp only;generalize vL E (a.map φ) (b.map ψ)=k;rw[sg (a.drop k).reverse (b.drop k).reverse λx hx y hy=>h1 x (da k x (by simpa using hx)) y (db k y (by simpa using hy)),List.map_reverse,List.map_reverse,List.map_drop,List.map_drop];generalize vL E ((a.map φ).drop k).reverse ((b.map ψ).drop k).reverse=q;rw[<-List.map_drop,<-List.map_drop,cm,cm];have hA:∀x,x∈aP (a.drop k) q->x∈a:=λx hx=>da k x (ce _ _ x hx)
 have hB:∀x,x∈aP (b.drop k) q->x∈b:=λx hx=>db k x (ce _ _ x hx)
 generalize aP (a.drop k) q=u at hA |-;generalize aP (b.drop k) q=v at hB |-
 congr 1
 unfold zV ES;rw[uf (φ:=ψ) (ψ:=φ) (a:=v) (b:=u) (C:=C) λx hx y hy=>(h2 y (hA y hy) x (hB x hx)).2,uf (φ:=φ) (ψ:=ψ) (a:=u) (b:=v) (C:=C) λx hx y hy=>(h2 x (hA x hx) y (hB y hy)).1];rw[List.length_map,List.length_map,show(u.map φ).isEmpty=u.isEmpty by induction u using List.casesOn<;>rfl,show(v.map ψ).isEmpty=v.isEmpty by cases v<;>rfl]
end
noncomputable def cC(x y:Nat):Int:=bif Nat.beq x y then 0 else bif Nat.beq x 10||Nat.beq y 10 then 2 else bif Nat.beq (x%5) (y%5)then 1 else 2
noncomputable def codes(m:List Bool):List Nat:=List.zipWith (λp b=>bif b then p+5 else p) [0,1,2,3,4] m
noncomputable def fP(m:List Bool):Nat:=(m.filter id).length
noncomputable def ug:Nat->List (List Bool)
 |0=>[[]]
 |n+1=>(ug n).flatMap λm=>[true::m,false::m]
noncomputable def five:List Nat:=[0,1,2,3,4]
theorem xR:((ug 5).all λm=>(Nat.beq (fP m) 0)||(decide (k8 cC Nat.beq five (codes m) (fP m)=fP m)&&decide (k8 cC Nat.beq five (codes m) ((fP m:Int)-1)=fP m)))=true:=by decide +kernel
theorem uh:((ug 5).all λm=>(List.range 6).all λk=>(Nat.beq (fP m) 0)||(decide (k8 cC Nat.beq (gq five k 10) (codes m) ((fP m:Int)+2)=fP m+2)&&decide (k8 cC Nat.beq (gq five k 10) (codes m) ((fP m:Int)+1)=fP m+2) &&
 decide (k8 cC Nat.beq (codes m) (gq five k 10) 0=1)&&decide (k8 cC Nat.beq (codes m) (gq five k 10) 1=2)))=true:=by decide +kernel
theorem vM:((List.range 6).all λk=>(List.range 3).all λq=>decide (k8 cC Nat.beq (gq five k 10) five q=2)&&decide (k8 cC Nat.beq five (gq five k 10) q=2))=true:=by decide +kernel
end
section
open PySem PySem.W PySem.Challenge
noncomputable def gk(k:Nat):List Nat:=List.range' (cA.getD k 0) (dn.getD k 0)
theorem ui:((List.range 5).all λk=>(gk k).all λl=>ag (bW [l]) [l]&&ag (bW [l-32]) [l])=true:=by decide +kernel
theorem xS:(tableL.all λh=>ag (bW [h]) [h])=true:=by decide +kernel
structure dv(ls:List Nat):Prop where
 len:ls.length=5
 at_:∀k,k<5->ls.getD k 0∈gk k
noncomputable def ch(ls:List Nat)(p:Nat)(b:Bool):Nat:=bif b then ls.getD p 0-32 else ls.getD p 0
noncomputable def cF(c:Nat):Nat:=
 bif (Nat.ble 65 c&&Nat.blt c 91)||(Nat.ble 97 c&&Nat.blt c 123)then 0 else
 bif (Nat.ble 192 c&&Nat.blt c 215)||(Nat.ble 224 c&&Nat.blt c 247)then 1 else
 bif (Nat.ble 913 c&&Nat.blt c 930)||(Nat.ble 945 c&&Nat.blt c 962)then 2 else
 bif (Nat.ble 1040 c&&Nat.blt c 1072)||(Nat.ble 1072 c&&Nat.blt c 1104)then 3 else
 bif (Nat.ble 216 c&&Nat.blt c 223)||(Nat.ble 248 c&&Nat.blt c 255)then 4 else 10
noncomputable def gN(c:Nat):Bool := !(Nat.beq c 10) && !(Nat.beq c 13) && !(Nat.beq c 46)
theorem sh:((List.range 5).all λk=>(gk k).all λl=>Nat.beq (cF l) k&&Nat.beq (cF (l-32)) k&&Nat.ble 97 l&&gN l&&gN (l-32))=true:=by decide +kernel
theorem vO:(tableL.all λh=>Nat.beq (cF h) 10&&gN h)=true:=by decide +kernel
section
variable {ls:List Nat} {m m':List Bool}
theorem bL(L:dv ls){p:Nat}(hp:p<5)(b:Bool):bW [ch ls p b]=[ls.getD p 0]/\cF (ch ls p b)=p/\97<=ls.getD p 0/\gN (ch ls p b)=true:=by
 have h1:=List.all_eq_true.mp (List.all_eq_true.mp ui p (List.mem_range.mpr hp)) _ (L.at_ p hp);have h2:=List.all_eq_true.mp (List.all_eq_true.mp sh p (List.mem_range.mpr hp)) _ (L.at_ p hp);simp only[Bool.and_eq_true,Nat.beq_eq,Nat.ble_eq]at h1 h2;unfold ch
 induction b using Bool.casesOn with
 |true=>exact⟨au.mp h1.2,h2.1.1.1.2,h2.1.1.2,h2.2⟩
 |false=>exact⟨au.mp h1.1,h2.1.1.1.1,h2.1.1.2,h2.1.2⟩
theorem eA{h:Nat}(hh:h∈tableL):bW [h]=[h]/\cF h=10/\gN h=true:=by
 have h1:=List.all_eq_true.mp xS _ hh;have h2:=List.all_eq_true.mp vO _ hh;simp only[Bool.and_eq_true,Nat.beq_eq]at h2;exact⟨au.mp h1,h2.1,h2.2⟩
theorem gl(x y:Nat):ag [x] [y]=Nat.beq x y:=by show(Nat.beq x y&&true)=_;rw[Bool.and_true]
theorem dY{x y:Nat}(h:x≠y):Nat.beq x y=false:=by
 cases e:Nat.beq x y with
 |true=>exact absurd (Nat.eq_of_beq_eq_true e) h
 |false=>rfl
theorem wM(L:dv ls){p q:Nat}(hp:p<5)(hq:q<5)(b c:Bool):ag [ch ls p b] [ch ls q c]=(Nat.beq p q&&b==c):=by
 have h1:=bL L hp b;have h2:=bL L hq c;rw[gl]
 by_cases e:p=q
 ·subst e
  rw[Nat.beq_refl,Bool.true_and];have h3:=h1.2.2.1
  induction b using Bool.casesOn<;>induction c using Bool.casesOn<;>simp only[ch,cond_true,cond_false]<;>first|exact Nat.beq_refl _|(apply dY;omega)
 ·rw[dY e,Bool.false_and]
  apply dY;intro h;have:=h1.2.1;rw[h,h2.2.1]at this;exact e this.symm
theorem uj(x y:Nat):bT x y=bT y x:=by
 have s:∀a b:List Nat,ag a b=ag b a:=λa b=>by
  cases h:ag a b with
  |true=>rw[au.mp h];exact(au.mpr rfl).symm
  |false=>
   cases h2:ag b a with
   |true=>rw[au.mp h2,au.mpr rfl]at h;injections h
   |false=>rfl
 unfold bT;rw[s [x] [y],s (bW [x]) (bW [y])]
theorem BX(L:dv ls){p q:Nat}(hp:p<5)(hq:q<5)(b c:Bool):bT (ch ls p b) (ch ls q c)=bif Nat.beq p q then(bif b==c then 0 else 1)else 2:=by
 unfold bT;rw[wM L hp hq,(bL L hp b).1,(bL L hq c).1,gl]
 by_cases e:p=q
 ·subst e
  rw[Nat.beq_refl,Nat.beq_refl]
  induction b using Bool.casesOn<;>induction c using Bool.casesOn<;>rfl
 ·rw[dY e]
  have:ls.getD p 0≠ls.getD q 0:=λh=>by
   have h1:=(bL L hp false).2.1;have h2:=(bL L hq false).2.1;have:ch ls p false=ch ls q false:=h;rw[this,h2]at h1;exact e h1.symm
  rw[dY this];rfl
theorem DK(L:dv ls){p:Nat}(hp:p<5)(b:Bool){h:Nat}(hh:h∈tableL):ag [ch ls p b] [h]=false/\ag [h] [ch ls p b]=false/\bT (ch ls p b) h=2/\bT h (ch ls p b)=2:=by
 have h1:=bL L hp b;have h2:=eA hh;have hz:∀x,cF x=p->x≠h:=λx hx e=>by rw[e,h2.2.1]at hx;omega
 have n1:ch ls p b≠h:=hz _ h1.2.1;have n2:ls.getD p 0≠h:=hz _ (bL L hp false).2.1;have e1:ag [ch ls p b] [h]=false:=by rw[gl];exact dY n1
 have e2:ag [h] [ch ls p b]=false:=by rw[gl];exact dY n1.symm
 have c1:bT (ch ls p b) h=2:=by
  unfold bT;rw[e1,h1.1,h2.1,gl,dY n2];rfl
 exact⟨e1,e2,c1,by rw[uj];exact c1⟩
theorem iH{x:Nat}(L:dv ls)(hm:m.length=5)(h:x∈ai ls m):∃p,p<5/\x=ch ls p (m.getD p false):=by
 match ls,L.len,m,hm with
 |[l0,l1,l2,l3,l4],_,[b0,b1,b2,b3,b4],_=>
  have h:x∈[bif b0 then l0-32 else l0,bif b1 then l1-32 else l1,bif b2 then l2-32 else l2,bif b3 then l3-32 else l3,bif b4 then l4-32 else l4]:=h;simp only[List.mem_cons,List.not_mem_nil,or_false]at h
  rcases h with h|h|h|h|h
  ·exact⟨0,nofun,h⟩
  ·exact⟨1,nofun,h⟩
  ·exact⟨2,nofun,h⟩
  ·exact⟨3,nofun,h⟩
  ·exact⟨4,nofun,h⟩
theorem oR(L:dv ls)(hm:m.length=5):ai ls m=five.map λp=>ch ls p (m.getD p false):=by
 match ls,L.len,m,hm with
 |[l0,l1,l2,l3,l4],_,[b0,b1,b2,b3,b4],_=>rfl
noncomputable def gY(m m':List Bool):List Bool:=List.zipWith (λa b=>a !=b) m m'
noncomputable def l8(m:List Bool)(ls:List Nat)(x:Nat):Nat:=bif Nat.beq x (ch ls (cF x) (m.getD (cF x) false))then cF x else cF x+5
theorem vP(L:dv ls){p:Nat}(hp:p<5)(c:Bool):l8 m ls (ch ls p c)=bif c==m.getD p false then p else p+5:=by
 have h1:=bL L hp c;unfold l8;rw[h1.2.1,<-gl,wM L hp hp,Nat.beq_refl,Bool.true_and]
theorem mC(L:dv ls)(hm:m.length=5)(hm':m'.length=5):(ai ls m').map (l8 m ls)=codes (gY m m'):=by
 rw[oR L hm',List.map_map];have e:five.map (l8 m ls∘λp=>ch ls p (m'.getD p false))=five.map λp=>bif m'.getD p false==m.getD p false then p else p+5:=List.map_congr_left λp hp=>vP L (by revert p;decide) _
 rw[e]
 match m,hm,m',hm' with
 |[b0,b1,b2,b3,b4],_,[c0,c1,c2,c3,c4],_=>
  clear e L;revert b0 b1 b2 b3 b4 c0 c1 c2 c3 c4
  decide +kernel
theorem oS(L:dv ls)(hm:m.length=5):(ai ls m).map cF=five:=by
 rw[oR L hm,List.map_map];refine(List.map_congr_left (g:=id) λp hp => ?_).trans (List.map_id _);exact(bL L (by revert p;decide) _).2.1
theorem xT:∀p,p<5->∀q,q<5->∀b c d:Bool,(p=q->d=b)->cC p (bif c==d then q else q+5)=(bif Nat.beq p q then(bif b==c then 0 else 1)else 2)/\cC (bif c==d then q else q+5) p=(bif Nat.beq p q then(bif b==c then 0 else 1)else 2)/\Nat.beq p (bif c==d then q else q+5)=(Nat.beq p q&&b==c)/\Nat.beq (bif c==d then q else q+5) p=(Nat.beq p q&&b==c):=nofun
theorem gO(L:dv ls)(hm:m.length=5)(hm':m'.length=5){x y:Nat}(hx:x∈ai ls m)(hy:y∈ai ls m'):ag [x] [y]=Nat.beq (cF x) (l8 m ls y)/\ag [y] [x]=Nat.beq (l8 m ls y) (cF x)/\bT y x=cC (l8 m ls y) (cF x)/\bT x y=cC (cF x) (l8 m ls y):=by
 obtain⟨p,hp,rfl⟩:=iH L hm hx;obtain⟨q,hq,rfl⟩:=iH L hm' hy;have K:=xT p hp q hq (m.getD p false) (m'.getD q false) (m.getD q false) (λe=>by rw[e]);rw[(bL L hp _).2.1,vP L hq,K.1,K.2.1,K.2.2.1,K.2.2.2,wM L hp hq,wM L hq hp,uj,BX L hp hq];refine⟨rfl, ?_,rfl,rfl⟩;have e1:Nat.beq q p=Nat.beq p q:=by
  by_cases e:p=q
  ·rw[e]
  ·rw[dY e,dY (Ne.symm e)]
 rw[e1];cases m.getD p false<;>cases m'.getD q false<;>rfl
theorem qE(L:dv ls)(hm:m.length=5)(hm':m'.length=5){h y:Nat}(hh:h∈tableL)(hy:y∈ai ls m'):ag [h] [y]=Nat.beq (cF h) (l8 m ls y)/\ag [y] [h]=Nat.beq (l8 m ls y) (cF h)/\bT y h=cC (l8 m ls y) (cF h)/\bT h y=cC (cF h) (l8 m ls y):=by
 obtain⟨q,hq,rfl⟩:=iH L hm' hy;have K:=DK L hq (m'.getD q false) hh;rw[(eA hh).2.1,vP L hq,K.1,K.2.1,K.2.2.1,K.2.2.2];have:∀q,q<5->∀c d:Bool,false=Nat.beq 10 (bif c==d then q else q+5)/\false=Nat.beq (bif c==d then q else q+5) 10/\(2:Int)=cC (bif c==d then q else q+5) 10/\(2:Int)=cC 10 (bif c==d then q else q+5):=nofun
 exact this q hq _ _
theorem si{a:List Nat}{k c x:Nat}(h:x∈gq a k c):x∈a\/x=c:=by
 unfold gq at h;simp only[List.mem_append,List.mem_singleton]at h
 rcases h with(h|h)|h
 ·exact .inl (List.mem_of_mem_take h)
 ·exact .inr h
 ·exact .inl (List.mem_of_mem_drop h)
theorem wN(f:Nat->Nat)(a:List Nat)(k c:Nat):(gq a k c).map f=gq (a.map f) k (f c):=by
 unfold gq;simp
theorem uk(hm:m.length=5)(hm':m'.length=5):gY m m'∈ug 5:=by
 have all5:∀l:List Bool,l.length=5->l∈ug 5:=λl hl=>by
  match l,hl with
  |[b0,b1,b2,b3,b4],_=>
   revert b0 b1 b2 b3 b4
   decide +kernel
 apply all5;unfold gY;rw[List.length_zipWith,hm,hm'];rfl
theorem xU(L:dv ls)(hm:m.length=5)(hm':m'.length=5)(hd:fP (gY m m')≠0):eu (ai ls m) (ai ls m') (fP (gY m m'))=fP (gY m m')/\eu (ai ls m) (ai ls m') ((fP (gY m m'):Int)-1)=fP (gY m m'):=by
 have e:∀q,eu (ai ls m) (ai ls m') q=k8 cC Nat.beq five (codes (gY m m')) q:=λq=>by
  rw[kn (C:=cC) (E:=Nat.beq) (φ:=cF) (ψ:=l8 m ls) (λx hx y hy=>(gO L hm hm' hx hy).1) (λx hx y hy=>(gO L hm hm' hx hy).2.2),oS L hm,mC L hm hm']
 have:=List.all_eq_true.mp xR _ (uk hm hm');rw[dY hd,Bool.false_or,Bool.and_eq_true,decide_eq_true_eq,decide_eq_true_eq]at this;rw[e,e];exact this
theorem xV(L:dv ls)(hm:m.length=5)(hm':m'.length=5){k h:Nat}(hk:k<6)(hh:h∈tableL)(hd:fP (gY m m')≠0):eu (gq (ai ls m) k h) (ai ls m') ((fP (gY m m'):Int)+2)=fP (gY m m')+2/\eu (gq (ai ls m) k h) (ai ls m') ((fP (gY m m'):Int)+1)=fP (gY m m')+2 /\
 eu (ai ls m') (gq (ai ls m) k h) 0=1/\eu (ai ls m') (gq (ai ls m) k h) 1=2:=by
 have P:∀x∈gq (ai ls m) k h,∀y∈ai ls m',ag [x] [y]=Nat.beq (cF x) (l8 m ls y)/\ag [y] [x]=Nat.beq (l8 m ls y) (cF x)/\bT y x=cC (l8 m ls y) (cF x)/\bT x y=cC (cF x) (l8 m ls y):=λx hx y hy=>by
  rcases si hx with hx|rfl
  ·exact gO L hm hm' hx hy
  ·exact qE L hm hm' hh hy
 have em:(gq (ai ls m) k h).map cF=gq five k 10:=by rw[wN,oS L hm,(eA hh).2.1]
 have e:∀q,eu (gq (ai ls m) k h) (ai ls m') q=k8 cC Nat.beq (gq five k 10) (codes (gY m m')) q:=λq=>by
  rw[kn (C:=cC) (E:=Nat.beq) (φ:=cF) (ψ:=l8 m ls) (λx hx y hy=>(P x hx y hy).1) (λx hx y hy=>(P x hx y hy).2.2),em,mC L hm hm']
 have e':∀q,eu (ai ls m') (gq (ai ls m) k h) q=k8 cC Nat.beq (codes (gY m m')) (gq five k 10) q:=λq=>by
  rw[kn (C:=cC) (E:=Nat.beq) (φ:=l8 m ls) (ψ:=cF) (λy hy x hx=>(P x hx y hy).2.1) (λy hy x hx=>⟨(P x hx y hy).2.2.2,(P x hx y hy).2.2.1⟩),em,mC L hm hm']
 have:=List.all_eq_true.mp (List.all_eq_true.mp uh _ (uk hm hm')) k (List.mem_range.mpr hk);rw[dY hd,Bool.false_or]at this;simp only[Bool.and_eq_true,decide_eq_true_eq]at this;rw[e,e,e',e'];exact⟨this.1.1.1,this.1.1.2,this.1.2,this.2⟩
theorem Al:∀m:List Bool,m.length=5->codes (gY m m)=five:=λm hm=>by
 match m,hm with
 |[b0,b1,b2,b3,b4],_=>
  revert b0 b1 b2 b3 b4
  decide +kernel
theorem Am(L:dv ls)(hm:m.length=5){k h q:Nat}(hk:k<6)(hq:q<3)(hh:h∈tableL):eu (gq (ai ls m) k h) (ai ls m) q=2/\eu (ai ls m) (gq (ai ls m) k h) q=2:=by
 have P:∀x∈gq (ai ls m) k h,∀y∈ai ls m,ag [x] [y]=Nat.beq (cF x) (l8 m ls y)/\ag [y] [x]=Nat.beq (l8 m ls y) (cF x)/\bT y x=cC (l8 m ls y) (cF x)/\bT x y=cC (cF x) (l8 m ls y):=λx hx y hy=>by
  rcases si hx with hx|rfl
  ·exact gO L hm hm hx hy
  ·exact qE L hm hm hh hy
 have em:(gq (ai ls m) k h).map cF=gq five k 10:=by rw[wN,oS L hm,(eA hh).2.1]
 have:=List.all_eq_true.mp (List.all_eq_true.mp vM k (List.mem_range.mpr hk)) q (List.mem_range.mpr hq);simp only[Bool.and_eq_true,decide_eq_true_eq]at this;rw[kn (C:=cC) (E:=Nat.beq) (φ:=cF) (ψ:=l8 m ls) (λx hx y hy=>(P x hx y hy).1) (λx hx y hy=>(P x hx y hy).2.2),kn (C:=cC) (E:=Nat.beq) (φ:=l8 m ls) (ψ:=cF) (λy hy x hx=>(P x hx y hy).2.1) (λy hy x hx=>⟨(P x hx y hy).2.2.2,(P x hx y hy).2.2.1⟩),em,mC L hm hm,Al m hm];exact this
end
end
section
open PySem PySem.W PySem.Challenge
theorem xW:(rowsL.all λe=>Nat.beq (cF e.1.toNat) 10&&decide (0<=e.1))=true:=∅
theorem ul:((List.range 5).all λk=>(gk k).all λl => !(kR gf (l:Nat)) && !(kR gf ((l-32:Nat):Int)))=true:=∅
theorem xX:(tableL.all λh=>kR gf (h:Nat))=true:=∅
theorem lQ:∀(L:List (Int×Str)) (c:Nat),(L.all λe=>Nat.beq (cF e.1.toNat) 10&&decide (0<=e.1))=true->cF c≠10->L.lookup (c:Int)=none
 |[],_,_,_=>rfl
 |(k,y)::L,c,h,hz=>by
  simp only[List.all_cons,Bool.and_eq_true,Nat.beq_eq,decide_eq_true_eq]at h;have hne:((c:Int)==k)=false:=by
   rw[beq_eq_false_iff_ne];intro e;have:=h.1.1;rw[<-e]at this;exact hz this
  rw[List.lookup_cons,hne];exact lQ L c (by simpa using h.2) hz
section
variable {ls:List Nat}
theorem BY(L:dv ls){p:Nat}(hp:p<5)(b:Bool):lH rowsL (ch ls p b)=[ls.getD p 0]:=by
 have h:=bL L hp b;unfold lH;rw[lQ _ _ xW (by rw[h.2.1];omega)];exact h.1
theorem ET(L:dv ls){p:Nat}(hp:p<5)(b:Bool):kR gf (ch ls p b:Nat)=false:=by
 have h:=List.all_eq_true.mp (List.all_eq_true.mp ul p (List.mem_range.mpr hp)) _ (L.at_ p hp);simp only[Bool.and_eq_true,Bool.not_eq_true']at h;unfold ch;cases b with
 |true=>exact h.2
 |false=>exact h.1
theorem An{h:Nat}(hh:h∈tableL):kR gf (h:Nat)=true:=List.all_eq_true.mp xX _ hh
end
end
section
open PySem PySem.W PySem.Challenge
noncomputable def fDue:List V->R:=bN mz [] 1000 (cU ["dots","i","j"] EB)
noncomputable def fB3r:List V->R:=FM mz 1000 rowsL xF (nm "code") oo
noncomputable def fB1r:List V->R:=F4 (kR gf)
noncomputable def um:Fns:=⟨GL,[(nm "_law_above",fAbove),(nm "_law_heads",fHeads),(nm "_law_mail",fMail),(nm "_law_due",fDue),(nm "_levenshtein_distance",fLev),(nm "in_table_b1",fB1r),(nm "map_table_b3",fB3r)],[]⟩
noncomputable abbrev sq:List (Str×NameKind):=iz.scope.names
noncomputable abbrev nW:List Nm:=fK sq
noncomputable abbrev xY:List Nm:=aM (fW 20) iz.body
noncomputable def fA:List Nat:=[2787840,36421,5406900,414363,935403,2,1,2,1,14,9]
noncomputable def xZ(ns:List Int)(k:Nat):Int:=((fA.getD k 0:Int)+sC (cJ 11 k (ns.map .int))).fmod 10000000
noncomputable def numsOf(ns:List Int):List Nat:=(List.range' 0 11).map λk=>(xZ ns k).toNat
theorem uo(ns:List Int)(k:Nat):0<=xZ ns k:=Int.fmod_nonneg_of_pos _ nofun
theorem Ao{k:Nat}{ns:List Int}(h:ns.length<=1000):(cJ 11 (k:Int) (ns.map V.int)).all mK=true/\(cJ 11 (k:Int) (ns.map V.int)).length<=cap:=by
 unfold cJ
 constructor
 ·rw[List.all_eq_true]
  intro x hx;obtain⟨i,_,hi⟩:=List.mem_filterMap.mp hx;obtain⟨j,_,rfl⟩:=List.mem_map.mp (List.mem_of_getElem? hi)
  rfl
 ·refine Nat.le_trans (List.length_filterMap_le _ _) (Nat.le_trans (sliceRange_length_le _ _ _ (ns.map V.int).length (λ_=>⟨⋯,⋯⟩) λh=>absurd nofun h) ?_)
  rw[List.length_map];unfold cap;omega
noncomputable def k9(script seeds numbers leads i x base ways above heads mail deep rows dots names dues far steps wishes places clashes behind both one other typed due low:Mine.Slot):List Mine.Slot:=
 [script,seeds,numbers,leads,i,x,base,ways,above,heads,mail,deep,rows,dots,names,dues,far,steps,wishes,places,clashes,behind,both,one,other,typed,due,low]
noncomputable def DL(b:Bool):Res:=(true, .ret (.bool b))
theorem EU {ns:List Int} (hn:ns.length<=63) {res:Res}
 (h:ex um [] xY 1000 sq 196 (iz.body.drop 4) (aq nW (k9 (.val (.list (ns.map .int))) (.val (.tup (fA.map vN))) (.val (.list ((numsOf ns).map vN))) (.own ((aH (numsOf ns) 5).map .str)) .un .un .un .un .un .un .un .un .un .un .un .un .un .un .un .un .un .un .un .un .un .un .un .un))=res):
 ex um [] xY 1000 sq 200 iz.body (aq nW (k9 (.val (.list (ns.map .int))) .un .un .un .un .un .un .un .un .un .un .un .un .un .un .un .un .un .un .un .un .un .un .un .un .un .un .un))=res:=by
 have cs:(ns.map V.int).length<=cap:=by rw[List.length_map];unfold cap;omega
 refine aY 1 ∅ (by decide +kernel) (v := .tup (fA.map vN)) ∅ (s := .val (.tup (fA.map vN))) rfl ?_;have eN:(numsOf ns).map vN=(List.range' 0 11).map λk=>V.int (xZ ns k):=by
  unfold numsOf;rw[List.map_map];refine List.map_congr_left λk _ => ?_
  show V.int (((xZ ns k).toNat:Nat):Int)=V.int (xZ ns k);rw[Int.toNat_of_nonneg (uo ns k)]
 have hlen:(numsOf ns).length=11:=by unfold numsOf;simp
 refine aY 2 ∅ (by decide +kernel) (v := .list ((numsOf ns).map vN)) ?_ (s := .val (.list ((numsOf ns).map vN))) ∅ ?_
 ·rw[eN]
  refine bl (λk => .tup [vN k,vN (fA.getD k 0)]) (λk => .int (xZ ns k)) (List.range' 0 11) [.un, .un, .un, .un, .val (.list (ns.map .int))] ∅ ∅ ∅ ∅ nofun λk hk=>⟨[.un, .val (vN k), .val (vN (fA.getD k 0)), .un, .val (.list (ns.map .int))],∅, ?_⟩
  obtain⟨e1,e2⟩:=Ao (k:=k) (ns:=ns) ⋯;refine ev_bin nofun (x := .int ((fA.getD k 0:Int)+sC (cJ 11 k (ns.map .int)))) (y := .int 10000000) ?_ ∅ rfl;refine ev_add (x:=vN (fA.getD k 0)) (y := .int (sC (cJ 11 k (ns.map .int)))) (by walk_at "lk") ?_ rfl;refine ev_call ∅ ∅ ∅ (vs:=[.list (cJ 11 k (ns.map .int))]) (evL_of ?_ evL_nil) (bg rfl ?_)
  ·refine aE (x := .list (ns.map .int)) (a:=vN k) (b := .none) (c:=vN 11) (by walk_at "ee") (ck (by walk_at "ee")) rfl (ck ∅) ?_
   show((decide ((ns.map V.int).length<=cap)&&decide (0<=(k:Int))&&decide ((1:Int)<=11),V.list (cJ 11 k (ns.map .int))):R)=_;rw[decide_eq_true cs,decide_eq_true ⋯];rfl
  ·show(((cJ 11 (k:Int) (ns.map V.int)).all mK&&decide ((cJ 11 (k:Int) (ns.map V.int)).length<=cap),V.int (sC (cJ 11 k (ns.map .int)))):R)=_
   rw[e1,decide_eq_true e2];rfl
 generalize numsOf ns=nums at hlen h |-;have cn:nums.length<=cap:=by rw[hlen];decide
 refine aY 3 ∅ (by decide +kernel) (v := .list [.str []]) ∅ (s := .own ((aH nums (1-1)).map .str)) ∅ ?_;refine iB (λj=>k9 (.val (.list (ns.map .int))) (.val (.tup (fA.map vN))) (.val (.list (nums.map vN))) (.own ((aH nums (j-1)).map .str)) .un .un .un .un .un .un .un .un .un .un .un .un .un .un .un .un .un .un .un .un .un .un .un .un) vN 1 5 ∅ ∅ ∅ (λi h1 h2 => ?_) h;obtain⟨k,rfl⟩:∃k,i=k+1:=⟨i-1,⋯⟩;rw[show k+1-1=k by omega,show k+1+1-1=k+1 by omega];obtain⟨l1,l2,_,_⟩:=jC nums k;have eL:aH nums (k+1)=aH nums k++[DI ((aH nums k).getD (nums.getD k 0%60%(k+1)) []) (nums.getD k 0/60%6)]:=rfl;rw[eL];generalize aH nums k=L at l1 l2 |-
 obtain⟨x,hx⟩:∃x,x=nums.getD k 0:=⟨_,rfl⟩;rw[<-hx];have hm:x%60%(k+1)<k+1:=Nat.mod_lt _ ⋯;obtain⟨b,hb⟩:∃b,b=L.getD (x%60%(k+1)) []:=⟨_,rfl⟩;rw[<-hb];have hbl:b.length<=k:=by rw[hb];exact(l2 _ (getD_mem [] (by rw[l1];exact hm))).1
 have cL:L.length<=cap:=by rw[l1];unfold cap;omega
 have h6:x/60%6<6:=Nat.mod_lt _ nofun;obtain⟨ws,hws⟩:∃ws,ws=[b++[32],b++[9],32::b,9::b,b.reverse++[9],bif b.isEmpty then[32]else b]:=⟨_,rfl⟩;have hway:DI b (x/60%6)=ws.getD (x/60%6) []:=by rw[hws];rfl
 have cb:b.length<=cap:=by unfold cap;omega
 refine⟨k9 (.val (.list (ns.map .int))) (.val (.tup (fA.map vN))) (.val (.list (nums.map vN))) (.own (L.map .str)) (.val (vN (k+1))) .un .un .un .un .un .un .un .un .un .un .un .un .un .un .un .un .un .un .un .un .un .un .un,
  k9 (.val (.list (ns.map .int))) (.val (.tup (fA.map vN))) (.val (.list (nums.map vN))) (.own ((L++[DI b (x/60%6)]).map .str)) (.val (vN (k+1))) (.val (vN x)) (.val (.str b)) (.val (.tup (ws.map .str))) .un .un .un .un .un .un .un .un .un .un .un .un .un .un .un .un .un .un .un .un,∅, ?_,∅⟩
 refine aY 5 ∅ (by decide +kernel) (v:=vN x) ?_ rfl ?_
 ·rw[hx]
  exact ah rfl (x := .list (nums.map vN)) (y:=vN k) (by walk_at "lk") (ev_bin nofun (x:=vN (k+1)) (y:=vN 1) (by walk_at "ee") ∅ oE) (ty:=0) ∅ (cE cn ⋯)
 refine aY 6 ∅ (by decide +kernel) (v := .str b) ?_ rfl ?_
 ·rw[hb]
  refine ah rfl (x := .list (L.map .str)) (y:=vN (x%60%(k+1))) (by walk_at "lk") ?_ (ty:=0) ∅ (bp cL (by rw[l1];exact hm));exact ev_bin nofun (x:=vN (x%60)) (y:=vN (k+1)) (ev_bin nofun (x:=vN x) (y:=vN 60) (by walk_at "ee") ∅ (cS nofun)) (by walk_at "ee") (cS ⋯)
 refine aY 7 ∅ (by decide +kernel) (v := .tup (ws.map .str)) ?_ rfl ?_
 ·rw[hws]
  refine tL (evL_of (x := .str (b++[32])) ?_ (evL_of (x := .str (b++[9])) ?_ (evL_of (x := .str (32::b)) ?_ (evL_of (x := .str (9::b)) ?_ (evL_of (x := .str (b.reverse++[9])) ?_ (evL_of (x := .str (bif b.isEmpty then[32]else b)) ?_ evL_nil)))))) (by simp[cap])
  ·exact ev_add (x := .str b) (y := .str [32]) (by walk_at "lk") ∅ (add_str (by simp[cap];omega))
  ·exact ev_add (x := .str b) (y := .str [9]) (by walk_at "lk") ∅ (add_str (by simp[cap];omega))
  ·exact ev_add (x := .str [32]) (y := .str b) (look_other rfl ∅) (by walk_at "ee") (add_str (by simp[cap];omega))
  ·exact ev_add (x := .str [9]) (y := .str b) (look_other rfl ∅) (by walk_at "ee") (add_str (by simp[cap];omega))
  ·refine ev_add (x := .str b.reverse) (y := .str [9]) (look_other rfl ?_) ∅ (add_str (by simp[cap];omega))
   refine aE (x := .str b) (a := .none) (b := .none) (c := .int (-1)) (by walk_at "ee") rfl rfl (ck ∅) ?_;show((decide (b.length<=cap)&&decide ((-1:Int) = -1),V.str b.reverse):R)=_;rw[decide_eq_true cb];rfl
  ·refine gT ?_
   cases he:b.isEmpty with
   |true=>exact wC (x := .str b) (by walk_at "ee") (by rw[truthy_str cb,he];rfl) (rN ∅)
   |false=>exact mx (x := .str b) (by walk_at "ee") (by rw[truthy_str cb,he];rfl)
 have hw6:ws.length=6:=by rw[hws];rfl
 rw[hway];clear hway hws;refine(qw 3 (l:=L.map .str) ∅ (by decide +kernel) rfl rfl (by rw[List.length_map];exact cL) (v := .str (ws.getD (x/60%6) [])) ?_ cV).trans ?_
 ·refine ah rfl (x := .tup (ws.map .str)) (y:=vN (x/60%6)) (by walk_at "lk") ?_ (ty:=0) ∅ (kU (by rw[List.length_map,hw6];decide) (by rw[List.length_map,hw6];exact h6) (gh [] (by rw[hw6];exact h6)))
  exact ev_bin nofun (x:=vN (x/60)) (y:=vN 6) (ev_bin nofun (x:=vN x) (y:=vN 60) (by walk_at "ee") ∅ (jD nofun nofun)) ∅ (cS nofun)
 ·rw[show L.map V.str++[V.str (ws.getD (x/60%6) [])]=(L++[ws.getD (x/60%6) []]).map .str by simp]
  rfl
theorem EV{Φ:Fns}{τ:Tau}{μ:List Nm}{W n:Nat}{κ:List (Str×NameKind)}{ns:List Nm}{ss ss':List Mine.Slot}{rest:List Stmt}{res:Res}{p:Pos}{t:Expr}{a b:List Stmt}{v:V}(c:Bool)(hf:freeze (aK 40 t) (aq ns ss)=aq ns ss')(hp:(bf a&&bf b&&ay (fits 20) a&&ay (fits 20) b)=false)(h:ev Φ τ 40 κ (aq ns ss') t=(true,v))(hv:aa v=(true,c))(hr:ex Φ τ μ W κ n ((bif c then a else b)++rest) (aq ns ss')=res):
 ex Φ τ μ W κ (n+1) (.If t a b p::rest) (aq ns ss)=res:=
 eQ hp (by rw[hf];exact h) hv (by rw[hf];exact hr)
theorem uq(k:Nat)(l:List Nat):dc (k+2) (.list (l.map vN))=true:=List.all_eq_true.mpr λx m=>by
 obtain⟨n,_,rfl⟩:=List.mem_map.mp m;rfl
theorem vQ{l:List Nat}:oZ .Eq (.list (l.map vN)) (.list [])=(true,l.isEmpty):=by
 show((dc 9 (.list (l.map vN))&&true,eqVs (l.map vN) []):Bool×Bool)=_;rw[uq]
 induction l using List.casesOn<;>rfl
theorem wO(nums:List Nat):dv (ax nums):=⟨by unfold ax;simp,λk hk=>by
 rw[oG hk];have:=gM (nums:=nums) hk;unfold gk;rw[List.mem_range'_1];omega⟩
theorem ur:(trees.all λab=>(List.range 6).all λj=>((aI ab 5).getD j []==(aI ab j).getD j [])&&Nat.beq ((aI ab 5).getD j []).length 5)=true:=by decide +kernel
theorem bG{ab:List Nat}(h:ab∈trees){j:Nat}(hj:j<6):(aI ab 5).getD j []=(aI ab j).getD j []/\((aI ab 5).getD j []).length=5:=by
 have:=List.all_eq_true.mp (List.all_eq_true.mp ur ab h) j (List.mem_range.mpr hj);simp only[Bool.and_eq_true,Nat.beq_eq,beq_iff_eq]at this;exact this
noncomputable def bj(ls ab:List Nat)(j:Nat):List Nat:=ai ls ((aI ab 5).getD j [])
theorem lc(ls nums ab:List Nat)(ht:ab∈trees):(aT ls nums ab 5).getD 0 []=bj ls ab 0:=by
 unfold bj;rw[(bG ht (j:=0) ⋯).1];rfl
theorem ld(ls nums ab:List Nat)(ht:ab∈trees){k:Nat}(hk:k<5):(aT ls nums ab 5).getD (k+1) []=gq (bj ls ab (k+1)) (nums.getD k 0/311040%6) (tableL.getD (nums.getD k 0/11520%27) 0):=by
 unfold bj;rw[(bG ht (j:=k+1) ⋯).1]
 match k,hk with
 |0,_=>rfl
 |1,_=>rfl
 |2,_=>rfl
 |3,_=>rfl
 |4,_=>rfl
theorem mD(x:Nat):tableL.getD (x/11520%27) 0∈tableL:=getD_mem 0 (show x/11520%27<tableL.length from Nat.mod_lt _ nofun)
theorem oU{ls:List Nat}(L:dv ls){m:List Bool}(hm:m.length=5){c:Nat}(h:c∈ai ls m):gN c=true:=by
 obtain⟨p,hp,rfl⟩:=iH L hm h;exact(bL L hp _).2.2.2
theorem gP{c:Nat}(h:gN c=true):c≠10/\c≠13/\c≠46:=by
 unfold gN at h;simp only[Bool.and_eq_true,Bool.not_eq_true']at h;exact⟨Nat.ne_of_beq_eq_false h.1.1,Nat.ne_of_beq_eq_false h.1.2,Nat.ne_of_beq_eq_false h.2⟩
theorem fB{ls nums ab:List Nat}(L:dv ls)(ht:ab∈trees){j:Nat}(hj:j<6):((aT ls nums ab 5).getD j []).length<=6/\∀c∈(aT ls nums ab 5).getD j [],gN c=true:=by
 have hm:=(bG ht hj).2
 match j,hj with
 |0,_=>
  rw[lc ls nums ab ht];exact⟨by have:=dj L.len hm;unfold bj;omega,λc hc=>oU L hm hc⟩
 |k+1,hj=>
  rw[ld ls nums ab ht ⋯];refine⟨?_,λc hc => ?_⟩
  ·have:=dj L.len hm
   unfold gq bj;simp only[List.length_append,List.length_take,List.length_drop,List.length_singleton,this]
   omega
  ·rcases si hc with hc|rfl
   ·exact oU L hm hc
   ·exact(eA (mD _)).2.2
theorem Ap{ls nums ab:List Nat}(L:dv ls)(ht:ab∈trees):km (aT ls nums ab 5):=by
 have hl:=gL ls nums ab 5;refine⟨hl,λh hh => ?_⟩;obtain⟨j,hj⟩:=List.mem_iff_getElem?.mp hh;obtain⟨hlt,_⟩:=List.getElem?_eq_some_iff.mp hj;have:=fB (nums:=nums) L ht (show j<6 by omega);rw[List.getD_eq_getElem?_getD,hj]at this;exact⟨this.1,λc hc=>let x:=gP (this.2 c hc);⟨x.1,x.2.1⟩⟩
noncomputable def aW(ab:List Nat)(hs:List (List Nat))(i:Nat):List Nat:=List.replicate ((an ab 5).getD i 0) 46++hs.getD i []
theorem qF{ab:List Nat}(ht:ab∈trees)(hs:List (List Nat)):c8 ab hs=(((List.range' 0 6).map (aW ab hs)).map (· ++ [13,10])).flatten:=by
 have h:=List.all_eq_true.mp lP ab ht;simp only[Bool.and_eq_true,beq_iff_eq,List.all_eq_true,List.mem_range,Nat.ble_eq]at h;obtain⟨h1,h2⟩:=h;have d0:(an ab 5).getD 0 0=1:=rfl;unfold c8;rw[h1];unfold bc aU;have e:∀k,k<5->lO (kl hs ((an ab 5).getD (k+1) 0-1,k+1))=aW ab hs (k+1)++[13,10]:=λk hk=>by
  have:=(h2 (k+1) ⋯).1;obtain⟨d,hd⟩:∃d,(an ab 5).getD (k+1) 0=d+1:=⟨(an ab 5).getD (k+1) 0-1,⋯⟩;unfold lO kl aW;rw[hd,List.replicate_succ];rfl
 have e0:(46::(hs.getD 0 []++[13,10]))=aW ab hs 0++[13,10]:=by unfold aW;rw[d0];rfl
 rw[e0];show _++[lO (kl hs ((an ab 5).getD (0+1) 0-1,0+1)),lO (kl hs ((an ab 5).getD (1+1) 0-1,1+1)),lO (kl hs ((an ab 5).getD (2+1) 0-1,2+1)),lO (kl hs ((an ab 5).getD (3+1) 0-1,3+1)),lO (kl hs ((an ab 5).getD (4+1) 0-1,4+1))].flatten=_;rw[e 0 ⋯,e 1 ⋯,e 2 ⋯,e 3 ⋯,e 4 ⋯]
 rfl
theorem c9(ab:List Nat):∀k,(an ab k).length=k+1
 |0=>rfl
 |k+1=>by show(an ab k++[_]).length=_;rw[List.length_append,c9 ab k];rfl
theorem sj{ab:List Nat}(ht:ab∈trees){j:Nat}(hj:j<6):1<=(an ab 5).getD j 0/\(an ab 5).getD j 0<=6:=by
 have h:=List.all_eq_true.mp lP ab ht;simp only[Bool.and_eq_true,List.all_eq_true,List.mem_range,Nat.ble_eq]at h;exact h.2 j hj
theorem BZ(d:Nat):eZ [46] (d:Int)=List.replicate d 46:=by
 unfold eZ;rw[Int.toNat_natCast]
 induction d with
 |zero=>rfl
 |succ n ih=>rw[List.replicate_succ,List.flatten_cons,ih,List.replicate_succ];rfl
theorem EW {sc sd:Mine.Slot} (hsc:∃v,sc = .val v) (hsd:∃v,sd = .val v) {nums:List Nat} (hn:nums.length=11) {res:Res}
 (h:ex um [] xY 1000 sq 189 (iz.body.drop 11) (aq nW (k9 sc sd (.val (.list (nums.map vN))) (.val (.list ((aH nums 5).map .str))) .un .un .un .un (.val (.list ((fN (aH nums 5)).map vN))) (.val (.list ((aT (ax nums) nums (fN (aH nums 5)) 5).map .str)))
   (.val (.str (c8 (fN (aH nums 5)) (aT (ax nums) nums (fN (aH nums 5)) 5)))) (.val (.list ((an (fN (aH nums 5)) 5).map vN))) .un .un .un .un .un .un .un .un .un .un .un .un .un .un .un .un))=res):
 ex um [] xY 1000 sq 196 (iz.body.drop 4) (aq nW (k9 sc sd (.val (.list (nums.map vN))) (.own ((aH nums 5).map .str)) .un .un .un .un .un .un .un .un .un .un .un .un .un .un .un .un .un .un .un .un .un .un .un .un))=res:=by
 obtain⟨vsc,rfl⟩:=hsc;obtain⟨vsd,rfl⟩:=hsd;have LO:=t7 nums;have ht:=oD nums;have AR:=xN LO;have hL6:=LO.len;have LL:=wO nums;generalize aH nums 5=leads at *;generalize hab:fN leads=ab at *;have habl:ab.length=6:=(dq ht (k:=0) ⋯).2.1;have cb:ab.length<=cap:=by rw[habl];decide
 refine EP (ss':=k9 (.val vsc) (.val vsd) (.val (.list (nums.map vN))) (.val (.list (leads.map .str))) .un .un .un .un .un .un .un .un .un .un .un .un .un .un .un .un .un .un .un .un .un .un .un .un) ∅ ∅ ?_;refine aY 8 ∅ (by decide +kernel) (v := .list (ab.map vN)) (ev_call ∅ ∅ ∅ (vs:=[.list (leads.map .str)]) (by walk_at "el") (bJ (F:=fAbove) rfl AR)) (s := .val (.list (ab.map vN))) ∅ ?_;refine oq (v := .bool ab.isEmpty) false ∅ ∅ (ev_cmp nofun (x := .list (ab.map vN)) (y := .list []) (by walk_at "ee") ∅ vQ) (by rw[show ab.isEmpty=false by induction ab using List.casesOn with|nil=>cases habl|cons a l=>rfl];rfl) ?_
 have HR:=xP hn ht;have HO:=Ap (nums:=nums) LL ht;generalize hls:ax nums=ls at *;refine aY 9 ∅ (by decide +kernel) (v := .list ((aT ls nums ab 5).map .str)) (ev_call ∅ ∅ ∅ (vs:=[.list (nums.map vN), .list (ab.map vN)]) (by walk_at "el") (bJ (F:=fHeads) rfl HR)) (s := .val (.list ((aT ls nums ab 5).map .str))) ∅ ?_;have hpl:=λj (hj:j<6)=>fB (nums:=nums) LL ht hj
 generalize aT ls nums ab 5=hs at *;have MR:=Ah hn ht HO;refine aY 10 ∅ (by decide +kernel) (v := .str (c8 ab hs)) (ev_call ∅ ∅ ∅ (vs:=[.list (nums.map vN), .list (ab.map vN), .list (hs.map .str)]) (by walk_at "el") (bJ (F:=fMail) rfl MR)) (s := .val (.str (c8 ab hs))) ∅ ?_;refine aY 11 ∅ (by decide +kernel) (v := .list [vN 1]) ∅ (s := .own ((an ab (1-1)).map vN)) ∅ ?_;refine iB (λj=>k9 (.val vsc) (.val vsd) (.val (.list (nums.map vN))) (.val (.list (leads.map .str))) .un .un .un .un (.val (.list (ab.map vN))) (.val (.list (hs.map .str))) (.val (.str (c8 ab hs))) (.own ((an ab (j-1)).map vN)) .un .un .un .un .un .un .un .un .un .un .un .un .un .un .un .un) vN 1 5 ∅ ∅ ∅ (λi h1 h2 => ?_) ?_
 ·obtain⟨k,rfl⟩:∃k,i=k+1:=⟨i-1,⋯⟩
  rw[show k+1-1=k by omega,show k+1+1-1=k+1 by omega];obtain⟨t1,_,_,_⟩:=dq ht (show k<5 by omega);have dl:=c9 ab k;have eD:an ab (k+1)=an ab k++[(an ab k).getD (ab.getD (k+1) 0) 0+1]:=rfl;rw[eD];generalize an ab k=D at dl |-;have cD:D.length<=cap:=by rw[dl];unfold cap;omega
  refine⟨k9 (.val vsc) (.val vsd) (.val (.list (nums.map vN))) (.val (.list (leads.map .str))) (.val (vN (k+1))) .un .un .un (.val (.list (ab.map vN))) (.val (.list (hs.map .str))) (.val (.str (c8 ab hs))) (.own (D.map vN)) .un .un .un .un .un .un .un .un .un .un .un .un .un .un .un .un,
   k9 (.val vsc) (.val vsd) (.val (.list (nums.map vN))) (.val (.list (leads.map .str))) (.val (vN (k+1))) .un .un .un (.val (.list (ab.map vN))) (.val (.list (hs.map .str))) (.val (.str (c8 ab hs))) (.own ((D++[D.getD (ab.getD (k+1) 0) 0+1]).map vN)) .un .un .un .un .un .un .un .un .un .un .un .un .un .un .un .un,∅, ?_,∅⟩
  refine(qw 11 (l:=D.map vN) ∅ (by decide +kernel) rfl rfl (by rw[List.length_map];exact cD) (v:=vN (D.getD (ab.getD (k+1) 0) 0+1)) ?_ cV).trans ?_
  ·refine ev_add (x:=vN (D.getD (ab.getD (k+1) 0) 0)) (y:=vN 1) (look_other rfl ?_) ∅ rfl
   refine ah rfl (x := .list (D.map vN)) (y:=vN (ab.getD (k+1) 0)) (by walk_at "lk") ?_ (ty:=0) ∅ (cE cD ⋯);exact ah rfl (x := .list (ab.map vN)) (y:=vN (k+1)) (by walk_at "lk") (by walk_at "ee") (ty:=0) ∅ (cE cb ⋯)
  ·rw[show D.map vN++[vN (D.getD (ab.getD (k+1) 0) 0+1)]=(D++[D.getD (ab.getD (k+1) 0) 0+1]).map vN by simp]
   rfl
 ·have hM:=qF ht hs
  have dle:=λj (hj:j<6)=>sj ht hj
  have dlen:=c9 ab 5;have hmem:∀i,i<6->(aW ab hs i).length<=12:=λi hi=>by
   unfold aW;rw[List.length_append,List.length_replicate];have:=(dle i hi).2;have:=(hpl i hi).1;omega
  have hrows:(((List.range' 0 6).map (aW ab hs)).map (· ++ [13,10]))=(List.range' 0 6).map λi=>aW ab hs i++[13,10]:=by rw[List.map_map];rfl
  rw[hrows]at hM;refine EV (ss':=k9 (.val vsc) (.val vsd) (.val (.list (nums.map vN))) (.val (.list (leads.map .str))) .un .un .un .un (.val (.list (ab.map vN))) (.val (.list (hs.map .str))) (.val (.str (c8 ab hs))) (.val (.list ((an ab 5).map vN))) .un .un .un .un .un .un .un .un .un .un .un .un .un .un .un .un) (v := .bool false) false ∅ ∅ ?_ rfl h;refine ev_cmp nofun (x := .str (c8 ab hs)) (y := .str (c8 ab hs)) (c:=false) (by walk_at "ee") ?_ ?_
  ·rw[hM]
   refine ev_meth rfl nofun rfl (x := .str []) ∅ (vs:=[.list (((List.range' 0 6).map λi=>aW ab hs i++[13,10]).map .str)]) (evL_of ?_ evL_nil) ((wF ?_ (by rw[List.length_map];decide)).trans (by rw[qy]))
   ·rw[List.map_map]
    refine bl vN _ (List.range' 0 6) [.un, .un, .val (.list ((an ab 5).map vN)), .val (.list (hs.map .str))] ∅ ∅ ∅ ∅ nofun λi hi=>⟨[.un, .val (vN i), .val (.list ((an ab 5).map vN)), .val (.list (hs.map .str))],∅, ?_⟩
    have hi:i<6:=by rw[List.mem_range'_1]at hi;omega
    have:=hmem i hi;have d2:=dle i hi;show _=(true,V.str (aW ab hs i++[13,10]));refine ev_add (x := .str (aW ab hs i)) (y := .str [13,10]) (look_other rfl ?_) ∅ (add_str (by show _+2<=1000000;omega));unfold aW at this |-;rw[List.length_append]at this;refine ev_add (x := .str (List.replicate ((an ab 5).getD i 0) 46)) (y := .str (hs.getD i [])) (look_other rfl ?_) ?_ (add_str (by unfold cap;omega))
    ·refine ev_bin nofun (x := .str [46]) (y:=vN ((an ab 5).getD i 0)) ∅ (ah rfl (x := .list ((an ab 5).map vN)) (y:=vN i) (by walk_at "lk") (by walk_at "ee") (ty:=0) ∅ (cE (by rw[dlen];decide) ⋯)) ?_
     show((decide (-1000<=(((an ab 5).getD i 0:Nat):Int))&&decide ((((an ab 5).getD i 0:Nat):Int)<=1000)&&decide (1<=1000),V.str (eZ [46] (((an ab 5).getD i 0:Nat):Int))):R)=_;rw[decide_eq_true ⋯,decide_eq_true ⋯,BZ];rfl
    ·exact ah rfl (x := .list (hs.map .str)) (y:=vN i) (by walk_at "lk") (by walk_at "ee") (ty:=0) ∅ (bp (by rw[HO.len];decide) (by rw[HO.len];omega))
   ·show(((List.range' 0 6).map λi=>aW ab hs i++[13,10]).map List.length).sum+0<=1000000
    have a0:=hmem 0 ⋯;have a1:=hmem 1 ⋯;have a2:=hmem 2 ⋯;have a3:=hmem 3 ⋯;have a4:=hmem 4 ⋯;have a5:=hmem 5 ⋯;show(aW ab hs 0++[13,10]).length+((aW ab hs 1++[13,10]).length+((aW ab hs 2++[13,10]).length+((aW ab hs 3++[13,10]).length+((aW ab hs 4++[13,10]).length+((aW ab hs 5++[13,10]).length+0)))))+0<=1000000;simp only[List.length_append,List.length_cons,List.length_nil]
    omega
  ·show((true, !AF (c8 ab hs) (c8 ab hs)):Bool×Bool)=_
   rw[show AF (c8 ab hs) (c8 ab hs)=true from au.mpr rfl];rfl
theorem x0{l:List V}{k:Nat}(hs:l.length<=cap):eC (.list l) .none (.int (k:Int)) .none=(true, .list (l.take k)):=by
 show((decide (l.length<=cap),V.list (md l none (some (k:Int)))):R)=_;rw[decide_eq_true hs]
 congr 2
 unfold md bound;dsimp only;rw[show decide ((k:Int)<0)=false by simp];simp only[cond_false,Int.toNat_natCast,List.drop_zero,Nat.sub_zero]
 by_cases h:k<=l.length
 ·rw[show Nat.min k l.length=k from Nat.min_eq_left h]
 ·rw[show Nat.min k l.length=l.length from Nat.min_eq_right ⋯,List.take_of_length_le (Nat.le_refl _),List.take_of_length_le ⋯]
theorem ut{l:List V}{k:Nat}(hs:l.length<=cap):eC (.list l) (.int (k:Int)) .none .none=(true, .list (l.drop k)):=by
 show((decide (l.length<=cap),V.list (md l (some (k:Int)) none)):R)=_;rw[decide_eq_true hs]
 congr 2
 unfold md bound;dsimp only;rw[show decide ((k:Int)<0)=false by simp];simp only[cond_false,Int.toNat_natCast]
 by_cases h:k<=l.length
 ·rw[show Nat.min k l.length=k from Nat.min_eq_left h];exact List.take_of_length_le (by simp)
 ·rw[show Nat.min k l.length=l.length from Nat.min_eq_right ⋯,List.drop_eq_nil_of_le (Nat.le_refl _),List.drop_eq_nil_of_le ⋯];simp
theorem Aq{Φ:Fns}{s y:List Nat}(hs:s.length<=cap)(hy:y.isEmpty=false):fg Φ (nm "split") (.str s) [.str y]=(true, .list ((dS s y).map .str)):=by
 have e:fg Φ (nm "split") (.str s) [.str y]=((decide (s.length<=cap) && !y.isEmpty,V.list ((dS s y).map .str)):R):=∅;rw[e,decide_eq_true hs,hy];rfl
theorem Ar{Φ:Fns}{s:List Nat}{c:Nat}(hs:s.length<=cap):fg Φ (nm "count") (.str s) [.str [c]]=(true,vN (s.count c)):=by
 have e:fg Φ (nm "count") (.str s) [.str [c]]=((decide (s.length<=cap) && !([c].isEmpty),V.int (qO s [c])):R):=∅;rw[e,decide_eq_true hs,Ai];rfl
noncomputable def eR(c:Nat):Bool := !(Nat.beq c 46) && !(kR gf (c:Int))
theorem x3{ls:List Nat}(L:dv ls){m:List Bool}(hm:m.length=5){c:Nat}(h:c∈ai ls m):eR c=true:=by
 obtain⟨p,hp,rfl⟩:=iH L hm h;unfold eR;rw[ET L hp,dY (gP (bL L hp _).2.2.2).2.2];rfl
theorem vR{ls nums ab:List Nat}(L:dv ls)(ht:ab∈trees){j:Nat}(hj:j<6):(aW ab (aT ls nums ab 5) j).filter eR=bj ls ab j:=by
 have hm:=(bG ht hj).2;have hrep:∀d,(List.replicate d 46).filter eR=[]:=λd=>by
  rw[List.filter_eq_nil_iff];intro c hc;rw[(List.mem_replicate.mp hc).2];unfold eR;rw[Nat.beq_refl];simp
 have hname:(bj ls ab j).filter eR=bj ls ab j:=List.filter_eq_self.mpr λc hc=>x3 L hm hc
 unfold aW;rw[List.filter_append,hrep,List.nil_append]
 match j,hj with
 |0,_=>rw[lc ls nums ab ht];exact hname
 |k+1,hj=>
  rw[ld ls nums ab ht ⋯];have hh:=mD (nums.getD k 0);generalize tableL.getD (nums.getD k 0/11520%27) 0=hc at hh |-;have hk:eR hc=false:=by
   unfold eR;rw[An hh];simp
  unfold gq;rw[List.filter_append,List.filter_append,show[hc].filter eR=[]by simp[hk],List.append_nil,<-List.filter_append,List.take_append_drop];exact hname
theorem x4{ls nums ab:List Nat}(L:dv ls)(ht:ab∈trees){j:Nat}(hj:j<6):(aW ab (aT ls nums ab 5) j).count 46=(an ab 5).getD j 0:=by
 unfold aW;rw[List.count_append,List.count_replicate_self,List.count_eq_zero.mpr,Nat.add_zero];intro hm;exact(gP ((fB L ht hj).2 _ hm)).2.2 rfl
theorem uu{f:Nat->Nat}{l:List Nat}:∀n,l.length=n->(∀i,i<n->f i=l.getD i 0)->(List.range' 0 n).map f=l:=by
 intro n hl h;apply List.ext_getElem?;intro i;rw[List.getElem?_map]
 by_cases hi:i<n
 ·rw[List.getElem?_range' hi]
  have:=h i hi;rw[List.getD_eq_getElem?_getD,List.getElem?_eq_getElem ⋯]at this;rw[List.getElem?_eq_getElem ⋯]
  simpa using this
 ·rw[List.getElem?_eq_none (by simp;omega),List.getElem?_eq_none ⋯];rfl
theorem x5{ls:List Nat}(L:dv ls){m:List Bool}(hm:m.length=5):(ai ls m).map (lH rowsL)=ls.map λc=>[c]:=by
 rw[oR L hm,List.map_map];have e:five.map (lH rowsL∘λp=>ch ls p (m.getD p false))=five.map λp=>[ls.getD p 0]:=List.map_congr_left λp hp=>BY L (by revert p;decide) _
 rw[e]
 match ls,L.len with
 |[a,b,c,d,e],_=>rfl
noncomputable def aV(ls ab:List Nat):List (List Nat):=(List.range' 0 6).map (bj ls ab)
theorem EX {A B C:V} {v3:V} {nums ab ls:List Nat} (ht:ab∈trees) (L:dv ls) {res:Res}
 (h:ex um [] xY 1000 sq 185 (iz.body.drop 15) (aq nW (k9 (.val A) (.val B) (.val C) (.val v3) .un .un .un .un (.val (.list (ab.map vN))) (.val (.list ((aT ls nums ab 5).map .str))) (.val (.str (c8 ab (aT ls nums ab 5)))) (.val (.list ((an ab 5).map vN)))
   (.val (.list (((List.range' 0 6).map (aW ab (aT ls nums ab 5))).map .str))) (.val (.list ((an ab 5).map vN))) (.val (.list ((aV ls ab).map .str))) .un .un .un .un .un .un .un .un .un .un .un .un .un))=res):
 ex um [] xY 1000 sq 189 (iz.body.drop 11) (aq nW (k9 (.val A) (.val B) (.val C) (.val v3) .un .un .un .un (.val (.list (ab.map vN))) (.val (.list ((aT ls nums ab 5).map .str))) (.val (.str (c8 ab (aT ls nums ab 5)))) (.val (.list ((an ab 5).map vN))) .un .un .un .un .un .un .un .un .un .un .un .un .un .un .un .un))=res:=by
 have hl6:=gL ls nums ab 5;have hpl:=λj (hj:j<6)=>fB (nums:=nums) L ht hj
 have dle:=λj (hj:j<6)=>sj ht hj
 have hM:=qF ht (aT ls nums ab 5);have hF:=λj (hj:j<6)=>vR (nums:=nums) L ht hj
 have hC:=λj (hj:j<6)=>x4 (nums:=nums) L ht hj
 have h0:=lc ls nums ab ht;generalize aT ls nums ab 5=hs at *;have hrl:∀i,i<6->(aW ab hs i).length<=12:=λi hi=>by
  unfold aW;rw[List.length_append,List.length_replicate];have:=(dle i hi).2;have:=(hpl i hi).1;omega
 have h13:∀r∈(List.range' 0 6).map (aW ab hs),13∉r:=λr hr=>by
  obtain⟨i,hi,rfl⟩:=List.mem_map.mp hr;have hi:i<6:=by rw[List.mem_range'_1]at hi;omega
  intro hm;unfold aW at hm
  rcases List.mem_append.mp hm with hm|hm
  ·have:=(List.mem_replicate.mp hm).2;omega
  ·exact(gP ((hpl i hi).2 _ hm)).2.1 rfl
 have hsp:dS (c8 ab hs) [13,10]=(List.range' 0 6).map (aW ab hs)++[[]]:=by
  have:=vK (rows:=(List.range' 0 6).map (aW ab hs)) (last:=[]) h13 (by simp) (by simp);rw[List.append_nil,<-hM]at this;exact this
 have hml:(c8 ab hs).length<=84:=by
  rw[hM];have a0:=hrl 0 ⋯;have a1:=hrl 1 ⋯;have a2:=hrl 2 ⋯;have a3:=hrl 3 ⋯;have a4:=hrl 4 ⋯;have a5:=hrl 5 ⋯;show((aW ab hs 0++[13,10])++((aW ab hs 1++[13,10])++((aW ab hs 2++[13,10])++((aW ab hs 3++[13,10])++((aW ab hs 4++[13,10])++((aW ab hs 5++[13,10])++[])))))).length<=84;simp only[List.length_append,List.length_cons,List.length_nil]
  omega
 clear hM;generalize c8 ab hs=ml at *;have cml:ml.length<=cap:=by unfold cap;omega
 have crow:((List.range' 0 6).map (aW ab hs)).length=6:=by simp
 refine aY 12 ∅ (by decide +kernel) (v := .list (((List.range' 0 6).map (aW ab hs)).map .str)) ?_ (s := .val (.list (((List.range' 0 6).map (aW ab hs)).map .str))) ∅ ?_
 ·refine aE (x := .list (((List.range' 0 6).map (aW ab hs)++[[]]).map .str)) (a := .none) (b:=vN 6) (c := .none) ?_ rfl (ck ∅) rfl ((x0 (by rw[List.length_map,List.length_append,crow];decide)).trans ?_)
  ·rw[<-hsp]
   exact ev_meth rfl nofun rfl (x := .str ml) (by walk_at "ee") (vs:=[.str [13,10]]) (evL_of ∅ evL_nil) (Aq cml rfl)
  ·rfl
 refine aY 13 ∅ (by decide +kernel) (v := .list ((an ab 5).map vN)) ?_ (s := .val (.list ((an ab 5).map vN))) ∅ ?_
 ·have e:(an ab 5).map vN=((List.range' 0 6).map (aW ab hs)).map λr=>vN (r.count 46):=by
   rw[<-uu (f:=λi=>(aW ab hs i).count 46) 6 (c9 ab 5) hC,List.map_map,List.map_map];rfl
  rw[e];refine bl V.str _ _ [.un, .un] ∅ ∅ (cY ∅ (v := .list (((List.range' 0 6).map (aW ab hs)).map .str)) (by walk_at "ee") (dX (by rw[List.length_map,crow];decide)) (.inl rfl)) ∅ (by rw[crow];decide) λr hr=>⟨[.un, .val (.str r)],∅, ?_⟩
  obtain⟨i,hi,rfl⟩:=List.mem_map.mp hr;have hi:i<6:=by rw[List.mem_range'_1]at hi;omega
  have:=hrl i hi;exact ev_meth rfl nofun rfl (x := .str (aW ab hs i)) (by walk_at "ee") (vs:=[.str [46]]) (evL_of ∅ evL_nil) (Ar (by unfold cap;omega))
 refine aY 14 ∅ (by decide +kernel) (v := .list ((aV ls ab).map .str)) ?_ (s := .val (.list ((aV ls ab).map .str))) ∅ ?_
 ·have e:(aV ls ab).map V.str=((List.range' 0 6).map (aW ab hs)).map λr=>V.str (r.filter eR):=by
   unfold aV;rw[List.map_map,List.map_map];refine List.map_congr_left λi hi => ?_
   have hi:i<6:=by rw[List.mem_range'_1]at hi;omega
   show V.str (bj ls ab i)=V.str ((aW ab hs i).filter eR);rw[hF i hi]
  rw[e];refine bl V.str _ _ [.un, .un] ∅ ∅ (cY ∅ (v := .list (((List.range' 0 6).map (aW ab hs)).map .str)) (by walk_at "ee") (dX (by rw[List.length_map,crow];decide)) (.inl rfl)) ∅ (by rw[crow];decide) λr hr=>⟨[.un, .val (.str r)],∅, ?_⟩
  obtain⟨i,hi,rfl⟩:=List.mem_map.mp hr;have hi:i<6:=by rw[List.mem_range'_1]at hi;omega
  have hr12:=hrl i hi;generalize aW ab hs i=r at hr12 |-;have hfl:(r.filter eR).length<=r.length:=List.length_filter_le _ _;refine ev_meth rfl nofun rfl (x := .str []) ∅ (vs:=[.list (((r.filter eR).map λc=>[c]).map V.str)]) (evL_of ?_ evL_nil) (kW (by unfold cap;omega));rw[List.map_map];refine j8 (λc=>V.str [c]) eR (V.str∘λc=>[c]) r [.un, .un, .un] ∅ ∅ (cY ∅ (v := .str r) (by walk_at "ee") (kY (by unfold cap;omega)) (.inl rfl)) ∅ (by unfold cap;omega) λc hc=>⟨[.un, .val (.str [c]), .un], .bool (eR c),∅, ?_,rfl,λ_=>by walk_at "ee"⟩
  refine fM ?_;unfold eR;have hne:oZ .NotEq (.str [c]) (.str [46])=(true, !(Nat.beq c 46)):=by
   show((true, !(Nat.beq c 46&&true)):Bool×Bool)=_;rw[Bool.and_true]
  cases hd:Nat.beq c 46 with
  |true=>exact f9 (x := .bool false) (ev_cmp nofun (x := .str [c]) (y := .str [46]) (by walk_at "ee") ∅ (by rw[hne,hd];rfl)) rfl
  |false=>
   refine eJ (x := .bool true) (ev_cmp nofun (x := .str [c]) (y := .str [46]) (by walk_at "ee") ∅ (by rw[hne,hd];rfl)) rfl (iV ?_);refine ev_cmp nofun (x := .bool (kR gf (c:Int))) (y := .bool false) ?_ ∅ ?_
   ·exact ev_call ∅ ∅ ∅ (vs:=[.str [c]]) (by walk_at "el") (bJ (F:=fB1r) rfl rfl)
   ·show((true,kR gf (c:Int)==false):Bool×Bool)=_
    cases kR gf (c:Int)<;>rfl
 have n6:(aV ls ab).length=6:=by unfold aV;simp
 have hls:bj ls ab 0=ls:=by
  unfold bj;rw[(bG ht (j:=0) ⋯).1];exact iF ls L.len
 refine oq (v := .bool false) false ∅ ∅ ?_ rfl h;refine ev_cmp nofun (x := .list []) (y := .list []) (c:=false) ?_ ∅ ∅;have efin:(true,V.list [])=((true,V.list (((aV ls ab).filter λ_=>false).map V.str)):R):=by simp
 rw[efin];refine j8 V.str (λ_=>false) V.str (aV ls ab) [.un, .un, .val (.list (hs.map .str))] ∅ ∅ (cY ∅ (v := .list ((aV ls ab).map .str)) (by walk_at "ee") (dX (by rw[List.length_map,n6];decide)) (.inl rfl)) ∅ (by rw[n6];decide) λy hy=>⟨[.un, .val (.str y), .val (.list (hs.map .str))], .bool false,∅, ?_,rfl,λhf=>by cases hf⟩
 obtain⟨i,hi,rfl⟩:=List.mem_map.mp hy;have hi:i<6:=by rw[List.mem_range'_1]at hi;omega
 have hm:=(bG ht hi).2;have n5:(bj ls ab i).length=5:=dj L.len hm;refine ev_cmp nofun (x := .str ls) (y := .str ls) (c:=false) ?_ ?_ ?_
 ·refine ev_meth rfl nofun rfl (x := .str []) ∅ (vs:=[.list ((ls.map λc=>[c]).map V.str)]) (evL_of ?_ evL_nil) (kW (by rw[L.len];decide))
  rw[<-x5 L hm,List.map_map];refine bl (λc=>V.str [c]) (V.str∘lH rowsL) (bj ls ab i) [.un, .un, .un] ∅ ∅ (cY ∅ (v := .str (bj ls ab i)) (by walk_at "ee") (kY (by rw[n5];decide)) (.inl rfl)) ∅ (by rw[n5];decide) λc hc=>⟨[.un, .val (.str [c]), .un],∅, ?_⟩
  exact ev_call ∅ ∅ ∅ (vs:=[.str [c]]) (by walk_at "el") (bJ (F:=fB3r) rfl (Du rowsL c))
 ·refine(ah rfl (x := .list (hs.map .str)) (y:=vN 0) (by walk_at "lk") ∅ (ty:=0) ∅ (bp (by rw[hl6];decide) (by rw[hl6];decide))).trans ?_
  rw[h0,hls]
 ·show((true, !AF ls ls):Bool×Bool)=_
  rw[show AF ls ls=true from au.mpr rfl];rfl
noncomputable def aj(ab:List Nat)(i j:Nat):Nat:=fP (gY ((aI ab 5).getD i []) ((aI ab 5).getD j []))
noncomputable def FW(n:Nat):V->Bool
 | .int i=>decide (i=n)
 |_=>false
noncomputable def DM(r:R)(n:Nat):Bool:=r.1&&FW n r.2
theorem B0:(trees.all λab=>(List.range 6).all λi=>(List.range i).all λj=>DM (fDue [.list ((an ab 5).map vN),vN i,vN j]) (aj ab i j))=true:=by decide +kernel
noncomputable def sk(ab:List Nat)(i:Nat):Nat:=((List.range' 0 6).map λj=>aj ab i j).sum
noncomputable def jF(ab:List Nat)(i:Nat):List Nat:=((List.range' (i+1) (6-(i+1))).filter λk=>Nat.ble ((an ab 5).getD k 0) ((an ab 5).getD i 0))++[6]
theorem vU:(trees.all λab=>(List.range 6).all λi=>(List.range 6).all λj=>Nat.beq (aj ab i j) (aj ab j i)&&(Nat.beq i j==Nat.beq (aj ab i j) 0)&&Nat.ble (aj ab i j) 5 &&
 (List.range 6).all λk=>Nat.ble (aj ab i j) (aj ab i k+aj ab k j))=true:=by decide +kernel
theorem vV:(trees.all λab=>(List.range 6).all λx=>(List.range (aj ab 0 x+1)).all λd=>(List.range 6).any λk=>Nat.beq (aj ab 0 k) d&&Nat.beq (aj ab k x+d) (aj ab 0 x)&&(List.range 6).all λj=>Nat.beq (aj ab k j+d) (aj ab 0 j)||Nat.beq (aj ab j x) (aj ab j k+aj ab k x))=true:=by decide +kernel
theorem x6:(trees.all λab=>(List.range' 1 5).all λi=>decide ((sk ab i:Int)-sk ab (ab.getD i 0)=6-2*(((jF ab i).getD 0 0:Nat)-(i:Int))))=true:=by decide +kernel
theorem x7 {Φ:Fns} {τ:Tau} {N:Nat} {κ:List (Str×NameKind)} {p:Pos} {α β:Type} (val:α->V) (val2:β->V) (inner:α->List β) (c:α->β->Bool) (g:α->β->V) (l:List α) {ρ:Rho} {elt t it t' it' cnd:Expr} {scope:Scope} (sc:List Mine.Slot) (h1:d5 κ scope=true) (h2:jK scope.names t=true) (h3:jK scope.names t'=true) (h4:(aC t').all (λx => !jI x (aC t))=true)
 (hi:aR κ (ev Φ τ N κ ρ) t it=(true,l.map val)) (hc:bA scope ρ=aq (dR scope) sc) (hl:(l.flatMap λa=>((inner a).filter (c a)).map (g a)).length<=cap)
 (hb:∀a∈l,∃ss1,bh t (val a) (aq (dR scope) sc)=(true,aq (dR scope) ss1)/\aR scope.names (ev Φ τ N scope.names (aq (dR scope) ss1)) t' it'=(true,(inner a).map val2) /\
   ∀b∈inner a,∃ss2 w,bh t' (val2 b) (aq (dR scope) ss1)=(true,aq (dR scope) ss2)/\ev Φ τ N scope.names (aq (dR scope) ss2) cnd=(true,w)/\aa w=(true,c a b)/\(c a b=true->ev Φ τ N scope.names (aq (dR scope) ss2) elt=(true,g a b))):
 ev Φ τ (N+1) κ ρ (.ListComp elt [⟨t,it,[],0⟩,⟨t',it',[cnd],0⟩] scope p)=(true, .list (l.flatMap λa=>((inner a).filter (c a)).map (g a))):=by
 have key:dC (fE (ev Φ τ N) elt t t' it' [cnd] scope (bA scope ρ)) (l.map val)=(true,l.flatMap λa=>((inner a).filter (c a)).map (g a)):=by
  rw[hc];clear hi hl
  induction l with
  |nil=>rfl
  |cons a l ih=>
   obtain⟨ss1,e1,e2,e3⟩:=hb a (List.mem_cons_self ..);have ih:=ih λx hx=>hb x (List.mem_cons_of_mem _ hx)
   have e4:fE (ev Φ τ N) elt t t' it' [cnd] scope (aq (dR scope) sc) (val a)=(true,(true,((inner a).filter (c a)).map (g a))):=by
    unfold fE;dsimp only;rw[e1];dsimp only;rw[e2];dsimp only;rw[gJ val2 (c a) (g a) (inner a) λb hbm => ?_]
    ·rfl
    ·obtain⟨ss2,w,f1,f2,f3,f4⟩:=e3 b hbm
     have ts:eE (ev Φ τ N scope.names (aq (dR scope) ss2)) [cnd]=(true,c a b):=by
      show((ev Φ τ N scope.names (aq (dR scope) ss2) cnd).1&&(aa (ev Φ τ N scope.names (aq (dR scope) ss2) cnd).2).1&&(bif (aa (ev Φ τ N scope.names (aq (dR scope) ss2) cnd).2).2 then true else true),(aa (ev Φ τ N scope.names (aq (dR scope) ss2) cnd).2).2&&true)=_;rw[f2,f3];cases c a b<;>rfl
     unfold cW;dsimp only;rw[f1];dsimp only;rw[ts];exact⟨rfl,rfl,f4⟩
   rw[List.map_cons];rw[AK,e4,ih]
   rfl
 show(let xs:=aR κ (ev Φ τ N κ ρ) t it;let r:=dC (fE (ev Φ τ N) elt t t' it' [cnd] scope (bA scope ρ)) xs.2;((d5 κ scope&&jK scope.names t&&jK scope.names t'&&(aC t').all (λx => !jI x (aC t))&&xs.1&&r.1&&decide (r.2.length<=cap), .list r.2):R))=_;rw[hi];dsimp only;rw[key,h1,h2,h3,h4];dsimp only;rw[decide_eq_true hl]
 rfl
theorem uv(f:Nat->Int):∀n,∃x,x<n+1/\∀j,j<n+1->f j<=f x
 |0=>⟨0,⋯,λj hj=>by rw[show j=0 by omega];exact Int.le_refl _⟩
 |n+1=>by
  obtain⟨x,hx,h⟩:=uv f n
  by_cases hc:f (n+1)<=f x
  ·refine⟨x,⋯,λj hj => ?_⟩
   by_cases e:j=n+1
   ·rw[e];exact hc
   ·exact h j ⋯
  ·refine⟨n+1,⋯,λj hj => ?_⟩
   by_cases e:j=n+1
   ·rw[e];exact Int.le_refl _
   ·have:=h j ⋯;omega
theorem ds{ab:List Nat}(ht:ab∈trees){i j:Nat}(hi:i<6)(hj:j<6):aj ab i j=aj ab j i/\(i=j↔aj ab i j=0)/\aj ab i j<=5/\∀k,k<6->aj ab i j<=aj ab i k+aj ab k j:=by
 have h:=List.all_eq_true.mp (List.all_eq_true.mp (List.all_eq_true.mp vU ab ht) i (List.mem_range.mpr hi)) j (List.mem_range.mpr hj);simp only[Bool.and_eq_true,Nat.beq_eq,beq_iff_eq,Nat.ble_eq,List.all_eq_true,List.mem_range]at h;refine⟨h.1.1.1, ?_,h.1.2,h.2⟩
 constructor
 ·intro e
  have e2:=h.1.1.2;rw[e,Nat.beq_refl]at e2;rw[e];exact Nat.eq_of_beq_eq_true e2.symm
 ·intro e
  have e2:=h.1.1.2;rw[e,Nat.beq_refl]at e2;exact Nat.eq_of_beq_eq_true e2
theorem EY{ab:List Nat}(ht:ab∈trees)(w:Nat->Nat):(∃k,k<6/\∀i,i<6->aj ab k i<=w i) ↔ ∀i,i<6->∀j,j<i->aj ab i j<=w i+w j:=by
 constructor
 ·rintro⟨k,hk,h⟩ i hi j hj
  have a:=(ds ht hi (show j<6 by omega)).2.2.2 k hk;have b:=(ds ht hi hk).1;have:=h i hi;have:=h j ⋯
  omega
 ·intro h
  obtain⟨x,hx,hmax⟩:=uv (λx=>(aj ab 0 x:Int)-w x) 5
  by_cases hM:(aj ab 0 x:Int)-w x<=0
  ·exact⟨0,⋯,λi hi=>by have:=hmax i hi;omega⟩
  ·obtain⟨d,hd⟩:∃d:Nat,(d:Int)=(aj ab 0 x:Int)-w x:=⟨((aj ab 0 x:Int)-w x).toNat,⋯⟩
   have G:=List.all_eq_true.mp (List.all_eq_true.mp (List.all_eq_true.mp vV ab ht) x (List.mem_range.mpr hx)) d (List.mem_range.mpr ⋯);obtain⟨k,hk,hg⟩:=List.any_eq_true.mp G;have hk:=List.mem_range.mp hk;simp only[Bool.and_eq_true,Nat.beq_eq,List.all_eq_true,List.mem_range,Bool.or_eq_true]at hg;obtain⟨⟨g1,g2⟩,g3⟩:=hg;refine⟨k,hk,λj hj => ?_⟩
   rcases g3 j hj with e|e
   ·have:=hmax j hj;omega
   ·have s:=(ds ht hj hk).1
    have sx:=(ds ht hj hx).1
    by_cases hjx:j=x
    ·subst hjx;omega
    ·have:aj ab j x<=w j+w x:=by
      rcases Nat.lt_or_ge x j with hl|hl
      ·exact h j hj x hl
      ·have:=h x hx j ⋯;omega
     omega
theorem uw(c:Int):∀(l:List Int) (x:Int),l.foldl (λa b=>bif decide (a<b)then b else a) x<=c↔x<=c/\∀y∈l,y<=c
 |[],x=>by simp
 |b::l,x=>by
  rw[List.foldl_cons,uw c l];have:(bif decide (x<b)then b else x)<=c↔x<=c/\b<=c:=by
   by_cases h:x<b
   ·rw[decide_eq_true h];show b<=c↔_;omega
   ·rw[decide_eq_false h];show x<=c↔_;omega
  rw[this];simp only[List.mem_cons,forall_eq_or_imp];exact and_assoc
theorem wP{l:List Int}{c:Int}(h:l≠[]):uG l<=c ↔ ∀y∈l,y<=c:=by
 induction l using List.casesOn with
 |nil=>exact absurd rfl h
 |cons x l=>
  show l.foldl _ x<=c↔_;rw[uw c l x];simp
theorem As{l:List Int}(h:l≠[])(hl:l.length<=cap):dA (nm "max") [.list (l.map .int)]=(true, .int (uG l)):=by
 show(((l.map V.int).all mK && !(l.map V.int).isEmpty&&decide ((l.map V.int).length<=cap),V.int (uG ((l.map V.int).map getI))):R)=_;rw[show(l.map V.int).map getI=l by rw[List.map_map];exact List.map_id l,List.length_map,decide_eq_true hl,show(l.map V.int).all mK=true by rw[List.all_map];exact List.all_eq_true.mpr λ_ _=>rfl]
 induction l using List.casesOn with
 |nil=>exact absurd rfl h
 |cons x l=>rfl
theorem B1(a b:Nat):dA (nm "max") [vN a,vN b]=(true,vN (Nat.max a b)):=by
 show((true,V.int (bif decide ((a:Int)<(b:Int))then(b:Int)else(a:Int))):R)=(true,V.int ((Nat.max a b:Nat):Int))
 congr 2
 by_cases h:a<b
 ·rw[decide_eq_true (show(a:Int)<(b:Int)by omega),show Nat.max a b=b from Nat.max_eq_right ⋯];rfl
 ·rw[decide_eq_false (show ¬(a:Int)<(b:Int)by omega),show Nat.max a b=a from Nat.max_eq_left ⋯];rfl
theorem B2(a b:Nat):dA (nm "min") [vN a,vN b]=(true,vN (Nat.min a b)):=by
 show((true,V.int (bif decide ((b:Int)<(a:Int))then(b:Int)else(a:Int))):R)=(true,V.int ((Nat.min a b:Nat):Int))
 congr 2
 by_cases h:b<a
 ·rw[decide_eq_true (show(b:Int)<(a:Int)by omega),show Nat.min a b=b from Nat.min_eq_right ⋯];rfl
 ·rw[decide_eq_false (show ¬(b:Int)<(a:Int)by omega),show Nat.min a b=a from Nat.min_eq_left ⋯];rfl
theorem EZ(a b:Nat):oZ .Eq (vN a) (vN b)=(true,Nat.beq a b):=by
 show((true,decide ((a:Int)=(b:Int))):Bool×Bool)=_
 congr 1
 cases e:Nat.beq a b with
 |true=>exact decide_eq_true (by rw[Nat.eq_of_beq_eq_true e])
 |false=>have:=Nat.ne_of_beq_eq_false e;exact decide_eq_false ⋯
noncomputable def bq(n:Nat)(len:Nat->Nat)(f:Nat->Nat->Nat):V := .list ((List.range' 0 n).map λi => .list ((List.range' 0 (len i)).map λj=>vN (f i j)))
theorem gm{n:Nat}{len:Nat->Nat}{f:Nat->Nat->Nat}{i:Nat}(hn:n<=100)(hi:i<n):gV 0 (bq n len f) (vN i)=(true, .list ((List.range' 0 (len i)).map λj=>vN (f i j))):=by
 refine cZ (by simp[cap];omega) (by simp;exact hi) ?_;rw[List.getD_eq_getElem?_getD,List.getElem?_map,List.getElem?_range' hi];simp
theorem iI{n:Nat}{f:Nat->Nat}{j:Nat}(hn:n<=100)(hj:j<n):gV 0 (.list ((List.range' 0 n).map λj=>vN (f j))) (vN j)=(true,vN (f j)):=by
 refine cZ (by simp[cap];omega) (by simp;exact hj) ?_;rw[List.getD_eq_getElem?_getD,List.getElem?_map,List.getElem?_range' hj];simp
noncomputable def ko(nums:List Nat)(k:Nat):Nat:=nums.getD (5+k) 0%4
theorem kq(ls ab:List Nat){i:Nat}(hi:i<6):(aV ls ab).getD i []=bj ls ab i:=by
 unfold aV;rw[List.getD_eq_getElem?_getD,List.getElem?_map,List.getElem?_range' hi];simp
theorem lf(ls ab:List Nat):(aV ls ab).length=6:=by unfold aV;simp
theorem DN{ab:List Nat}(ht:ab∈trees){i j:Nat}(hi:i<6)(hj:j<i):fDue [.list ((an ab 5).map vN),vN i,vN j]=(true,vN (aj ab i j)):=by
 have h:=List.all_eq_true.mp (List.all_eq_true.mp (List.all_eq_true.mp B0 ab ht) i (List.mem_range.mpr hi)) j (List.mem_range.mpr hj);have h:=aG h;refine Prod.ext h.1 (?_ : _=vN _);have h:=h.2;generalize (fDue [.list ((an ab 5).map vN),vN i,vN j]).2=v at h |-
 induction v using V.casesOn with
 |int n=>rw[of_decide_eq_true (show decide (n=_)=true from h)];rfl
 |_=>exact ad h
theorem DO{ab ls:List Nat}(ht:ab∈trees)(L:dv ls){i j:Nat}(hi:i<6)(hj:j<i){q:Int}(hq:q=aj ab i j\/q=(aj ab i j:Int)-1):eu (bj ls ab i) (bj ls ab j) q=aj ab i j:=by
 have hd:aj ab i j≠0:=λe=>by have:=(ds ht hi (show j<6 by omega)).2.1.mpr e;omega
 have:=xU L (bG ht hi).2 (bG ht (show j<6 by omega)).2 hd
 rcases hq with rfl|rfl
 ·exact this.1
 ·exact this.2
theorem gn{ab ls:List Nat}(ht:ab∈trees)(L:dv ls){i:Nat}(hi:i<6):(bj ls ab i).length=5:=dj L.len (bG ht hi).2
theorem d7{Φ:Fns}{τ:Tau}{N:Nat}{κ:List (Str×NameKind)}{ρ:Rho}{t:Expr}{as:List Expr}{p q:Pos}{k:Nat}(hg:aO (kd κ (nm "range"))=true)(ht:dg t=true)(ha:dz (ev Φ τ N κ ρ) as=(true,[vN k]))(hk:k<=10000):aR κ (ev Φ τ N κ ρ) t (.Call (.Name "range" p) as [] q)=(true,(List.range' 0 k).map vN):=
 fw hg ht ha (fv hk)
theorem E1 {A B v3 h m dp rw:V} {nums ab ls:List Nat} (hn:nums.length=11) (ht:ab∈trees) (L:dv ls) {res:Res}
 (hr:ex um [] xY 1000 sq 181 (iz.body.drop 19) (aq nW (k9 (.val A) (.val B) (.val (.list (nums.map vN))) (.val v3) .un .un .un .un (.val (.list (ab.map vN))) (.val h) (.val m) (.val dp) (.val rw) (.val (.list ((an ab 5).map vN))) (.val (.list ((aV ls ab).map .str)))
   (.val (bq 6 (λi=>i) (aj ab))) (.val (bq 6 (λi=>i) (aj ab))) (.val (bq 6 (λ_=>6) (aj ab))) (.val (.list ((List.range' 0 6).map λk=>vN (ko nums k)))) .un .un .un .un .un .un .un .un .un))=res):
 ex um [] xY 1000 sq 185 (iz.body.drop 15) (aq nW (k9 (.val A) (.val B) (.val (.list (nums.map vN))) (.val v3) .un .un .un .un (.val (.list (ab.map vN))) (.val h) (.val m) (.val dp) (.val rw) (.val (.list ((an ab 5).map vN))) (.val (.list ((aV ls ab).map .str))) .un .un .un .un .un .un .un .un .un .un .un .un .un))=res:=by
 have n6:=lf ls ab;have cn:nums.length<=cap:=by rw[hn];decide
 refine aY 15 ∅ (by decide +kernel) (v:=bq 6 (λi=>i) (aj ab)) ?_ (s := .val (bq 6 (λi=>i) (aj ab))) ∅ ?_
 ·refine bl vN (λi => .list ((List.range' 0 i).map λj=>vN (aj ab i j))) (List.range' 0 6) [.un, .un, .un, .val (.list ((an ab 5).map vN))] ∅ ∅ (d7 ∅ rfl ∅ nofun) ∅ nofun λi hi=>⟨[.un, .val (vN i), .un, .val (.list ((an ab 5).map vN))],∅, ?_⟩
  have hi:i<6:=by rw[List.mem_range'_1]at hi;omega
  refine bl vN _ (List.range' 0 i) [.un, .un, .un, .val (.list ((an ab 5).map vN)), .val (vN i)] ∅ ∅ (d7 ∅ rfl (by walk_at "el") ⋯) ∅ (by simp[cap];omega) λj hj=>⟨[.un, .val (vN j), .un, .val (.list ((an ab 5).map vN)), .val (vN i)],∅, ?_⟩
  have hj:j<i:=by rw[List.mem_range'_1]at hj;omega
  exact ev_call ∅ ∅ ∅ (vs:=[.list ((an ab 5).map vN),vN i,vN j]) (by walk_at "el") (bJ (F:=fDue) rfl (DN ht hi hj))
 refine aY 16 ∅ (by decide +kernel) (v:=bq 6 (λi=>i) (aj ab)) ?_ (s := .val (bq 6 (λi=>i) (aj ab))) ∅ ?_
 ·obtain⟨du,hdu⟩:∃du,du=bq 6 (λi=>i) (aj ab):=⟨_,rfl⟩
  show ev _ _ _ _ (aq nW (k9 (.val A) (.val B) (.val (.list (nums.map vN))) (.val v3) .un .un .un .un (.val (.list (ab.map vN))) (.val h) (.val m) (.val dp) (.val rw) (.val (.list ((an ab 5).map vN))) (.val (.list ((aV ls ab).map .str))) (.val (bq 6 (λi=>i) (aj ab))) .un .un .un .un .un .un .un .un .un .un .un .un)) _=_;rw[<-hdu];refine Eq.trans (b:=(true,V.list ((List.range' 0 6).map λi => .list ((List.range' 0 i).map λj=>vN (aj ab i j))))) ?_ (by rw[hdu];rfl);refine bl vN (λi => .list ((List.range' 0 i).map λj=>vN (aj ab i j))) (List.range' 0 6) [.un, .un, .un, .val du, .val (.list ((aV ls ab).map .str))] ∅ ∅ (d7 ∅ rfl ∅ nofun) ∅ nofun λi hi=>⟨[.un, .val (vN i), .un, .val du, .val (.list ((aV ls ab).map .str))],∅, ?_⟩
  have hi:i<6:=by rw[List.mem_range'_1]at hi;omega
  refine bl vN _ (List.range' 0 i) [.un, .un, .un, .val du, .val (vN i), .val (.list ((aV ls ab).map .str))] ∅ ∅ (d7 ∅ rfl (by walk_at "el") ⋯) ∅ (by simp[cap];omega) λj hj=>⟨[.un, .val (vN j), .un, .val du, .val (vN i), .val (.list ((aV ls ab).map .str))],∅, ?_⟩
  have hj:j<i:=by rw[List.mem_range'_1]at hj;omega
  have l1:=gn ht L hi;have l2:=gn ht L (show j<6 by omega);have hq:((aj ab i j:Int)-((i+j)%2:Nat)=aj ab i j)\/((aj ab i j:Int)-((i+j)%2:Nat)=(aj ab i j:Int)-1):=⋯;refine ev_call ∅ ∅ ∅ (vs:=[.str (bj ls ab i), .str (bj ls ab j), .int ((aj ab i j:Int)-((i+j)%2:Nat))]) (evL_of ?_ (evL_of ?_ (evL_of ?_ evL_nil))) (bJ (F:=fLev) rfl ((rX _ _ _ ⋯ ⋯).trans (by rw[DO ht L hi hj hq];rfl)))
  ·rw[<-kq ls ab hi]
   exact ah rfl (x := .list ((aV ls ab).map .str)) (y:=vN i) (by walk_at "lk") (by walk_at "ee") (ty:=0) ∅ (bp (by rw[n6];decide) (by rw[n6];exact hi))
  ·rw[<-kq ls ab (show j<6 by omega)]
   exact ah rfl (x := .list ((aV ls ab).map .str)) (y:=vN j) (by walk_at "lk") (by walk_at "ee") (ty:=0) ∅ (bp (by rw[n6];decide) (by rw[n6];omega))
  ·refine ev_bin nofun (x:=vN (aj ab i j)) (y:=vN ((i+j)%2)) ?_ ?_ rfl
   ·refine ah rfl (x := .list ((List.range' 0 i).map λj=>vN (aj ab i j))) (y:=vN j) (look_other rfl ?_) (by walk_at "ee") (ty:=0) ∅ (iI ⋯ hj)
    refine ah rfl (x:=du) (y:=vN i) (by walk_at "lk") (by walk_at "ee") (ty:=0) ∅ ?_;rw[hdu];exact gm nofun hi
   ·exact ev_bin nofun (x:=vN (i+j)) (y:=vN 2) (ev_add (x:=vN i) (y:=vN j) (by walk_at "lk") (by walk_at "ee") rfl) ∅ (cS nofun)
 refine aY 17 ∅ (by decide +kernel) (v:=bq 6 (λ_=>6) (aj ab)) ?_ (s := .val (bq 6 (λ_=>6) (aj ab))) ∅ ?_
 ·obtain⟨du,hdu⟩:∃du,du=bq 6 (λi=>i) (aj ab):=⟨_,rfl⟩
  show ev _ _ _ _ (aq nW (k9 (.val A) (.val B) (.val (.list (nums.map vN))) (.val v3) .un .un .un .un (.val (.list (ab.map vN))) (.val h) (.val m) (.val dp) (.val rw) (.val (.list ((an ab 5).map vN))) (.val (.list ((aV ls ab).map .str))) (.val (bq 6 (λi=>i) (aj ab))) (.val (bq 6 (λi=>i) (aj ab))) .un .un .un .un .un .un .un .un .un .un .un)) _=_;rw[<-hdu];refine bl vN (λi => .list ((List.range' 0 6).map λj=>vN (aj ab i j))) (List.range' 0 6) [.un, .un, .un, .val du] ∅ ∅ (d7 ∅ rfl ∅ nofun) ∅ nofun λi hi=>⟨[.un, .val (vN i), .un, .val du],∅, ?_⟩
  have hi:i<6:=by rw[List.mem_range'_1]at hi;omega
  refine bl vN _ (List.range' 0 6) [.un, .un, .un, .un, .val du, .val (vN i)] ∅ ∅ (d7 ∅ rfl ∅ nofun) ∅ nofun λj hj=>⟨[.un, .val (vN j), .un, .un, .val du, .val (vN i)],∅, ?_⟩
  have hj:j<6:=by rw[List.mem_range'_1]at hj;omega
  refine zR (x := .bool (Nat.beq i j)) (c:=Nat.beq i j) (ev_cmp nofun (x:=vN i) (y:=vN j) (by walk_at "ee") (by walk_at "ee") (EZ i j)) rfl ?_;cases e:Nat.beq i j with
  |true=>
   have:=Nat.eq_of_beq_eq_true e;rw[(ds ht hi hj).2.1.mp this];show ev _ _ _ _ _ _=(true,vN 0)
   kernel_rfl
  |false=>
   have hne:=Nat.ne_of_beq_eq_false e;have hM:Nat.max i j<6:=Nat.max_lt.mpr ⟨hi,hj⟩;have hlt:Nat.min i j<Nat.max i j:=by
    rcases Nat.lt_or_ge i j with hl|hl
    ·rw[show Nat.min i j=i from Nat.min_eq_left ⋯,show Nat.max i j=j from Nat.max_eq_right ⋯];exact hl
    ·rw[show Nat.min i j=j from Nat.min_eq_right hl,show Nat.max i j=i from Nat.max_eq_left hl];omega
   have hv:aj ab (Nat.max i j) (Nat.min i j)=aj ab i j:=by
    rcases Nat.lt_or_ge i j with hl|hl
    ·rw[show Nat.min i j=i from Nat.min_eq_left ⋯,show Nat.max i j=j from Nat.max_eq_right ⋯];exact(ds ht hj hi).1
    ·rw[show Nat.min i j=j from Nat.min_eq_right hl,show Nat.max i j=i from Nat.max_eq_left hl]
   rw[<-hv];refine ah rfl (x := .list ((List.range' 0 (Nat.max i j)).map λk=>vN (aj ab (Nat.max i j) k))) (y:=vN (Nat.min i j)) (look_other rfl ?_) ?_ (ty:=0) ∅ (iI ⋯ hlt)
   ·refine ah rfl (x:=du) (y:=vN (Nat.max i j)) (by walk_at "lk") (ev_call ∅ ∅ ∅ (vs:=[vN i,vN j]) (by walk_at "el") (bg rfl (B1 i j))) (ty:=0) ∅ ?_
    rw[hdu];exact gm nofun hM
   ·exact ev_call ∅ ∅ ∅ (vs:=[vN i,vN j]) (by walk_at "el") (bg rfl (B2 i j))
 refine aY 18 ∅ (by decide +kernel) (v := .list ((List.range' 0 6).map λk=>vN (ko nums k))) ?_ (s := .val (.list ((List.range' 0 6).map λk=>vN (ko nums k)))) ∅ hr;have hdr:((nums.drop 5).map (· % 4))=(List.range' 0 6).map (ko nums):=by
  symm
  refine uu 6 (by simp[hn]) λi hi => ?_
  unfold ko;rw[List.getD_eq_getElem?_getD,List.getD_eq_getElem?_getD,List.getElem?_map,List.getElem?_drop,List.getElem?_eq_getElem ⋯];rfl
 have e:((List.range' 0 6).map λk=>vN (ko nums k))=(nums.drop 5).map λx=>vN (x%4):=by
  rw[show((List.range' 0 6).map λk=>vN (ko nums k))=((List.range' 0 6).map (ko nums)).map vN by rw[List.map_map];rfl,<-hdr,List.map_map];rfl
 rw[e];refine bl vN _ (nums.drop 5) [.un, .un] ∅ ∅ (cY ∅ (v := .list ((nums.drop 5).map vN)) ?_ (dX (by simp[hn,cap])) (.inl rfl)) ∅ (by simp[hn,cap]) λx hx=>⟨[.un, .val (vN x)],∅, ?_⟩
 ·rw[List.map_drop]
  exact aE (x := .list (nums.map vN)) (a:=vN 5) (b := .none) (c := .none) (by walk_at "ee") (ck ∅) rfl rfl (ut (by rw[List.length_map];exact cn))
 ·exact ev_bin nofun (x:=vN x) (y:=vN 4) (by walk_at "ee") ∅ (cS nofun)
noncomputable def Cp(ab:List Nat)(w:Nat->Nat)(k:Nat):List Int:=(List.range' 0 6).map λi=>(aj ab k i:Int)-w i
noncomputable def fQ(ab:List Nat)(w:Nat->Nat)(k:Nat):Bool:=decide (uG (Cp ab w k)<=0)
noncomputable def lg(ab:List Nat)(w:Nat->Nat)(i j:Nat):Bool:=decide ((w i:Int)+w j<aj ab i j)
noncomputable def dZ(ab:List Nat)(w:Nat->Nat):List Nat:=(List.range' 0 6).flatMap λi=>((List.range' 0 i).filter (lg ab w i)).map λ_=>i
theorem E2{ab:List Nat}(ht:ab∈trees)(w:Nat->Nat):(((List.range' 0 6).filter (fQ ab w)).isEmpty==(dZ ab w).isEmpty)=false:=by
 have H:=EY ht w;have e1:((List.range' 0 6).filter (fQ ab w)).isEmpty=false ↔ ∃k,k<6/\∀i,i<6->aj ab k i<=w i:=by
  rw[List.isEmpty_eq_false_iff,ne_eq,List.filter_eq_nil_iff];simp only[Classical.not_forall,Bool.not_eq_true,Bool.not_eq_false]
  constructor
  ·rintro⟨k,hk,h⟩
   rw[List.mem_range'_1]at hk;refine⟨k,⋯,λi hi => ?_⟩;have:=(wP (by simp[Cp])).mp (of_decide_eq_true h) ((aj ab k i:Int)-w i) (List.mem_map.mpr ⟨i,by rw[List.mem_range'_1];omega,rfl⟩)
   omega
  ·rintro⟨k,hk,h⟩
   refine⟨k,by rw[List.mem_range'_1];omega,decide_eq_true ((wP (by simp[Cp])).mpr λy hy => ?_)⟩;obtain⟨i,hi,rfl⟩:=List.mem_map.mp hy;rw[List.mem_range'_1]at hi;have:=h i ⋯
   omega
 have e2:(dZ ab w).isEmpty=true ↔ ∀i,i<6->∀j,j<i->aj ab i j<=w i+w j:=by
  unfold dZ;rw[List.isEmpty_iff,List.flatMap_eq_nil_iff]
  constructor
  ·intro h i hi j hj
   have:=h i (by rw[List.mem_range'_1];omega);rw[List.map_eq_nil_iff,List.filter_eq_nil_iff]at this;have:=this j (by rw[List.mem_range'_1];omega);unfold lg at this;rw[decide_eq_true_eq]at this
   omega
  ·intro h i hi
   rw[List.mem_range'_1]at hi;rw[List.map_eq_nil_iff,List.filter_eq_nil_iff];intro j hj;rw[List.mem_range'_1]at hj;have:=h i ⋯ j ⋯;unfold lg;rw[decide_eq_true_eq]
   omega
 cases hp:((List.range' 0 6).filter (fQ ab w)).isEmpty<;>cases hq:(dZ ab w).isEmpty
 ·have:=e2.mpr (H.mp (e1.mp hp));rw[hq]at this;injections this
 ·rfl
 ·rfl
 ·have:=e1.mpr (H.mpr (e2.mp hq));rw[hp]at this;injections this
theorem ux{f:Nat->List Nat}:∀l:List Nat,(∀i∈l,(f i).length<=6)->(l.flatMap f).length<=6*l.length
 |[],_=>Nat.le_refl _
 |a::l,h=>by
  have ih:=ux l λi hi=>h i (List.mem_cons_of_mem _ hi)
  have h1:=h a (List.mem_cons_self ..);rw[List.flatMap_cons,List.length_append,List.length_cons]
  omega
theorem uy{ab:List Nat}{w:Nat->Nat}:(dZ ab w).length<=36:=by
 refine Nat.le_trans (ux _ λi hi => ?_) (Nat.le_of_eq (by simp));rw[List.mem_range'_1]at hi;rw[List.length_map];exact Nat.le_trans (List.length_filter_le _ _) (by simp;omega)
theorem E3 {A B C v3 D8 h m dp rw dots names du:V} {ab:List Nat} (ht:ab∈trees) (w:Nat->Nat) {res:Res}
 (hr:∀p c,ex um [] xY 1000 sq 178 (iz.body.drop 22) (aq nW (k9 (.val A) (.val B) (.val C) (.val v3) .un .un .un .un (.val D8) (.val h) (.val m) (.val dp) (.val rw) (.val dots) (.val names)
   (.val du) (.val (bq 6 (λi=>i) (aj ab))) (.val (bq 6 (λ_=>6) (aj ab))) (.val (.list ((List.range' 0 6).map λk=>vN (w k)))) (.val p) (.val c) .un .un .un .un .un .un .un))=res):
 ex um [] xY 1000 sq 181 (iz.body.drop 19) (aq nW (k9 (.val A) (.val B) (.val C) (.val v3) .un .un .un .un (.val D8) (.val h) (.val m) (.val dp) (.val rw) (.val dots) (.val names)
  (.val du) (.val (bq 6 (λi=>i) (aj ab))) (.val (bq 6 (λ_=>6) (aj ab))) (.val (.list ((List.range' 0 6).map λk=>vN (w k)))) .un .un .un .un .un .un .un .un .un))=res:=by
 obtain⟨fa,hfa⟩:∃fa,fa=bq 6 (λi=>i) (aj ab):=⟨_,rfl⟩;obtain⟨st,hst⟩:∃st,st=bq 6 (λ_=>6) (aj ab):=⟨_,rfl⟩;obtain⟨wi,hwi⟩:∃wi,wi=V.list ((List.range' 0 6).map λk=>vN (w k)):=⟨_,rfl⟩;rw[<-hfa,<-hst,<-hwi]at hr |-;refine aY 19 ∅ (by decide +kernel) (v := .list (((List.range' 0 6).filter (fQ ab w)).map vN)) ?_ (s := .val (.list (((List.range' 0 6).filter (fQ ab w)).map vN))) ∅ ?_
 ·refine j8 vN (fQ ab w) vN (List.range' 0 6) [.un, .un, .un, .un, .val st, .val wi] ∅ ∅ (d7 ∅ rfl ∅ nofun) ∅ nofun λk hk=>⟨[.un, .val (vN k), .un, .un, .val st, .val wi], .bool (fQ ab w k),∅, ?_,rfl,λ_=>by walk_at "ee"⟩
  have hk:k<6:=by rw[List.mem_range'_1]at hk;omega
  refine ev_cmp nofun (x := .int (uG (Cp ab w k))) (y := .int 0) ?_ ∅ rfl;refine ev_call ∅ ∅ ∅ (vs:=[.list ((Cp ab w k).map .int)]) (evL_of ?_ evL_nil) (bg rfl (As (by simp[Cp]) (by simp[Cp,cap])));unfold Cp;rw[List.map_map];refine bl vN _ (List.range' 0 6) [.un, .un, .val (vN k), .val st, .val wi] ∅ ∅ (d7 ∅ rfl ∅ nofun) ∅ nofun λi hi=>⟨[.un, .val (vN i), .val (vN k), .val st, .val wi],∅, ?_⟩
  have hi:i<6:=by rw[List.mem_range'_1]at hi;omega
  refine ev_bin nofun (x:=vN (aj ab k i)) (y:=vN (w i)) ?_ ?_ rfl
  ·refine ah rfl (x := .list ((List.range' 0 6).map λj=>vN (aj ab k j))) (y:=vN i) (look_other rfl ?_) (by walk_at "ee") (ty:=0) ∅ (iI nofun hi)
   refine ah rfl (x:=st) (y:=vN k) (by walk_at "lk") (by walk_at "ee") (ty:=0) ∅ ?_;rw[hst];exact gm nofun hk
  ·refine ah rfl (x:=wi) (y:=vN i) (by walk_at "lk") (by walk_at "ee") (ty:=0) ∅ ?_
   rw[hwi];exact iI nofun hi
 have ec:(dZ ab w).map vN=(List.range' 0 6).flatMap λi=>((List.range' 0 i).filter (lg ab w i)).map λ_=>vN i:=by
  unfold dZ;rw[List.map_flatMap];simp only[List.map_map]
  rfl
 refine aY 20 ∅ (by decide +kernel) (v := .list ((dZ ab w).map vN)) ?_ (s := .val (.list ((dZ ab w).map vN))) ∅ ?_
 ·have hsh:=uy (ab:=ab) (w:=w)
  have hsh2:((dZ ab w).map vN).length<=cap:=by rw[List.length_map];unfold cap;omega
  rw[ec]at hsh2 |-;refine x7 vN vN (λi=>List.range' 0 i) (lg ab w) (λi _=>vN i) (List.range' 0 6) [.un, .un, .un, .un, .val fa, .val wi] ∅ ∅ ∅ ∅ (d7 ∅ rfl ∅ nofun) ∅ hsh2 λi hi => ?_
  have hi:i<6:=by rw[List.mem_range'_1]at hi;omega
  refine⟨[.un, .val (vN i), .un, .un, .val fa, .val wi],∅,d7 ∅ rfl (by walk_at "el") ⋯,λj hj=>⟨[.un, .val (vN i), .val (vN j), .un, .val fa, .val wi], .bool (lg ab w i j),∅, ?_,rfl,λ_=>by walk_at "ee"⟩⟩;have hj:j<i:=by rw[List.mem_range'_1]at hj;omega
  refine ev_cmp nofun (x:=vN (aj ab i j)) (y := .int ((w i:Int)+w j)) ?_ ?_ rfl
  ·refine ah rfl (x := .list ((List.range' 0 i).map λj=>vN (aj ab i j))) (y:=vN j) (look_other rfl ?_) (by walk_at "ee") (ty:=0) ∅ (iI ⋯ hj)
   refine ah rfl (x:=fa) (y:=vN i) (by walk_at "lk") (by walk_at "ee") (ty:=0) ∅ ?_;rw[hfa];exact gm nofun hi
  ·refine ev_add (x:=vN (w i)) (y:=vN (w j)) (look_other rfl ?_) ?_ rfl
   ·refine ah rfl (x:=wi) (y:=vN i) (by walk_at "lk") (by walk_at "ee") (ty:=0) ∅ ?_
    rw[hwi];exact iI nofun hi
   ·refine ah rfl (x:=wi) (y:=vN j) (by walk_at "lk") (by walk_at "ee") (ty:=0) ∅ ?_
    rw[hwi];exact iI nofun ⋯
 refine oq (v := .bool false) false ∅ ∅ ?_ rfl (hr _ _);refine ev_cmp nofun (x := .bool ((List.range' 0 6).filter (fQ ab w)).isEmpty) (y := .bool (dZ ab w).isEmpty) ?_ ?_ ?_
 ·exact ev_cmp nofun (x := .list (((List.range' 0 6).filter (fQ ab w)).map vN)) (y := .list []) (by walk_at "ee") ∅ vQ
 ·exact ev_cmp nofun (x := .list ((dZ ab w).map vN)) (y := .list []) (by walk_at "ee") ∅ vQ
 ·show((true,((List.range' 0 6).filter (fQ ab w)).isEmpty==(dZ ab w).isEmpty):Bool×Bool)=_
  rw[E2 ht w]
theorem E4(a b:Nat):oZ .LtE (vN a) (vN b)=(true,Nat.ble a b):=by
 show((true,decide ((a:Int)<=(b:Int))):Bool×Bool)=_
 congr 1
 cases e:Nat.ble a b with
 |true=>have:=Nat.le_of_ble_eq_true e;exact decide_eq_true ⋯
 |false=>have:=Nat.not_le_of_not_ble_eq_true (by rw[e];simp);exact decide_eq_false ⋯
theorem uz:∀(l:List Nat) (c:Int),(l.map λx:Nat=>(x:Int)).foldl (· + ·) c=c+(l.sum:Nat)
 |[],c=>by simp
 |x::l,c=>by
  rw[List.map_cons,List.foldl_cons,uz l,List.sum_cons];omega
theorem DQ{l:List Nat}(h:l.length<=cap):dA (nm "sum") [.list (l.map vN)]=(true,vN l.sum):=by
 show(((l.map vN).all mK&&decide ((l.map vN).length<=cap),V.int (((l.map vN).map getI).foldl (· + ·) 0)):R)=_;rw[show(l.map vN).map getI=l.map λx:Nat=>(x:Int)by rw[List.map_map];rfl,uz,List.length_map,decide_eq_true h,show(l.map vN).all mK=true by rw[List.all_map];exact List.all_eq_true.mpr λ_ _=>rfl,Int.zero_add]
 rfl
theorem qG{l:List V}(h:∀x∈l,D4 x x=true):eqVs l l=true:=by
 induction l with
 |nil=>rfl
 |cons x l ih=>exact Bool.and_eq_true_iff.mpr ⟨h x (List.mem_cons_self ..),ih λy m=>h y (List.mem_cons_of_mem _ m)⟩
theorem B3{n:Nat}{len:Nat->Nat}{f:Nat->Nat->Nat}:oZ .Eq (bq n len f) (bq n len f)=(true,true):=by
 have e:bq n len f = .list ((List.range' 0 n).map λi=>V.list (((List.range' 0 (len i)).map (f i)).map vN)):=by
  unfold bq;simp only[List.map_map];rfl
 rw[e];have h1:dc 9 (.list ((List.range' 0 n).map λi=>V.list (((List.range' 0 (len i)).map (f i)).map vN)))=true:=List.all_eq_true.mpr λx m=>by
  obtain⟨i,_,rfl⟩:=List.mem_map.mp m;exact uq _ _
 have h2:eqVs ((List.range' 0 n).map λi=>V.list (((List.range' 0 (len i)).map (f i)).map vN)) ((List.range' 0 n).map λi=>V.list (((List.range' 0 (len i)).map (f i)).map vN))=true:=qG λx m=>by
  obtain⟨i,_,rfl⟩:=List.mem_map.mp m;exact qG λy m=>by
   obtain⟨k,_,rfl⟩:=List.mem_map.mp m;exact decide_eq_true rfl
 show((dc 9 _&&dc 9 _,eqVs _ _):Bool×Bool)=_;rw[h1,h2];rfl
theorem B4(ab:List Nat)(i:Nat):((List.range' 0 6).map λj=>vN (aj ab i j))=((List.range' 0 6).map (aj ab i)).map vN:=by rw[List.map_map];rfl
theorem B5(ab:List Nat)(i:Nat):0<(jF ab i).length/\(jF ab i).length<=cap:=by
 unfold jF;rw[List.length_append];have:((List.range' (i+1) (6-(i+1))).filter λk=>Nat.ble ((an ab 5).getD k 0) ((an ab 5).getD i 0)).length<=6:=Nat.le_trans (List.length_filter_le _ _) (by simp;omega);unfold cap;simp only[List.length_singleton]
 omega
theorem x8(ab:List Nat)(hs:List (List Nat))(i:Nat):(aW ab hs i).drop ((an ab 5).getD i 0)=hs.getD i []:=by
 unfold aW;rw[List.drop_left' (by simp)]
structure so(ls nums ab:List Nat)(hs:List (List Nat)):Prop where
 len:∀i,i<6->(aW ab hs i).length<=12
 at_:∀k,k<5->hs.getD (k+1) []=gq (bj ls ab (k+1)) (nums.getD k 0/311040%6) (tableL.getD (nums.getD k 0/11520%27) 0)
theorem uA {Φ:Fns} {τ:Tau} {N:Nat} {ns:List Nm} {ss:List Mine.Slot} {κ:List (Str×NameKind)} {o i1 i2 d:Expr} {p1 p2 p3 p4:Pos} {ls nums ab:List Nat} {hs:List (List Nat)} (R:so ls nums ab hs) {i:Nat} (hi:i<6) (h1:look κ (aq ns ss) (ev Φ τ N κ (aq ns ss)) o=(true, .list (((List.range' 0 6).map (aW ab hs)).map .str))) (h2:ev Φ τ N κ (aq ns ss) i1=(true,vN i)) (hi1:ix i1=false) (ho:EA τ o=0)
 (h3:look κ (aq ns ss) (ev Φ τ N κ (aq ns ss)) d=(true, .list ((an ab 5).map vN))) (h4:ev Φ τ N κ (aq ns ss) i2=(true,vN i)) (hi2:ix i2=false) (hd:EA τ d=0):
 ev Φ τ (N+2) κ (aq ns ss) (.Subscript (.Subscript o i1 p1) (.Slice (some (.Subscript d i2 p2)) none none p3) p4)=(true, .str (hs.getD i [])):=by
 have c6:((List.range' 0 6).map (aW ab hs)).length=6:=by simp
 have hr:((List.range' 0 6).map (aW ab hs)).getD i []=aW ab hs i:=by
  rw[List.getD_eq_getElem?_getD,List.getElem?_map,List.getElem?_range' hi];simp
 have hl:=R.len i hi;rw[<-x8 ab hs i];refine aE (x := .str (aW ab hs i)) (a:=vN ((an ab 5).getD i 0)) (b := .none) (c := .none) ?_ (ck ?_) rfl rfl (bn (by unfold cap;omega))
 ·refine(ah hi1 h1 h2 ho (bp (by rw[c6];decide) (by rw[c6];exact hi))).trans ?_
  rw[hr]
 ·exact ah hi2 h3 h4 hd (cE (by rw[c9];decide) (by rw[c9];omega))
set_option maxHeartbeats 2000000 in
theorem E5 {A B C v3 h m dp du fa wi pl cl:V} {ab ls nums:List Nat} {hs:List (List Nat)} (ht:ab∈trees) (L:dv ls) (RO:so ls nums ab hs) {res:Res}
 (hr:ex um [] xY 1000 sq 177 (iz.body.drop 23) (aq nW (k9 (.val A) (.val B) (.val C) (.val v3) .un .un .un .un (.val (.list (ab.map vN))) (.val h) (.val m) (.val dp) (.val (.list (((List.range' 0 6).map (aW ab hs)).map .str))) (.val (.list ((an ab 5).map vN))) (.val (.list ((aV ls ab).map .str)))
   (.val du) (.val fa) (.val (bq 6 (λ_=>6) (aj ab))) (.val wi) (.val pl) (.val cl) .un .un .un .un .un .un .un))=res):
 ex um [] xY 1000 sq 178 (iz.body.drop 22) (aq nW (k9 (.val A) (.val B) (.val C) (.val v3) .un .un .un .un (.val (.list (ab.map vN))) (.val h) (.val m) (.val dp) (.val (.list (((List.range' 0 6).map (aW ab hs)).map .str))) (.val (.list ((an ab 5).map vN))) (.val (.list ((aV ls ab).map .str)))
  (.val du) (.val fa) (.val (bq 6 (λ_=>6) (aj ab))) (.val wi) (.val pl) (.val cl) .un .un .un .un .un .un .un))=res:=by
 obtain⟨st,hst⟩:∃st,st=bq 6 (λ_=>6) (aj ab):=⟨_,rfl⟩;rw[<-hst]at hr |-;have habl:ab.length=6:=(dq ht (k:=0) ⋯).2.1;have cb:ab.length<=cap:=by rw[habl];decide
 have n6:=lf ls ab;refine iB (λ_=>k9 (.val A) (.val B) (.val C) (.val v3) .un .un .un .un (.val (.list (ab.map vN))) (.val h) (.val m) (.val dp) (.val (.list (((List.range' 0 6).map (aW ab hs)).map .str))) (.val (.list ((an ab 5).map vN))) (.val (.list ((aV ls ab).map .str)))
  (.val du) (.val fa) (.val st) (.val wi) (.val pl) (.val cl) .un .un .un .un .un .un .un) vN 1 5 ∅ ∅ ∅ (λi h1 h2 => ?_) hr
 obtain⟨k,rfl⟩:∃k,i=k+1:=⟨i-1,⋯⟩;have hk:k<5:=⋯;obtain⟨t1,_,_,_⟩:=dq ht hk;obtain⟨b1,b2⟩:=B5 ab (k+1);have eh:=RO.at_ k hk;have hm:=(bG ht (show k+1<6 by omega)).2;have n5:=gn ht L (show k+1<6 by omega);have S:=of_decide_eq_true (List.all_eq_true.mp (List.all_eq_true.mp x6 ab ht) (k+1) (by rw[List.mem_range'_1];omega));refine⟨k9 (.val A) (.val B) (.val C) (.val v3) (.val (vN (k+1))) .un .un .un (.val (.list (ab.map vN))) (.val h) (.val m) (.val dp) (.val (.list (((List.range' 0 6).map (aW ab hs)).map .str))) (.val (.list ((an ab 5).map vN))) (.val (.list ((aV ls ab).map .str)))
  (.val du) (.val fa) (.val st) (.val wi) (.val pl) (.val cl) .un .un .un .un .un .un .un,
  k9 (.val A) (.val B) (.val C) (.val v3) (.val (vN (k+1))) .un .un .un (.val (.list (ab.map vN))) (.val h) (.val m) (.val dp) (.val (.list (((List.range' 0 6).map (aW ab hs)).map .str))) (.val (.list ((an ab 5).map vN))) (.val (.list ((aV ls ab).map .str)))
   (.val du) (.val fa) (.val st) (.val wi) (.val pl) (.val cl) (.val (.list ((jF ab (k+1)).map vN))) (.val (.list [.str (bj ls ab (k+1)), .str (hs.getD (k+1) [])])) .un .un .un .un .un,∅, ?_,∅⟩
 refine aY 21 ∅ (by decide +kernel) (v := .list ((jF ab (k+1)).map vN)) ?_ (s := .val (.list ((jF ab (k+1)).map vN))) ∅ ?_
 ·have e:(jF ab (k+1)).map vN=((List.range' (k+2) (6-(k+2))).filter λj=>Nat.ble ((an ab 5).getD j 0) ((an ab 5).getD (k+1) 0)).map vN++[vN 6]:=by unfold jF;rw[List.map_append];rfl
  rw[e];refine ev_add (x := .list (((List.range' (k+2) (6-(k+2))).filter λj=>Nat.ble ((an ab 5).getD j 0) ((an ab 5).getD (k+1) 0)).map vN)) (y := .list [vN 6]) (look_other rfl ?_) ∅ ?_
  ·refine j8 vN (λj=>Nat.ble ((an ab 5).getD j 0) ((an ab 5).getD (k+1) 0)) vN (List.range' (k+2) (6-(k+2))) [.un, .un, .val (.list ((an ab 5).map vN)), .val (vN (k+1))] ∅ ∅ (fw ∅ rfl (vs:=[vN (k+2),vN 6]) ?_ (jB ⋯ ⋯)) ∅ (by simp[cap];omega)
    λj hj=>⟨[.un, .val (vN j), .val (.list ((an ab 5).map vN)), .val (vN (k+1))], .bool (Nat.ble ((an ab 5).getD j 0) ((an ab 5).getD (k+1) 0)),∅, ?_,rfl,λ_=>by walk_at "ee"⟩
   ·exact evL_of (ev_add (x:=vN (k+1)) (y:=vN 1) (by walk_at "lk") ∅ rfl) (evL_of ∅ evL_nil)
   ·have hj:j<6:=by rw[List.mem_range'_1]at hj;omega
    refine ev_cmp nofun (x:=vN ((an ab 5).getD j 0)) (y:=vN ((an ab 5).getD (k+1) 0)) ?_ ?_ (E4 _ _)
    ·exact ah rfl (x := .list ((an ab 5).map vN)) (y:=vN j) (by walk_at "lk") (by walk_at "ee") (ty:=0) ∅ (cE (by rw[c9];decide) (by rw[c9];exact hj))
    ·exact ah rfl (x := .list ((an ab 5).map vN)) (y:=vN (k+1)) (by walk_at "lk") (by walk_at "ee") (ty:=0) ∅ (cE (by rw[c9];decide) (by rw[c9];omega))
  ·have hl:(((List.range' (k+2) (6-(k+2))).filter λj=>Nat.ble ((an ab 5).getD j 0) ((an ab 5).getD (k+1) 0)).map vN).length<=6:=by
    rw[List.length_map];exact Nat.le_trans (List.length_filter_le _ _) (by simp;omega)
   generalize ((List.range' (k+2) (6-(k+2))).filter λj=>Nat.ble ((an ab 5).getD j 0) ((an ab 5).getD (k+1) 0)).map vN=u at hl |-;show((decide (u.length+1<=cap),V.list (u++[vN 6])):R)=_;rw[decide_eq_true (by unfold cap;omega)]
 refine oq (v := .bool false) false ∅ ∅ ?_ rfl ?_
 ·have sm:∀j,j<6->dA (nm "sum") [.list ((List.range' 0 6).map λq=>vN (aj ab j q))]=(true,vN (sk ab j)):=λj hj=>by
   rw[B4];exact DQ (by simp[cap])
  have row:∀j,j<6->gV 0 st (vN j)=(true, .list ((List.range' 0 6).map λq=>vN (aj ab j q))):=λj hj=>by rw[hst];exact gm nofun hj
  refine ev_cmp nofun (x := .int ((sk ab (k+1):Int)-sk ab (ab.getD (k+1) 0))) (y := .int (6-2*(((jF ab (k+1)).getD 0 0:Nat)-((k+1:Nat):Int)))) (c:=false) ?_ ?_ ?_
  ·refine ev_bin nofun (x:=vN (sk ab (k+1))) (y:=vN (sk ab (ab.getD (k+1) 0))) ?_ ?_ rfl
   ·refine ev_call ∅ ∅ ∅ (vs:=[.list ((List.range' 0 6).map λq=>vN (aj ab (k+1) q))]) (evL_of ?_ evL_nil) (bg rfl (sm _ ⋯))
    exact ah rfl (x:=st) (y:=vN (k+1)) (by walk_at "lk") (by walk_at "ee") (ty:=0) ∅ (row _ ⋯)
   ·refine ev_call ∅ ∅ ∅ (vs:=[.list ((List.range' 0 6).map λq=>vN (aj ab (ab.getD (k+1) 0) q))]) (evL_of ?_ evL_nil) (bg rfl (sm _ ⋯))
    refine ah rfl (x:=st) (y:=vN (ab.getD (k+1) 0)) (by walk_at "lk") ?_ (ty:=0) ∅ (row _ ⋯);exact ah rfl (x := .list (ab.map vN)) (y:=vN (k+1)) (by walk_at "lk") (by walk_at "ee") (ty:=0) ∅ (cE cb ⋯)
  ·refine ev_bin nofun (x:=vN 6) (y := .int (2*(((jF ab (k+1)).getD 0 0:Nat)-((k+1:Nat):Int)))) ∅ ?_ rfl
   refine ev_bin nofun (x := .int 2) (y := .int (((jF ab (k+1)).getD 0 0:Nat)-((k+1:Nat):Int))) ∅ ?_ (b_mulL rfl);refine ev_bin nofun (x:=vN ((jF ab (k+1)).getD 0 0)) (y:=vN (k+1)) ?_ (by walk_at "ee") rfl;exact ah rfl (x := .list ((jF ab (k+1)).map vN)) (y:=vN 0) (by walk_at "lk") ∅ (ty:=0) ∅ (cE b2 b1)
  ·show((true, !decide ((sk ab (k+1):Int)-sk ab (ab.getD (k+1) 0)=6-2*(((jF ab (k+1)).getD 0 0:Nat)-((k+1:Nat):Int)))):Bool×Bool)=_
   rw[decide_eq_true S];rfl
 refine aY 22 ∅ (by decide +kernel) (v := .list [.str (bj ls ab (k+1)), .str (hs.getD (k+1) [])]) ?_ (s := .val (.list [.str (bj ls ab (k+1)), .str (hs.getD (k+1) [])])) ∅ ?_
 ·refine rO (evL_of ?_ (evL_of ?_ evL_nil)) (by simp[cap])
  ·rw[<-kq ls ab (show k+1<6 by omega)]
   exact ah rfl (x := .list ((aV ls ab).map .str)) (y:=vN (k+1)) (by walk_at "lk") (by walk_at "ee") (ty:=0) ∅ (bp (by rw[n6];decide) (by rw[n6];omega))
  ·exact uA RO (show k+1<6 by omega) (by walk_at "lk") (by walk_at "ee") rfl ∅ (by walk_at "lk") (by walk_at "ee") rfl ∅
 have hlen6:(hs.getD (k+1) []).length<=6:=by
  rw[eh];unfold gq;have h5:(bj ls ab (k+1)).length=5:=n5;simp only[List.length_append,List.length_take,List.length_drop,List.length_singleton,h5];omega
 obtain⟨l1,l2⟩:=Am L hm (k:=nums.getD k 0/311040%6) (q:=(k+1)%3) (Nat.mod_lt _ nofun) (Nat.mod_lt _ nofun) (mD (nums.getD k 0));have l1:eu (hs.getD (k+1) []) (bj ls ab (k+1)) (((k+1)%3:Nat):Int)=2:=by rw[eh];exact l1
 have l2:eu (bj ls ab (k+1)) (hs.getD (k+1) []) (((k+1)%3:Nat):Int)=2:=by rw[eh];exact l2
 generalize bj ls ab (k+1)=x at *;generalize hs.getD (k+1) []=y at *;have two:∀r,r<2->gV 0 (.list [.str x, .str y]) (vN r)=(true, .str ([x,y].getD r [])):=λr hr=>bp (l:=[x,y]) (by simp[cap]) hr
 refine oq (v := .bool false) false ∅ ∅ ?_ rfl cV;have fin:eu ([x,y].getD ((k+1)%2) []) ([x,y].getD (1-(k+1)%2) []) (((k+1)%3:Nat):Int)=2/\([x,y].getD ((k+1)%2) []).length<=500/\([x,y].getD (1-(k+1)%2) []).length<=500:=by
  rcases Nat.mod_two_eq_zero_or_one (k+1)with e|e
  ·rw[e];exact⟨l2,by show x.length<=500;omega,by show y.length<=500;omega⟩
  ·rw[e];exact⟨l1,by show y.length<=500;omega,by show x.length<=500;omega⟩
 have m2:(k+1)%2<2:=Nat.mod_lt _ nofun;refine ev_cmp nofun (x := .int 2) (y := .int 2) (c:=false) ?_ ∅ rfl;refine ev_call ∅ ∅ ∅ (vs:=[.str ([x,y].getD ((k+1)%2) []), .str ([x,y].getD (1-(k+1)%2) []),vN ((k+1)%3)]) (evL_of ?_ (evL_of ?_ (evL_of ?_ evL_nil))) (bJ (F:=fLev) rfl ((rX _ _ _ fin.2.1 fin.2.2).trans (by rw[fin.1])))
 ·exact ah rfl (x := .list [.str x, .str y]) (y:=vN ((k+1)%2)) (by walk_at "lk") (ev_bin nofun (x:=vN (k+1)) (y:=vN 2) (by walk_at "ee") ∅ (cS nofun)) (ty:=0) ∅ (two _ m2)
 ·refine ah rfl (x := .list [.str x, .str y]) (y:=vN (1-(k+1)%2)) (by walk_at "lk") ?_ (ty:=0) ∅ (two _ ⋯)
  refine ev_bin nofun (x:=vN 1) (y:=vN ((k+1)%2)) ∅ (ev_bin nofun (x:=vN (k+1)) (y:=vN 2) (by walk_at "ee") ∅ (cS nofun)) ?_;show((true,V.int (((1:Nat):Int)-(((k+1)%2:Nat):Int))):R)=(true,V.int ((1-(k+1)%2:Nat):Int))
  congr 2
  omega
 ·exact ev_bin nofun (x:=vN (k+1)) (y:=vN 3) (by walk_at "ee") ∅ (cS nofun)
set_option maxHeartbeats 2000000 in
theorem E6{A B v3 h m dp wi pl cl D8:V}{ab ls nums:List Nat}{hs:List (List Nat)}(hn:nums.length=11)(ht:ab∈trees)(L:dv ls)(RO:so ls nums ab hs):
 ex um [] xY 1000 sq 177 (iz.body.drop 23) (aq nW (k9 (.val A) (.val B) (.val (.list (nums.map vN))) (.val v3) .un .un .un .un (.val D8) (.val h) (.val m) (.val dp) (.val (.list (((List.range' 0 6).map (aW ab hs)).map .str))) (.val (.list ((an ab 5).map vN))) (.val (.list ((aV ls ab).map .str)))
  (.val (bq 6 (λi=>i) (aj ab))) (.val (bq 6 (λi=>i) (aj ab))) (.val (bq 6 (λ_=>6) (aj ab))) (.val wi) (.val pl) (.val cl) .un .un .un .un .un .un .un))=DL true:=by
 obtain⟨st,hst⟩:∃st,st=bq 6 (λ_=>6) (aj ab):=⟨_,rfl⟩;obtain⟨du,hdu⟩:∃du,du=bq 6 (λi=>i) (aj ab):=⟨_,rfl⟩;rw[<-hst,<-hdu];have cn:nums.length<=cap:=by rw[hn];decide
 have n6:=lf ls ab;obtain⟨a,ha⟩:∃a,a=nums.getD 9 0/4%5:=⟨_,rfl⟩;obtain⟨b,hb⟩:∃b,b=nums.getD 10 0/4%5:=⟨_,rfl⟩;have ha5:a<5:=by rw[ha];exact Nat.mod_lt _ nofun
 have hb5:b<5:=by rw[hb];exact Nat.mod_lt _ nofun
 obtain⟨o,ho⟩:∃o,o=(a+1+b+1)%6:=⟨_,rfl⟩;have ho6:o<6:=by rw[ho];exact Nat.mod_lt _ nofun
 have hne:a+1≠o:=by rw[ho];omega
 refine aY 23 ∅ (by decide +kernel) (v:=vN (a+1)) ?_ rfl ?_
 ·refine ev_add (x:=vN a) (y:=vN 1) (look_other rfl ?_) ∅ rfl
  rw[ha];refine ev_bin nofun (x:=vN (nums.getD 9 0/4)) (y:=vN 5) (ev_bin nofun (x:=vN (nums.getD 9 0)) (y:=vN 4) ?_ ∅ (jD nofun nofun)) ∅ (cS nofun);exact ah rfl (x := .list (nums.map vN)) (y:=vN 9) (by walk_at "lk") ∅ (ty:=0) ∅ (cE cn ⋯)
 refine aY 24 ∅ (by decide +kernel) (v:=vN o) ?_ rfl ?_
 ·rw[ho]
  refine ev_bin nofun (x:=vN (a+1+b+1)) (y:=vN 6) ?_ ∅ (cS nofun);refine ev_add (x:=vN (a+1+b)) (y:=vN 1) (look_other rfl (ev_add (x:=vN (a+1)) (y:=vN b) (by walk_at "lk") ?_ rfl)) ∅ rfl;rw[hb];refine ev_bin nofun (x:=vN (nums.getD 10 0/4)) (y:=vN 5) (ev_bin nofun (x:=vN (nums.getD 10 0)) (y:=vN 4) ?_ ∅ (jD nofun nofun)) ∅ (cS nofun);exact ah rfl (x := .list (nums.map vN)) (y:=vN 10) (by walk_at "lk") ∅ (ty:=0) ∅ (cE cn ⋯)
 have eh:=RO.at_ a ha5;have hm:=(bG ht (show a+1<6 by omega)).2;have hm':=(bG ht ho6).2;have hd:aj ab (a+1) o≠0:=λe=>hne ((ds ht (show a+1<6 by omega) ho6).2.1.mpr e)
 obtain⟨l1,l2,l3,l4⟩:=xV L hm hm' (k:=nums.getD a 0/311040%6) (Nat.mod_lt _ nofun) (mD (nums.getD a 0)) hd;have n5:=gn ht L (show a+1<6 by omega);have n5':=gn ht L ho6;have hlen6:(hs.getD (a+1) []).length<=6:=by
  rw[eh];unfold gq;simp only[List.length_append,List.length_take,List.length_drop,List.length_singleton,n5];omega
 have l1:eu (hs.getD (a+1) []) (bj ls ab o) ((aj ab (a+1) o:Int)+2)=aj ab (a+1) o+2:=by rw[eh];exact l1
 have l2:eu (hs.getD (a+1) []) (bj ls ab o) ((aj ab (a+1) o:Int)+1)=aj ab (a+1) o+2:=by rw[eh];exact l2
 have l3:eu (bj ls ab o) (hs.getD (a+1) []) 0=1:=by rw[eh];exact l3
 have l4:eu (bj ls ab o) (hs.getD (a+1) []) 1=2:=by rw[eh];exact l4
 have en:=kq ls ab ho6;refine z7 25 26 27 ∅ (by decide +kernel) (by decide +kernel) (by decide +kernel) (by decide +kernel) (v1 := .str (hs.getD (a+1) [])) (v2:=vN (aj ab (a+1) o+2)) (v3:=vN ((a+1+o)%2)) ?_ ?_ ?_ ?_
 ·exact uA RO (show a+1<6 by omega) (by walk_at "lk") (by walk_at "ee") rfl ∅ (by walk_at "lk") (by walk_at "ee") rfl ∅
 ·refine ev_add (x:=vN (aj ab (a+1) o)) (y:=vN 2) (look_other rfl ?_) ∅ rfl
  refine ah rfl (x := .list ((List.range' 0 6).map λq=>vN (aj ab (a+1) q))) (y:=vN o) (look_other rfl ?_) (by walk_at "ee") (ty:=0) ∅ (iI nofun ho6);refine ah rfl (x:=st) (y:=vN (a+1)) (by walk_at "lk") (by walk_at "ee") (ty:=0) ∅ ?_;rw[hst];exact gm nofun ⋯
 ·exact ev_bin nofun (x:=vN (a+1+o)) (y:=vN 2) (ev_add (x:=vN (a+1)) (y:=vN o) (by walk_at "lk") (by walk_at "ee") rfl) ∅ (cS nofun)
 generalize hs.getD (a+1) []=ty at *;obtain⟨d,hd'⟩:∃d,d=aj ab (a+1) o:=⟨_,rfl⟩;rw[<-hd']at l1 l2 |-;obtain⟨r,hr⟩:∃r,r=(a+1+o)%2:=⟨_,rfl⟩;have hr2:r<2:=by rw[hr];exact Nat.mod_lt _ nofun
 rw[<-hr];have nm_ev:∀{N:Nat} {ss:List Mine.Slot} {e1 e2:Expr} {p:Pos},look sq (aq nW ss) (ev um [] N sq (aq nW ss)) e1=(true, .list ((aV ls ab).map .str))->ev um [] N sq (aq nW ss) e2=(true,vN o)->ix e2=false->EA [] e1=0->ev um [] (N+1) sq (aq nW ss) (.Subscript e1 e2 p)=(true, .str (bj ls ab o)):=λ{N ss e1 e2 p} f1 f2 f3 f4=>
  (ah f3 f1 f2 f4 (bp (by rw[n6];decide) (by rw[n6];exact ho6))).trans (by rw[en])
 generalize bj ls ab o=nmo at *;refine oq (v := .bool false) false ∅ ∅ ?_ rfl ?_
 ·refine ev_cmp nofun (x:=vN (d+2)) (y:=vN (d+2)) (c:=false) ?_ (by walk_at "ee") ?_
  ·have hv:eu ty nmo (((d+2:Nat):Int)-(r:Nat))=((d+2:Nat):Int):=by
    rcases(show r=0\/r=1 by omega)with e|e
    ·rw[e,show(((d+2:Nat):Int)-(0:Nat))=(d:Int)+2 by omega,l1];omega
    ·rw[e,show(((d+2:Nat):Int)-(1:Nat))=(d:Int)+1 by omega,l2];omega
   refine ev_call ∅ ∅ ∅ (vs:=[.str ty, .str nmo, .int (((d+2:Nat):Int)-(r:Nat))]) (evL_of (by walk_at "ee") (evL_of (nm_ev (by walk_at "lk") (by walk_at "ee") rfl ∅) (evL_of ?_ evL_nil))) (bJ (F:=fLev) rfl ((rX _ _ _ ⋯ ⋯).trans (by rw[hv];rfl)));exact ev_bin nofun (x:=vN (d+2)) (y:=vN r) (by walk_at "ee") (by walk_at "ee") rfl
  ·show((true, !decide (((d+2:Nat):Int)=((d+2:Nat):Int))):Bool×Bool)=_
   rw[decide_eq_true rfl];rfl
 refine oq (v := .bool false) false ∅ ∅ ?_ rfl ?_
 ·refine ev_cmp nofun (x:=vN (r+1)) (y:=vN (r+1)) (c:=false) ?_ (ev_add (x:=vN r) (y:=vN 1) (by walk_at "lk") ∅ rfl) ?_
  ·have hv:eu nmo ty (r:Nat)=((r+1:Nat):Int):=by
    rcases(show r=0\/r=1 by omega)with e|e
    ·rw[e];exact l3
    ·rw[e];exact l4
   exact ev_call ∅ ∅ ∅ (vs:=[.str nmo, .str ty,vN r]) (evL_of (nm_ev (by walk_at "lk") (by walk_at "ee") rfl ∅) (by walk_at "el")) (bJ (F:=fLev) rfl ((rX _ _ _ ⋯ ⋯).trans (by rw[hv];rfl)))
  ·show((true, !decide (((r+1:Nat):Int)=((r+1:Nat):Int))):Bool×Bool)=_
   rw[decide_eq_true rfl];rfl
 refine lK ∅ ?_;exact ev_cmp nofun (x:=du) (y:=du) (by walk_at "ee") (by walk_at "ee") (by rw[hdu];exact B3)
noncomputable def fLaw:List V->R:=bN um [] 1000 (cU ["script"] iz)
theorem wQ{ns:List Int}(hn:ns.length<=63):fLaw [.list (ns.map .int)]=(true, .bool true):=by
 refine iC (ns:=nW) (ss:=k9 (.val (.list (ns.map .int))) .un .un .un .un .un .un .un .un .un .un .un .un .un .un .un .un .un .un .un .un .un .un .un .un .un .un .un) rfl ∅ ?_;refine EU hn ?_;have hlen:(numsOf ns).length=11:=by unfold numsOf;simp
 generalize numsOf ns=nums at hlen |-;refine EW ⟨_,rfl⟩ ⟨_,rfl⟩ hlen ?_;have ht:=oD nums;have L:=wO nums;generalize fN (aH nums 5)=ab at *;generalize ax nums=ls at *;have RO:so ls nums ab (aT ls nums ab 5):=⟨λi hi=>by
  unfold aW;rw[List.length_append,List.length_replicate];have:=(sj ht hi).2;have:=(fB (nums:=nums) L ht hi).1;omega,λk hk=>ld ls nums ab ht hk⟩
 refine EX ht L ?_;refine E1 hlen ht L ?_;refine E3 ht (ko nums) λp c => ?_
 refine E5 ht L RO ?_;exact E6 hlen ht L RO
end
section
open PySem PySem.W PySem.Calls PyProof.Rows PySem.Challenge
theorem kr{G:Cfg}{n:Nat}{a:Addr}{F F':List V->R}(h:dJ G n a F)(e:∀as,(F' as).1=true->F as=F' as):dJ G n a F':=λA r=>by
 refine⟨(h A r).1,λX s as us old off al rp ok => ?_⟩;have e':=e as ok;have:=(h A r).2 X s as us old off al rp (by rw[e'];exact ok);rw[e']at this;exact this
theorem oV{G:Cfg}{n m:Nat}{a:Addr}{F:List V->R}(h:dJ G n a F)(hm:n<=m):dJ G m a F:=λA r=>h A (r.less hm)
section
variable {w:World} {h:Heap} {mN mg mb:Str->Option Value}
theorem Au(Bs:iY (GW w h) 194 mN mg mb)(N:zZ mg mN):∀x∈GL,∃f u,x.1=nm f/\mg f=some u/\∀X h',pi (GW w h) h'->w6 (GW w h) X->am (GW w h) X h' x.2 u:=λx hx=>by
 unfold GL at hx;simp only[List.mem_cons,List.not_mem_nil,or_false]at hx
 rcases hx with rfl|rfl|rfl|rfl|rfl
 ·obtain⟨t,e⟩:=f7 (said N.g (n:="_MAX_STRING_SIZE") ∅)
  exact⟨"_MAX_STRING_SIZE",_,rfl,e,λX h' _ _=>am.int_iff.mpr ⟨t,rfl⟩⟩
 ·obtain⟨t,e⟩:=f7 (said N.g (n:="_MOVE_COST") ∅)
  exact⟨"_MOVE_COST",_,rfl,e,λX h' _ _=>am.int_iff.mpr ⟨t,rfl⟩⟩
 ·obtain⟨t,e⟩:=f7 (said N.g (n:="_CASE_COST") ∅)
  exact⟨"_CASE_COST",_,rfl,e,λX h' _ _=>am.int_iff.mpr ⟨t,rfl⟩⟩
 ·obtain⟨t,e⟩:=jx (x:=tx [13,10]) (said N.g (n:="CRLF") ∅)
  exact⟨"CRLF",_,rfl,e,λX h' _ _=>am.str_iff.mpr ⟨t,rfl⟩⟩
 ·exact⟨"Whitespace",_,rfl,iU (said N.g (n:="Whitespace") ∅),λX h' _ _=>am.cls_iff.mpr rfl⟩
theorem gp(Bs:iY (GW w h) 194 mN mg mb)(N:zZ mg mN)(n:Nat)(fn meth:List (Nm×(List V->R)))(hf:∀x∈fn,∃f a,x.1=nm f/\mg f=some (.ref a)/\dJ (GW w h) n a x.2)(hm:∀x∈meth,∃m f,x.1=nm m/\vo (GW w h) mN m f/\dJ (GW w h) n f x.2):
 ∀A,gA n A->aB (GW w h) A ⟨GL,fn,meth⟩:=
 zE Bs (Au Bs N) hf hm
theorem iX{α:Type}{P:α->Prop}:∀x∈([]:List α),P x:=λ_ h=>nomatch h
theorem qH{P:Addr->Prop}{h':Heap}:∀{vs:List Value} {ns:List Int},IntsAre vs ns->Reps (GW w h) P h' (ns.map .int) vs
 |_,_, .nil=>Reps.nil
 |_,_, .cons n t x=>Reps.cons (am.int_iff.mpr ⟨t,rfl⟩) (qH x)
theorem x9{as:List V}(h:(fColumnsP as).1=true):kb as=fColumnsP as:=by
 refine iL (λas r=>kb as=r) h λv h=>uH (λv r=>kb [v]=r) h λx h => ?_
 have h1:=of_decide_eq_true h;rw[decide_eq_true h1];exact tU _ h1
theorem DR(B:lI h):dJ (GW w h) 4 233 fLaw:=by
 obtain⟨mN,mg,mb,Bs,N⟩:=BO (w:=w) B;have lim:(GW w h).h0.NoLimit:=Bs.lim;have F0:=λn=>gp Bs N n [] [] iX iX
 have rf:∀{n:Str} {a:Addr},(fR PW).globals.lookup n=some (some (.ref a))->mg n=some (.ref a):=λ{n a} e=>iU (said N.g e)
 have rn:∀{n:Str} {a:Addr},(match(fR PW).nss with|x::_=>x.2|[]=>[]).lookup n=some (some (.ref a))->mN n=some (.ref a):=λ{n a} e=>iU (said N.n e)
 have kSub:dJ (GW w h) 1 45 fSub:=fo (EH B) lim (F0 0);have kLev:dJ (GW w h) 2 52 fLev:=fo (EI B) lim (gp Bs N 1 [(nm "_substitution_cost",fSub)] [] (λx hx=>by
  rw[List.mem_singleton]at hx;subst hx;exact⟨"_substitution_cost",45,rfl,rf ∅,kSub⟩) iX)
 have kQuote:dJ (GW w h) 2 69 fQuoteP:=oV (kr (zO (BL B) lim (F0 0) Bs.glob (rf ∅) (rf ∅) (BQ B) (BR B) zW) λas=>BW) nofun;have kB1:dJ (GW w h) 1 87 fB1r:=Ex (FQ B) lim (F0 0) Bs.glob (rf ∅) (DA B) EE;have kB3:dJ (GW w h) 1 133 fB3r:=Ez (FR B) lim (F0 0) Bs.glob (rf ∅) B.dict nofun EF;have kRun:dJ (GW w h) 1 157 fRunP:=kr (fo (EJ B) lim (F0 0)) λas=>EQ
 have kInd:dJ (GW w h) 1 164 fIndentP:=kr (fo (zX B) lim (F0 0)) λas=>Ab
 have kLess:dJ (GW w h) 2 185 fLessP:=kr (fo (Dx B) lim (gp Bs N 1 [] [(nm "longest_run_of_spaces",fRunP),(nm "indent_level",fIndentP)] iX (λx hx=>by
  simp only[List.mem_cons,List.not_mem_nil,or_false]at hx
  rcases hx with rfl|rfl
  ·exact⟨"longest_run_of_spaces",157,rfl,⟨rn ∅,EK B,⟨none,by rw[typeLookup_type,builtinLookup_eq_fast];kernel_rfl⟩,nofun⟩,kRun⟩
  ·exact⟨"indent_level",164,rfl,⟨rn ∅,zY B,⟨none,by rw[typeLookup_type,builtinLookup_eq_fast];kernel_rfl⟩,nofun⟩,kInd⟩))) λas=>DG
 have kInit:dJ (GW w h) 2 195 (Cj runW):=Bu Bs (Dv B) (rn ∅) (let⟨o,fd,h1,h2,_⟩:=Dw B;⟨o,h1,h2⟩) BJ (F0 0);have kCol:dJ (GW w h) 1 206 fColumnsP:=kr (fo (xG B) lim (F0 0)) λas=>x9
 have kAbove:dJ (GW w h) 3 211 fAbove:=fo (BM B) lim (gp Bs N 2 [(nm "_law_columns",fColumnsP),(nm "Whitespace",Cj runW)] [(nm "less",fLessP)] (λx hx=>by
  simp only[List.mem_cons,List.not_mem_nil,or_false]at hx
  rcases hx with rfl|rfl
  ·exact⟨"_law_columns",206,rfl,rf ∅,oV kCol nofun⟩
  ·exact⟨"Whitespace",195,rfl,rf ∅,kInit⟩) (λx hx=>by
  rw[List.mem_singleton]at hx;subst hx;exact⟨"less",185,rfl,⟨rn ∅,Dy B,⟨none,by rw[typeLookup_type,builtinLookup_eq_fast];kernel_rfl⟩,nofun⟩,kLess⟩))
 have kHeads:dJ (GW w h) 1 216 fHeads:=fo (BN B) lim (F0 0);have kMail:dJ (GW w h) 3 223 fMail:=fo (Dz B) lim (gp Bs N 2 [(nm "quotedata",fQuoteP)] [] (λx hx=>by
  rw[List.mem_singleton]at hx;subst hx;exact⟨"quotedata",69,rfl,rf ∅,kQuote⟩) iX)
 have kDue:dJ (GW w h) 1 228 fDue:=fo (EL B) lim (F0 0);exact fo (EM B) lim (gp Bs N 3 _ [] (λx hx=>by
  simp only[List.mem_cons,List.not_mem_nil,or_false]at hx
  rcases hx with rfl|rfl|rfl|rfl|rfl|rfl|rfl
  ·exact⟨"_law_above",211,rfl,rf ∅,kAbove⟩
  ·exact⟨"_law_heads",216,rfl,rf ∅,oV kHeads nofun⟩
  ·exact⟨"_law_mail",223,rfl,rf ∅,kMail⟩
  ·exact⟨"_law_due",228,rfl,rf ∅,oV kDue nofun⟩
  ·exact⟨"_levenshtein_distance",52,rfl,rf ∅,oV kLev nofun⟩
  ·exact⟨"in_table_b1",87,rfl,rf ∅,oV kB1 nofun⟩
  ·exact⟨"map_table_b3",133,rfl,rf ∅,oV kB3 nofun⟩) iX)
end
theorem holds3:rw_uk0028_03.Holds:=yx λw s a vs ns B hg hl hi hy hn=>by
 obtain⟨hh,gg,dr,tk,os⟩:=s;have room:gA 4 callerA:=⟨rfl,nofun,nofun⟩;have K:=(DR (w:=w) B callerA room).2 (λ_=>False) _ [.list (ns.map .int)] [.ref a] (λ_ _ e=>e) (λ_ f=>f.elim) (λ_ f=>f.elim)
  (Reps.cons (am.list_iff.mpr ⟨a,vs.toArray,rfl,λf=>f,hl,qH hi⟩) Reps.nil) (by rw[wQ hn])
 rw[wQ hn]at K;refine K _ _ λu s' k r => ?_
 obtain⟨h',t',rfl,kk⟩:=k;exact⟨am.bool_iff.mp r,kk,rfl,hg⟩
end
end Mine
theorem PySem.Challenge.cw_uk0028_03_holds : PySem.Challenge.rw_uk0028_03.Holds :=
 Mine.holds3
