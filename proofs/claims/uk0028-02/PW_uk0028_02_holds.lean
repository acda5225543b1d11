import PyProof.Rows.All
import Wide.All
import OpenK.AllK
import Wide.FinOn
import Open.Boot
import PyProof.FactsInt
import PyProof.ListMulAny
import PyProof.LetGo
import PyProof.Rows.SeqCalls
import PyProof.Rows.SumAny
import PyProof.Rows.SeqGen
import PyProof.Rows.FactsT3
import PyProof.Rows.FactsT2
import PyProof.Rows.FactsT1
import PyProof.Rows.EnumRows
import PyProof.Rows.SeqRange
import PyProof.Rows.StrOrd
import PyProof.Rows.Tup
import PyProof.TupleOfSeq
import PyProof.ListStr
import PyProof.Rows.SortStr
import PyProof.Rules2
import PyProof.RulesDelMore
import PyProof.CallType
import PyProof.StrCalls
import PyProof.StrCalls2
import PyProof.Rows.StrNews2
import PyProof.Rows.StrJoin2
import PyProof.StrCaseBound
import PyProof.ListRange
import PyProof.Rows.Range3
import PyProof.RangeFor
import PyProof.WalksPairs
import PyProof.WalksMore
import PyProof.WalksEnum
import PyProof.EnumMake
import PyProof.Draws
import PyProof.StrWalks
import PyProof.CompFree
import PyProof.Rows.ListAppend
import PyProof.Rows.SortShell
import PyProof.ForAppend
import PyProof.RulesAssignMore
import PyProof.Rows.TupAssign
import PyProof.Dict
import PyProof.Raises
import PyProof.ForAny
import PyProof.Cells
import OpenK.KCls
import PyProof.ObjNew
import PyProof.InstLoad
import PyProof.Rows.PlainObj
import PyProof.AssignAttr
import PyProof.SetRoads
import PyProof.DictCalls
import PyProof.DictStraight
import PyProof.StrLawsTight
import Lean
import PySem.Challenge.RW_uk0028_02
set_option Elab.async false
set_option compiler.extract_closed false
set_option maxRecDepth 100000
set_option linter.unusedVariables false
namespace Mine
local macro_rules | `(∅) => `(by kernel_rfl)
local macro_rules | `(⋯) => `(by omega)
local macro_rules | `(nofun) => `(by decide)
theorem ay{a b:Bool}(h:(a&&b)=true):a=true/\b=true:=Bool.and_eq_true_iff.mp h
section
theorem lb{a b:Nat}(h:Nat.ble a b=true):a<=b:=Nat.le_of_ble_eq_true h
section
variable {a b c d e f g i j m n o:Nat} {x y z:Int} {p q r:Prop}
theorem tt:true=true:=rfl
theorem oz{c:Nat}(h:("":PySem.Str).length<=c):("":PySem.Str).length<=c:=h
theorem oy{c:Nat}(h:("":PySem.Str).cps.size<=c):("":PySem.Str).cps.size<=c:=h
theorem oa{a b:Nat}(h:a+1<1+b):a<b:=Nat.lt_of_succ_lt_succ (show a+1<b+1 from Nat.add_comm 1 b▸h)
theorem o0(h:a<b):a<=b:=Nat.le_of_lt h
theorem o1(h:¬a<b):b<=a:=Nat.le_of_not_lt h
theorem o2(h:¬a<=b):b<a:=Nat.lt_of_not_le h
theorem o3:a<=a+b:=Nat.le_add_right a b
theorem o4:a<=b+a:=Nat.le_add_left a b
theorem o5(h:a<=b)(k:b<=c):a<=c:=Nat.le_trans h k
theorem o6(h:a<b)(k:b<=c):a<c:=Nat.lt_of_lt_of_le h k
theorem o7(h:a<=b)(k:b<c):a<c:=Nat.lt_of_le_of_lt h k
theorem o8(h:b<a):a≠b:=Nat.ne_of_gt h
theorem o9:a+b+c=a+(b+c):=Nat.add_assoc a b c
theorem o10(h:a<=b):(↑a:Int) <= ↑b:=Int.ofNat_le.2 h
theorem o11(h:a<b):(↑a:Int) < ↑b:=Int.ofNat_lt.2 h
theorem o12(h:1<=a):a=a-1+1:=(Nat.sub_add_cancel h).symm
theorem o13(h:0<a):a=a-1+1:=(Nat.sub_add_cancel h).symm
theorem o14(h:b<a):a=a-1+1:=(Nat.sub_add_cancel (Nat.lt_of_le_of_lt (Nat.zero_le b) h)).symm
theorem o15(h:1<=a):1+(a-1)=a:=Nat.add_sub_cancel' h
theorem o16(h:1<=a):a+1-1=a-1+1:=(Nat.sub_add_cancel h).symm
theorem o17(h:a-b=c+1):a-(b+1)=c:=congrArg Nat.pred h
theorem o18(h:a-b<=c+1):a-(b+1)<=c:=Nat.pred_le_pred h
theorem o19(h:b<a):a-(b+1)<a-b:=Nat.sub_succ_lt_self a b h
theorem o20(h:a<=c):a-b<=c:=Nat.le_trans (Nat.sub_le a b) h
theorem o21(h:a<=c):min (a-b) a<=c:=Nat.le_trans (Nat.min_le_right _ _) h
theorem o22(h:a<=d):min (b-c) (a-c)<=d:=Nat.le_trans (Nat.min_le_right _ _) (Nat.le_trans (Nat.sub_le a c) h)
theorem o23(h:b<=d):min a b-c<=d:=Nat.le_trans (Nat.sub_le _ _) (Nat.le_trans (Nat.min_le_right _ _) h)
theorem o24(h:b-a=0)(k:a<=b):a=b:=Nat.le_antisymm k (Nat.le_of_sub_eq_zero h)
theorem o25(h:a-b=c+1):¬a<=b:=λk=>Nat.succ_ne_zero c (h.symm.trans (Nat.sub_eq_zero_of_le k))
theorem o26(h:b-a=c+1):a<b:=Nat.lt_of_not_le λk=>Nat.succ_ne_zero c (h.symm.trans (Nat.sub_eq_zero_of_le k))
theorem o27(h:a<=b):a+(b-a)=b:=Nat.add_sub_cancel' h
theorem o28(h:a<=b):b=a+(b-a):=(Nat.add_sub_cancel' h).symm
theorem o29:a+b-a=b:=Nat.add_sub_cancel_left a b
theorem o30:a+b+1-a=b+1:=Nat.add_sub_cancel_left a (b+1)
theorem o31:a+1+b-a=b+1:=(congrArg (· - a) (Nat.succ_add_eq_add_succ a b)).trans (Nat.add_sub_cancel_left a (b+1))
theorem o32(h:b<c-a):a+b<c:=Nat.add_lt_of_lt_sub' h
theorem o33(h:a+b<a+(c-a)):a+b<c:=Nat.add_lt_of_lt_sub' (Nat.lt_of_add_lt_add_left h)
theorem o34(h:¬a<b)(k:¬b=a):a-b=a-b-1+1:=(Nat.sub_add_cancel (Nat.sub_pos_of_lt (Nat.lt_of_le_of_ne (Nat.le_of_not_lt h) k))).symm
theorem o35(h:¬a<b)(k:a<=b):a=b:=Nat.le_antisymm k (Nat.le_of_not_lt h)
theorem o36(h:¬a<b)(k:a<=b):b=a:=Nat.le_antisymm (Nat.le_of_not_lt h) k
theorem o37(h:a<=b)(k:b<=a):a=b:=Nat.le_antisymm h k
theorem o38(h:a<b)(k:b<c):a<c:=Nat.lt_trans h k
theorem o39(h:0<=a/\a<0+b):a<b:=Nat.zero_add b▸h.2
theorem o40(h:0<=a/\a<0+b):a<=b:=Nat.le_of_lt (Nat.zero_add b▸h.2)
theorem o41(h:a<b):0<=a/\a<0+b:=⟨Nat.zero_le _,(Nat.zero_add b).symm▸h⟩
theorem o42(h:a<0+b)(e:c=b):a<c:=e.symm▸Nat.zero_add b▸h
theorem o43(h:a+1<1+b):a<b:=oa h
theorem o44(h:a+1<1+b)(k:Nat.ble b c=true):a+1<=c:=Nat.le_trans (oa h) (lb k)
theorem o45(h:a+1<1+b)(k:Nat.ble (1+b) c=true):a+2<=c:=Nat.le_trans h (lb k)
theorem o46(h:a+1<1+b):1<=a+1/\a+1<1+b:=⟨Nat.succ_pos _,h⟩
theorem o47(e:d=c)(h:a+1<1+b)(k:Nat.ble (b+1) c=true):a+1<d:=e.symm▸Nat.lt_of_le_of_lt (oa h) (lb k)
theorem o48(e:d=c)(h:a+1<1+b)(k:Nat.ble b c=true):a<d:=e.symm▸Nat.lt_of_lt_of_le (oa h) (lb k)
theorem o49(h:a+1<1+b)(l:c<=a)(k:Nat.ble b d=true):c<d:=Nat.lt_of_le_of_lt l (Nat.lt_of_lt_of_le (oa h) (lb k))
theorem o50(h:a+1<1+b)(l:c<=a)(k:Nat.ble b d=true):c<=d:=Nat.le_of_lt (Nat.lt_of_le_of_lt l (Nat.lt_of_lt_of_le (oa h) (lb k)))
theorem o51(h:a+1<1+b)(l:c<=a)(k:Nat.ble b d=true):1+c<=d:=Nat.add_comm c 1▸Nat.lt_of_le_of_lt l (Nat.lt_of_lt_of_le (oa h) (lb k))
theorem o52(k:Nat.ble b c=true):min a b<=c:=Nat.le_trans (Nat.min_le_right a b) (lb k)
theorem o53(k:Nat.ble (b+1) c=true):min a b+1<=c:=Nat.le_trans (Nat.succ_le_succ (Nat.min_le_right a b)) (lb k)
theorem o54(h:a<b):a+1<b+1:=Nat.succ_lt_succ h
theorem o55(h:a+1<b+1):a<b:=Nat.lt_of_succ_lt_succ h
theorem o56(h:a+1<=b):a<b:=h
theorem o57(h:a+1<=b):a<=b:=Nat.le_of_succ_le h
theorem o58(h:a<b):a+1<=b:=h
theorem o59(h:a+c<b):a<b:=Nat.lt_of_le_of_lt (Nat.le_add_right _ _) h
theorem o60(h:a+c<=b):a<=b:=Nat.le_trans (Nat.le_add_right _ _) h
theorem o61(h:a+c<=b):c<=b:=Nat.le_trans (Nat.le_add_left _ _) h
theorem o62(h:a+(c+1)=b):a<b:=h▸Nat.lt_add_of_pos_right (Nat.succ_pos c)
theorem o63(h:a<b+1+c):a<b+(c+1):=Nat.succ_add_eq_add_succ b c▸h
theorem o64(h:a+(b+1)<c):a+1+b<c:=(Nat.succ_add_eq_add_succ a b).symm▸h
theorem o65(h:a+(b+1)<=c):a+1+b<=c:=(Nat.succ_add_eq_add_succ a b).symm▸h
theorem o66(h:a+(b+1)=c):a+1+b=c:=(Nat.succ_add_eq_add_succ a b).trans h
theorem o67(h:a=b):a<=b:=Nat.le_of_eq h
theorem o68(h:a=b):b<=a:=Nat.le_of_eq h.symm
theorem o69(h:a=b+1):b<a:=Nat.le_of_eq h.symm
theorem o70(h:a<=b):a+1<=b+1:=Nat.succ_le_succ h
theorem o71(h:a<=b):a<b+1:=Nat.lt_succ_of_le h
theorem o72(h:a<b+1):a<=b:=Nat.le_of_lt_succ h
theorem o73(h:a<b+1)(k:¬a=b):a<b:=Nat.lt_of_le_of_ne (Nat.le_of_lt_succ h) k
theorem o74(h:a<b+1)(k:c<a):c<b:=Nat.lt_of_lt_of_le k (Nat.le_of_lt_succ h)
theorem o75(h:a<=b+1)(k:c<a):c<=b:=Nat.le_of_lt_succ (Nat.lt_of_lt_of_le k h)
theorem o76(h:a<=b+1)(k:b<a):a=b+1:=Nat.le_antisymm h k
theorem o77(e:a=b+1)(k:c<=b):c<a:=e.symm▸Nat.lt_succ_of_le k
theorem o78(h:a<=2*b):a+1+1<=2*(b+1):=Nat.succ_le_succ (Nat.succ_le_succ h)
theorem o79(h:a<=m)(k:b<=n)(l:Nat.ble (m+n) c=true):a+b<=c:=Nat.le_trans (Nat.add_le_add h k) (lb l)
theorem o80(h:a<=m/\p)(l:Nat.ble (1+m) c=true):1+a<=c:=Nat.le_trans (Nat.add_le_add_left h.1 1) (lb l)
theorem o81(h:a<=m/\p)(l:Nat.ble (m+n+o) c=true):a+n+o<=c:=Nat.le_trans (Nat.add_le_add_right (Nat.add_le_add_right h.1 n) o) (lb l)
theorem o82(d:a<=m)(h:b<=n/\p)(l:Nat.ble (m+n) c=true):a+b<=c:=Nat.le_trans (Nat.add_le_add d h.1) (lb l)
theorem o83(d:a<=m)(h:b<=n/\p)(l:Nat.ble (o+n+m) c=true):o+b+a<=c:=Nat.le_trans (Nat.add_le_add (Nat.add_le_add_left h.1 o) d) (lb l)
theorem o84(e:d=c)(h:a<m)(l:Nat.ble (n+m) c=true):n+a<d:=e.symm▸Nat.lt_of_lt_of_le (Nat.add_lt_add_left h n) (lb l)
theorem o85(e:d=c)(h:a<m)(l:Nat.ble m c=true):a<d:=e.symm▸Nat.lt_of_lt_of_le h (lb l)
theorem o86(e:d=c)(l:Nat.ble m c=true):m<=d:=e.symm▸lb l
theorem o87(e:d=c)(l:Nat.ble c m=true):d<=m:=e.symm▸lb l
theorem o88(e:d=c)(k:a<d)(l:Nat.ble c m=true):a<m:=Nat.lt_of_lt_of_le (e▸k) (lb l)
theorem o89(h:a<=b)(l:Nat.ble b c=true):a<=c:=Nat.le_trans h (lb l)
theorem o90(h:a<=b)(l:Nat.ble (b+1) c=true):a<c:=Nat.lt_of_le_of_lt h (lb l)
theorem o91(h:a<b)(l:Nat.ble b (c+1)=true):a<=c:=Nat.le_of_lt_succ (Nat.lt_of_lt_of_le h (lb l))
theorem o92(h:a<b)(l:Nat.ble b c=true):¬a=c:=λe=>Nat.lt_irrefl _ (Nat.lt_of_lt_of_le h (e.symm▸lb l))
theorem o93(h:a<=b)(k:b<c)(l:Nat.ble c d=true):a<d:=Nat.lt_of_lt_of_le (Nat.lt_of_le_of_lt h k) (lb l)
theorem o94(h:a<=b)(k:b<=c)(l:Nat.ble c d=true):a<=d:=Nat.le_trans (Nat.le_trans h k) (lb l)
theorem o95(h:m<=a/\a<n)(k:Nat.ble i m=true)(l:Nat.ble n j=true):i<=a/\a<j:=⟨Nat.le_trans (lb k) h.1,Nat.lt_of_lt_of_le h.2 (lb l)⟩
theorem o96(h:m<=a/\a<n)(l:Nat.ble n i=true):a<i:=Nat.lt_of_lt_of_le h.2 (lb l)
theorem o97(h:m<=a/\a<n)(l:Nat.ble n i=true):a-b<i:=Nat.lt_of_le_of_lt (Nat.sub_le a b) (Nat.lt_of_lt_of_le h.2 (lb l))
theorem o98(h:a+1<=b/\b<c):a<=b/\b<c:=⟨Nat.le_of_succ_le h.1,h.2⟩
theorem o99(h:¬a=b)(k:a<=b):a<b:=Nat.lt_of_le_of_ne k h
theorem o100(h:¬a=b)(k:a>=b):b<a:=Nat.lt_of_le_of_ne k (Ne.symm h)
theorem o101(e:c=b)(k:a<=b)(h:¬a=b):a<c:=e.symm▸Nat.lt_of_le_of_ne k h
theorem o102(h:a<b):¬b<=a:=Nat.not_le.mpr h
theorem o103(h:a=b):¬a<b:=λk=>Nat.lt_irrefl _ (h▸k)
theorem o104(h:a<=b):¬b<a:=Nat.not_lt.mpr h
theorem o105(h:¬a<b):¬a+1<b+1:=λk=>h (Nat.lt_of_succ_lt_succ k)
theorem o106(h:¬a<b):b<=a+1:=Nat.le_succ_of_le (Nat.le_of_not_lt h)
theorem o107(e:a=b)(h:¬c<a):b<=c:=e▸Nat.le_of_not_lt h
theorem o108(e:a=b)(h:¬c<b):a<=c:=e.symm▸Nat.le_of_not_lt h
theorem o109(h:¬a<=b):b<=a:=Nat.le_of_lt (Nat.lt_of_not_le h)
theorem o110(h:¬a=0):0<a:=Nat.pos_of_ne_zero h
theorem o111(h:¬a=0):1<=a:=Nat.pos_of_ne_zero h
theorem o112(h:a<=b/\b<a+c):¬c=0:=λe=>Nat.lt_irrefl a (Nat.lt_of_le_of_lt h.1 (show b<a+0 from e▸h.2))
theorem o113(h:a<b)(k:b<=c):a<min b c:=Nat.lt_min.mpr ⟨h,Nat.lt_of_lt_of_le h k⟩
theorem o114(h:a<min b c):a<b:=Nat.lt_of_lt_of_le h (Nat.min_le_left b c)
theorem o115(h:a<min b c):a<c:=Nat.lt_of_lt_of_le h (Nat.min_le_right b c)
theorem o116:min a b<=a:=Nat.min_le_left a b
theorem o117(h:a<=b/\p):a<=b:=h.1
theorem o118(h:p/\a<=b):a<=b:=h.2
theorem o119(k:d<=m)(h:a<=b/\a<=d)(l:Nat.ble (m+1) c=true):a<c:=Nat.lt_of_le_of_lt h.2 (Nat.lt_of_le_of_lt k (lb l))
theorem o120(e:a=b)(h:c<a):c<b:=e▸h
theorem o121(e:a=b)(h:c<b):c<a:=e.symm▸h
theorem o122(e:a=b)(h:a<=c):b<=c:=e▸h
theorem o123(h:a<=b)(k:c+b<d):c+a<d:=Nat.lt_of_le_of_lt (Nat.add_le_add_left h c) k
theorem o124(h:a<=b)(k:c+8*b+200<d):c+8*a+200<d:=Nat.lt_of_le_of_lt (Nat.add_le_add_right (Nat.add_le_add_left (Nat.mul_le_mul_left 8 h) c) 200) k
theorem o125(k:c+8*(a+1)+200<d):c+3+8*a+200<d:=Nat.lt_of_le_of_lt (Nat.add_le_add_right (Nat.le_trans (Nat.le_of_eq (Nat.add_assoc c 3 (8*a))) (Nat.add_le_add_left (Nat.le_trans (Nat.add_le_add_right (show 3<=8 by decide) _) (Nat.le_of_eq (Nat.add_comm 8 (8*a)))) c)) 200) k
theorem o126(k:c+8*(a+2)+200<d):c+(1+3*0)+8*(a+1)+200<d:=Nat.lt_of_le_of_lt (Nat.add_le_add_right (Nat.le_trans (Nat.le_of_eq (Nat.add_assoc c 1 (8*(a+1)))) (Nat.add_le_add_left (Nat.le_trans (Nat.add_le_add_right (show 1<=8 by decide) _) (Nat.le_of_eq (Nat.add_comm 8 (8*(a+1))))) c)) 200) k
theorem o127(k:c+8*a+200<d):c+200<d:=Nat.lt_of_le_of_lt (Nat.add_le_add_right (Nat.le_add_right c (8*a)) 200) k
theorem o128(k:c+m<d)(l:Nat.ble n m=true):c+n<d:=Nat.lt_of_le_of_lt (Nat.add_le_add_left (lb l) c) k
theorem o129(h:a<=b)(k:c<=3*a):c<=3*b:=Nat.le_trans k (Nat.mul_le_mul_left 3 h)
theorem o130(h:a<=3*b):a<=3*b+c:=Nat.le_trans h (Nat.le_add_right _ _)
theorem o131(h:¬a<=4):a=4+(a-4):=(Nat.add_sub_cancel' (Nat.le_of_lt (Nat.lt_of_not_le h))).symm
theorem o132(k:a<4*(b+1))(h:¬a<=4):a-4<4*b:=Nat.sub_lt_right_of_lt_add (Nat.le_of_lt (Nat.lt_of_not_le h)) k
theorem o133(h:a<=b):b-a<b+1-a:=Nat.sub_lt_sub_right h (Nat.lt_succ_self b)
theorem o134(h:a<=b)(k:¬a=b):a<=b/\¬b-a=0:=⟨h,λe=>k (Nat.le_antisymm h (Nat.le_of_sub_eq_zero e))⟩
theorem o135(h:b-a=c)(k:b<=c)(l:¬c=0):b=c:=Nat.le_antisymm k (h▸Nat.sub_le b a)
theorem o136(h:a<=b)(k:b<a+c):b-a<c:=Nat.sub_lt_left_of_lt_add h k
theorem o137(h:1<=a)(e:b=a):a-1<b:=e.symm▸Nat.sub_lt h (Nat.succ_pos 0)
theorem o138(h:a<=b):a-b=0:=Nat.sub_eq_zero_of_le h
theorem o139(h:a<=m)(l:Nat.ble (m+1) c=true):0<a+1/\a+1<=c:=⟨Nat.succ_pos a,Nat.le_trans (Nat.succ_le_succ h) (lb l)⟩
theorem o140(h:c<b):a<=a+c/\a+c<a+b:=⟨Nat.le_add_right a c,Nat.add_lt_add_left h a⟩
theorem o141(g:e<=a+1)(h:a<=2*b)(k:b<=c)(l:c<d):e+1<=2*d:=Nat.le_trans (Nat.succ_le_succ (Nat.le_trans g (Nat.succ_le_succ (Nat.le_trans h (Nat.mul_le_mul_left 2 k))))) (Nat.mul_le_mul_left 2 l)
theorem o142(g:c<=m*b)(k:b<=a)(h:a<=n)(l:Nat.ble (m*n) d=true):c<=d:=Nat.le_trans g (Nat.le_trans (Nat.mul_le_mul_left m (Nat.le_trans k h)) (lb l))
theorem o143(f:e<=c+1)(g:c<=m*b)(k:b<=a)(h:a<=n)(l:Nat.ble (m*n+1) d=true):e<=d:=Nat.le_trans f (Nat.le_trans (Nat.succ_le_succ (Nat.le_trans g (Nat.mul_le_mul_left m (Nat.le_trans k h)))) (lb l))
theorem o144(h:a<=m*b)(k:b<=n*c)(g:c<=o)(l:Nat.ble (m*(n*o)) d=true):a<=d:=Nat.le_trans h (Nat.le_trans (Nat.mul_le_mul_left m (Nat.le_trans k (Nat.mul_le_mul_left n g))) (lb l))
theorem o145(h:¬a<b):¬(↑a:Int)<b:=mt Int.ofNat_lt.mp h
theorem o146(h:¬a<=b):¬(↑a:Int)<=b:=mt Int.ofNat_le.mp h
theorem o147(h:(↑a:Int)<b):a<b:=Int.ofNat_lt.mp h
theorem o148(h:¬(↑a:Int)<b):b<=a:=Int.ofNat_le.mp (Int.not_lt.mp h)
theorem o149(h:a<=b)(l:Nat.ble b c=true):(↑a:Int)<=OfNat.ofNat c:=Int.ofNat_le.mpr (Nat.le_trans h (lb l))
theorem o150(h:a<b)(l:Nat.ble b c=true):(↑a:Int)<=OfNat.ofNat c:=Int.ofNat_le.mpr (Nat.le_of_lt (Nat.lt_of_lt_of_le h (lb l)))
theorem o151(h:x<y)(k:y<=z):x<=z:=Int.le_trans (Int.le_of_lt h) k
theorem o152(h:x<y)(k:z<=x):z<=y:=Int.le_trans k (Int.le_of_lt h)
theorem o153(h:x<y)(k:y<z/\p):x<z:=Int.lt_trans h k.1
theorem o154(h:¬x<y)(k:z<=y):z<=x:=Int.le_trans k (Int.not_lt.mp h)
theorem o155(h:¬x<y)(k:x<=z):y<=z:=Int.le_trans (Int.not_lt.mp h) k
theorem o156(h:¬x<=y)(k:z<=y):z<=x:=Int.le_trans k (Int.le_of_lt (Int.not_le.mp h))
theorem o157(h:x<=y)(k:y<=x):x=y:=Int.le_antisymm h k
theorem o158(h:x<y):¬x=y:=Int.ne_of_lt h
theorem o159(h:x<y):x<=y:=Int.le_of_lt h
theorem o160(h:0<x/\p):0<=x:=Int.le_of_lt h.1
theorem o161(h:1<=x):0<x:=h
theorem o162(h:x<y):(y<=z)↔(x<=z)/\(y<=z):=⟨λk=>⟨Int.le_trans (Int.le_of_lt h) k,k⟩,λk=>k.2⟩
theorem o163(h:¬x<y):(x<=z)↔(x<=z)/\(y<=z):=⟨λk=>⟨k,Int.le_trans (Int.not_lt.mp h) k⟩,λk=>k.1⟩
theorem o164(l:Nat.ble (b+1) c=true):min a b+1+(b-a)<=c:=Nat.le_trans (Nat.le_of_eq (show min a b+1+(b-a)=b+1 from(Nat.add_right_comm (min a b) 1 (b-a)).trans (congrArg Nat.succ ((Nat.add_comm _ _).trans (Nat.min_comm a b▸Nat.sub_add_min_cancel b a))))) (lb l)
theorem o165(l:Nat.ble (b+1+e) c=true):min a b+1+(e-d)<=c:=Nat.le_trans (Nat.add_le_add (Nat.succ_le_succ (Nat.min_le_right a b)) (Nat.sub_le e d)) (lb l)
theorem o166(k:b<=d/\d<e/\e<=a)(h:a-b<=c+1):a-e<=c:=Nat.le_trans (Nat.sub_le_sub_left (Nat.lt_of_le_of_lt k.1 k.2.1) a) (Nat.pred_le_pred h)
theorem o167(h:a<=3*b):a+(min d e-b+0)<=3*b+(d-b):=Nat.add_le_add h (Nat.sub_le_sub_right (Nat.min_le_left d e) b)
theorem o168(h:a<=2)(g:f<=3*b+(c-b))(k:b<=c)(l:c<d):f+(a+0)<=3*d:=Nat.le_trans (Nat.add_le_add (Nat.le_trans g (Nat.le_trans (Nat.add_le_add_left (Nat.le_mul_of_pos_left (c-b) (Nat.succ_pos 2)) (3*b)) (Nat.le_of_eq ((Nat.mul_add 3 b (c-b)).symm.trans (congrArg (3 * ·) (Nat.add_sub_cancel' k)))))) (Nat.le_succ_of_le h)) (Nat.mul_le_mul_left 3 l)
theorem o169(g:b<=m*c)(k:c<a)(h:a<=n)(l:Nat.ble (m*n+n) d=true):b+(a-c+0)<=d:=Nat.le_trans (Nat.add_le_add (Nat.le_trans g (Nat.mul_le_mul_left m (Nat.le_trans (Nat.le_of_lt k) h))) (Nat.le_trans (Nat.sub_le a c) h)) (lb l)
theorem o170(h:p/\b<=a):b+(a-b)=a:=Nat.add_sub_cancel' h.2
theorem o171(e:a=b%2):a=0\/a=1:=e▸Nat.mod_two_eq_zero_or_one b
theorem o172(l:Nat.ble (b+1) c=true):b-a<c:=Nat.lt_of_le_of_lt (Nat.sub_le b a) (lb l)
theorem o173(h:c<=b/\b<c+(d-c)):b<d:=(Nat.le_total c d).elim (λk=>Nat.add_sub_cancel' k▸h.2) (λk=>absurd h.1 (Nat.not_le.mpr (show b<c+0 from Nat.sub_eq_zero_of_le k▸h.2)))
theorem o174(h:a<=b/\b<a+(c-a)/\p)(e:c=d):a<=b/\b<b+1/\b+1<=d:=⟨h.1,Nat.lt_succ_self b,e▸(Nat.le_total a c).elim (λk=>Nat.add_sub_cancel' k▸h.2.1) (λk=>absurd h.1 (Nat.not_le.mpr (show b<a+0 from Nat.sub_eq_zero_of_le k▸h.2.1)))⟩
theorem o175(h:a<=b/\p)(e:c=d)(k:(r/\b+1<c)/\q):a<=b/\b<b+2/\b+2<=d:=⟨h.1,Nat.lt_add_of_pos_right (Nat.succ_pos 1),e▸k.1.2⟩
theorem o176(e:a=b)(f:a+1=c)(h:d<=a/\a<g)(i:g=j):d<=b/\b<c/\c<=j:=⟨e▸h.1,e▸Nat.le_of_eq f,i▸f▸h.2⟩
theorem o177(h:a<=n)(k:b<=m)(l:Nat.ble (m+1) n=true):a+(b+1-a)<=n:=(Nat.le_total a (b+1)).elim (λq=>(Nat.add_sub_cancel' q).symm▸Nat.le_trans (Nat.succ_le_succ k) (lb l)) (λq=>(Nat.sub_eq_zero_of_le q).symm▸h)
theorem o178(k:a-1<b/\a-1<c/\p):a<=b/\a<=c:=⟨Nat.le_of_pred_lt k.1,Nat.le_of_pred_lt k.2.1⟩
theorem o179(h:a<0+(b+1)):b+1-a=b-a+1:=Nat.succ_sub (Nat.le_of_lt_succ (Nat.lt_of_lt_of_eq h (Nat.zero_add (b+1))))
theorem o180(d:a<=i)(g:f<=m*b)(h:b<=n/\p)(k:c<=j/\q)(l:Nat.ble (1+j+i+m*n) o=true):1+c+a+f<=o:=Nat.le_trans (Nat.add_le_add (Nat.add_le_add (Nat.add_le_add_left k.1 1) d) (Nat.le_trans g (Nat.mul_le_mul_left m h.1))) (lb l)
theorem o181(g:f<=m*b)(h:b<=n/\p)(k:c<=j)(l:Nat.ble (j+m*n) o=true):c+f<=o:=Nat.le_trans (Nat.add_le_add k (Nat.le_trans g (Nat.mul_le_mul_left m h.1))) (lb l)
theorem o182(g:f<=m*b)(h:b<=n/\p)(k:c<=j/\q)(l:Nat.ble (j+3+m*n) o=true):c+(0+1+1)+1+f<=o:=Nat.le_trans (Nat.add_le_add (Nat.add_le_add_right k.1 3) (Nat.le_trans g (Nat.mul_le_mul_left m h.1))) (lb l)
theorem o183(h:a<=b)(k:b-a=c+(d+e+1+1)):a+c+2<=b:=Nat.add_sub_cancel' h▸(k.symm▸(Nat.add_assoc a c 2).symm▸Nat.add_le_add_left (Nat.add_le_add_left (Nat.le_add_left 2 (d+e)) c) a:a+c+2<=a+(b-a))
theorem o184(h:d+c<=n)(l:Nat.ble (n+1) m=true):d+min a c<m:=Nat.lt_of_le_of_lt (Nat.le_trans (Nat.add_le_add_left (Nat.min_le_right a c) d) h) (lb l)
theorem o185(l:Nat.ble c d=true):m*(b-a)+c<=m*b+d:=Nat.add_le_add (Nat.mul_le_mul_left m (Nat.sub_le b a)) (lb l)
theorem o186(h:97<=a):¬a=a-32:=λe=>Nat.lt_irrefl a (Nat.lt_of_le_of_lt (Nat.le_of_eq e) (Nat.sub_lt (Nat.lt_of_lt_of_le nofun h) nofun))
theorem o187(h:97<=a):¬a-32=a:=λe=>Nat.lt_irrefl a (Nat.lt_of_le_of_lt (Nat.le_of_eq e.symm) (Nat.sub_lt (Nat.lt_of_lt_of_le nofun h) nofun))
theorem o188(h:a-b<=0+1):a<=b+1:=Nat.sub_le_iff_le_add'.mp h
theorem o189(h:a<=12)(h1:b<=12)(h2:c<=12)(h3:d<=12)(h4:e<=12)(h5:f<=12)(l:Nat.ble 84 m=true):a+(0+1+1)+(b+(0+1+1)+(c+(0+1+1)+(d+(0+1+1)+(e+(0+1+1)+(f+(0+1+1)+0)))))<=m:=Nat.le_trans (Nat.add_le_add (Nat.add_le_add_right h 2) (Nat.add_le_add (Nat.add_le_add_right h1 2) (Nat.add_le_add (Nat.add_le_add_right h2 2) (Nat.add_le_add (Nat.add_le_add_right h3 2) (Nat.add_le_add (Nat.add_le_add_right h4 2) (Nat.add_le_add_right h5 2)))))) (show 12+2+(12+2+(12+2+(12+2+(12+2+(12+2)))))<=m from lb (a:=84) l)
theorem o190(h:a-b=0):a<=b:=Nat.le_of_sub_eq_zero h
theorem o191(h:a-b<=0):a<=b:=Nat.le_of_sub_eq_zero (Nat.le_zero.mp h)
theorem o192(e:a=b)(h:b<=c):a<=c:=e▸h
theorem o193(e:a=b)(h:b<c):a<c:=e▸h
theorem o194(h:a<=b+c)(e:b=d)(k:d<=f)(l:c<=g):a<=f+g:=Nat.le_trans h (Nat.add_le_add (e▸k) l)
theorem o195(h:a+b<=c)(e:a=d)(f:b=g):d+g<=c:=e▸f▸h
theorem o196(h:a<=15*b)(k:c<=12):c+(0+1+1)+1+a<=15*(b+1):=Nat.le_trans (Nat.add_le_add (Nat.add_le_add_right k 3) h) (Nat.le_of_eq (Nat.add_comm 15 _))
theorem o197(h:a<=6*b)(k:c<=6):c+a<=6*(b+1):=Nat.le_trans (Nat.add_le_add k h) (Nat.le_of_eq (Nat.add_comm 6 _))
theorem o198(e:d=c)(h:b<m)(l:Nat.ble (m+1) c=true):b+1<d:=e.symm▸Nat.lt_of_lt_of_le (Nat.succ_lt_succ h) (lb l)
theorem o199(k:c<b)(h:b<=a)(g:a<d):c<d:=Nat.lt_trans (Nat.lt_of_lt_of_le k h) g
theorem o200(h:a<b)(k:¬a+1=b):a+1<b:=Nat.lt_of_le_of_ne h k
theorem o201(h:a=b):a<=b+c:=h▸Nat.le_add_right _ _
theorem o202(h:a+(b+1)<=c):0+b<=c:=(Nat.zero_add b).symm▸Nat.le_trans (Nat.le_trans (Nat.le_succ b) (Nat.le_add_left (b+1) a)) h
theorem o203(h:a=0):a<=b/\a<=c:=⟨h▸Nat.zero_le b,h▸Nat.zero_le c⟩
theorem o204(h:a+b<c)(k:d<=a+b)(g:c<=n)(l:Nat.ble n m=true):d<=m:=Nat.le_trans k (Nat.le_trans (Nat.le_of_lt h) (Nat.le_trans g (lb l)))
theorem o205(h:a+(b+1)<=n)(l:Nat.ble n m=true):a<m:=Nat.lt_of_lt_of_le (Nat.lt_of_lt_of_le (Nat.lt_add_of_pos_right (Nat.succ_pos b)) h) (lb l)
theorem o206(h:a+(b+(c+1))<=d):a+(b+1)<=d:=Nat.le_trans (Nat.add_le_add_left (Nat.add_le_add_left (Nat.succ_le_succ (Nat.zero_le c)) b) a) h
theorem o207(k:b<=a+1)(h:a<=n)(l:Nat.ble (n+2) c=true):b+1<=c:=Nat.le_trans (Nat.succ_le_succ (Nat.le_trans k (Nat.succ_le_succ h))) (lb l)
theorem o208(h:c<a)(k:a<=b):c<=b:=Nat.le_of_lt (Nat.lt_of_lt_of_le h k)
theorem o209(h:a<=n)(l:Nat.ble n c=true):¬c<a:=Nat.not_lt.mpr (Nat.le_trans h (lb l))
theorem o210 : -(↑b:Int) <= ↑a:=Int.le_trans (Int.neg_nonpos_of_nonneg (Int.natCast_nonneg b)) (Int.natCast_nonneg a)
theorem o211(h:0<a) : -(↑a:Int)<0:=Int.neg_neg_of_pos (Int.natCast_pos.mpr h)
theorem o212(h:0<a) : -(↑a:Int) < ↑b:=Int.lt_of_lt_of_le (Int.neg_neg_of_pos (Int.natCast_pos.mpr h)) (Int.natCast_nonneg b)
theorem o213(h:a<=b) : -(↑b:Int) <= -↑a:=Int.neg_le_neg (Int.ofNat_le.mpr h)
theorem o214(h : -(OfNat.ofNat m:Int)<=x)(k:x<=OfNat.ofNat n)(l:Nat.ble m i=true)(j:Nat.ble (n+1) o=true) : -(OfNat.ofNat i:Int)<=x/\x<OfNat.ofNat o:=⟨Int.le_trans (Int.neg_le_neg (Int.ofNat_le.mpr (lb l))) h,Int.lt_of_le_of_lt k (Int.ofNat_lt.mpr (lb j))⟩
theorem o215(h:m<=a/\a<=n)(l:Nat.ble n c=true):(↑a:Int)<=OfNat.ofNat c:=Int.ofNat_le.mpr (Nat.le_trans h.2 (lb l))
theorem o216(h:m<=a/\p)(l:Nat.ble c m=true):(OfNat.ofNat c:Int) <= ↑a:=Int.ofNat_le.mpr (Nat.le_trans (lb l) h.1)
theorem o217(h:x<=OfNat.ofNat n)(l:Nat.ble n c=true):x.toNat<=c:=Int.toNat_le.mpr (Int.le_trans h (Int.ofNat_le.mpr (lb l)))
theorem o218:(0:Int)<=max 0 x:=Int.le_max_left 0 x
theorem o219(h:(↑a:Int) - ↑b<=0):a<=b:=Int.ofNat_le.mp (Int.le_of_sub_nonpos h)
theorem o220(h:a<=b):(↑a:Int) - ↑b<=0:=Int.sub_nonpos_of_le (Int.ofNat_le.mpr h)
theorem o221(h:¬(↑a:Int) + ↑b < ↑c):c<=a+b:=Int.ofNat_le.mp (Int.not_lt.mp h)
theorem o222(h:a<=b+c):¬(↑b:Int) + ↑c < ↑a:=Int.not_lt.mpr (Int.ofNat_le.mpr h)
theorem o223(h:max 0 (min x (↑a:Int)) = ↑b):b<=a:=Int.ofNat_le.mp (h▸Int.max_le.mpr ⟨Int.natCast_nonneg a,Int.min_le_right x ↑a⟩)
theorem o224(h:¬x<1)(e:y=z):0<x:=Int.not_lt.mp h
theorem o225(h:x<1):x.toNat=0:=Int.toNat_of_nonpos (Int.lt_add_one_iff.mp h)
theorem o226(h:¬x<0):0<=x:=Int.not_lt.mp h
theorem o227(h:x<0):x+y<y:=Int.lt_of_lt_of_le (Int.add_lt_add_right h y) (Int.le_of_eq (Int.zero_add y))
theorem o228(h:x<0):x+y<=y:=Int.le_of_lt (Int.lt_of_lt_of_le (Int.add_lt_add_right h y) (Int.le_of_eq (Int.zero_add y)))
theorem o229(h : -y<=x/\x<y):0<=x+y:=Int.le_trans (Int.le_of_eq (Int.add_left_neg y).symm) (Int.add_le_add_right h.1 y)
theorem o230(h:b+1+1<=a)(k:a<b):p:=absurd (Nat.lt_of_succ_lt h) (Nat.lt_asymm k)
theorem o231(h:b+1+1<=a)(k:a=b):p:=absurd (k▸Nat.lt_of_succ_lt h) (Nat.lt_irrefl _)
theorem o232(h:b+1<=a)(k:a<b):p:=absurd h (Nat.lt_asymm k)
theorem o233(h:a<b)(k:a=b+c):p:=absurd h (Nat.not_lt.mpr (k▸Nat.le_add_right b c))
theorem o234(h:a<b)(k:b<=a):p:=absurd h (Nat.not_lt.mpr k)
theorem o235(h:a<b)(k:a=b):p:=absurd h (k▸Nat.lt_irrefl b)
theorem o236(h:a<b)(k:b=a):p:=absurd h (k▸Nat.lt_irrefl b)
theorem o237(h:a<b)(k:b-a=0):p:=absurd h (Nat.not_lt.mpr (Nat.le_of_sub_eq_zero k))
theorem o238(h:a=b+1)(k:a<=b):p:=absurd (Nat.le_trans (Nat.le_of_eq h.symm) k) (Nat.lt_irrefl b)
theorem o239(h:1<=a)(k:a<=0):p:=absurd k (Nat.not_le.mpr h)
theorem o240(k:b<=d/\d<e/\e<=a)(h:a-b<=0):p:=absurd (Nat.lt_of_lt_of_le (Nat.lt_of_le_of_lt k.1 k.2.1) k.2.2) (Nat.not_lt.mpr (Nat.le_of_sub_eq_zero (Nat.le_zero.mp h)))
end
end
theorem ab{P:Prop}(h:false=true):P:=Bool.noConfusion h
theorem ao{α:Type}{x:α}{P:Prop}(h:none=some x):P:=by cases h
theorem ob02{p1 p2:Prop}{C:Prop}(h:p1/\p2)(k:p1->p2->C):C:=k h.1 h.2
theorem ob03{p1 p2 p3:Prop}{C:Prop}(h:p1/\p2/\p3)(k:p1->p2->p3->C):C:=k h.1 h.2.1 h.2.2
theorem ob04{p1 p2 p3 p4:Prop}{C:Prop}(h:p1/\p2/\p3/\p4)(k:p1->p2->p3->p4->C):C:=k h.1 h.2.1 h.2.2.1 h.2.2.2
theorem ob11{α:Sort _}{p1:α->Prop}{C:Prop}(h:∃a,p1 a)(k:∀a,p1 a->C):C:=let⟨a,h⟩:=h;k a h
theorem ob12{α:Sort _}{p1 p2:α->Prop}{C:Prop}(h:∃a,p1 a/\p2 a)(k:∀a,p1 a->p2 a->C):C:=let⟨a,h⟩:=h;k a h.1 h.2
theorem ob13{α:Sort _}{p1 p2 p3:α->Prop}{C:Prop}(h:∃a,p1 a/\p2 a/\p3 a)(k:∀a,p1 a->p2 a->p3 a->C):C:=let⟨a,h⟩:=h;k a h.1 h.2.1 h.2.2
theorem ob14{α:Sort _}{p1 p2 p3 p4:α->Prop}{C:Prop}(h:∃a,p1 a/\p2 a/\p3 a/\p4 a)(k:∀a,p1 a->p2 a->p3 a->p4 a->C):C:=let⟨a,h⟩:=h;k a h.1 h.2.1 h.2.2.1 h.2.2.2
theorem ob15{α:Sort _}{p1 p2 p3 p4 p5:α->Prop}{C:Prop}(h:∃a,p1 a/\p2 a/\p3 a/\p4 a/\p5 a)(k:∀a,p1 a->p2 a->p3 a->p4 a->p5 a->C):C:=let⟨a,h⟩:=h;k a h.1 h.2.1 h.2.2.1 h.2.2.2.1 h.2.2.2.2
theorem ob21{α:Sort _}{β:Sort _}{p1:α->β->Prop}{C:Prop}(h:∃a b,p1 a b)(k:∀a b,p1 a b->C):C:=let⟨a,b,h⟩:=h;k a b h
theorem ob22{α:Sort _}{β:Sort _}{p1 p2:α->β->Prop}{C:Prop}(h:∃a b,p1 a b/\p2 a b)(k:∀a b,p1 a b->p2 a b->C):C:=let⟨a,b,h⟩:=h;k a b h.1 h.2
theorem ob23{α:Sort _}{β:Sort _}{p1 p2 p3:α->β->Prop}{C:Prop}(h:∃a b,p1 a b/\p2 a b/\p3 a b)(k:∀a b,p1 a b->p2 a b->p3 a b->C):C:=let⟨a,b,h⟩:=h;k a b h.1 h.2.1 h.2.2
theorem ob24{α:Sort _}{β:Sort _}{p1 p2 p3 p4:α->β->Prop}{C:Prop}(h:∃a b,p1 a b/\p2 a b/\p3 a b/\p4 a b)(k:∀a b,p1 a b->p2 a b->p3 a b->p4 a b->C):C:=let⟨a,b,h⟩:=h;k a b h.1 h.2.1 h.2.2.1 h.2.2.2
theorem ob25{α:Sort _}{β:Sort _}{p1 p2 p3 p4 p5:α->β->Prop}{C:Prop}(h:∃a b,p1 a b/\p2 a b/\p3 a b/\p4 a b/\p5 a b)(k:∀a b,p1 a b->p2 a b->p3 a b->p4 a b->p5 a b->C):C:=let⟨a,b,h⟩:=h;k a b h.1 h.2.1 h.2.2.1 h.2.2.2.1 h.2.2.2.2
theorem ob26{α:Sort _}{β:Sort _}{p1 p2 p3 p4 p5 p6:α->β->Prop}{C:Prop}(h:∃a b,p1 a b/\p2 a b/\p3 a b/\p4 a b/\p5 a b/\p6 a b)(k:∀a b,p1 a b->p2 a b->p3 a b->p4 a b->p5 a b->p6 a b->C):C:=let⟨a,b,h⟩:=h;k a b h.1 h.2.1 h.2.2.1 h.2.2.2.1 h.2.2.2.2.1 h.2.2.2.2.2
theorem ob31{α:Sort _}{β:Sort _}{γ:Sort _}{p1:α->β->γ->Prop}{C:Prop}(h:∃a b c,p1 a b c)(k:∀a b c,p1 a b c->C):C:=let⟨a,b,c,h⟩:=h;k a b c h
theorem ob32{α:Sort _}{β:Sort _}{γ:Sort _}{p1 p2:α->β->γ->Prop}{C:Prop}(h:∃a b c,p1 a b c/\p2 a b c)(k:∀a b c,p1 a b c->p2 a b c->C):C:=let⟨a,b,c,h⟩:=h;k a b c h.1 h.2
theorem ob33{α:Sort _}{β:Sort _}{γ:Sort _}{p1 p2 p3:α->β->γ->Prop}{C:Prop}(h:∃a b c,p1 a b c/\p2 a b c/\p3 a b c)(k:∀a b c,p1 a b c->p2 a b c->p3 a b c->C):C:=let⟨a,b,c,h⟩:=h;k a b c h.1 h.2.1 h.2.2
theorem ob41{α:Sort _}{β:Sort _}{γ:Sort _}{δ:Sort _}{p1:α->β->γ->δ->Prop}{C:Prop}(h:∃a b c d,p1 a b c d)(k:∀a b c d,p1 a b c d->C):C:=let⟨a,b,c,d,h⟩:=h;k a b c d h
theorem ob43{α:Sort _}{β:Sort _}{γ:Sort _}{δ:Sort _}{p1 p2 p3:α->β->γ->δ->Prop}{C:Prop}(h:∃a b c d,p1 a b c d/\p2 a b c d/\p3 a b c d)(k:∀a b c d,p1 a b c d->p2 a b c d->p3 a b c d->C):C:=let⟨a,b,c,d,h⟩:=h;k a b c d h.1 h.2.1 h.2.2
set_option maxHeartbeats 8000000
set_option hygiene false in
local macro_rules | `(tactic|injections $e:ident) => `(tactic|first|exact ab $e|exact ao $e|(obtain rfl:=Option.some.inj $e;clear $e)|(obtain⟨rfl,rfl⟩:=Prod.mk.inj (Option.some.inj $e);clear $e)|cases $e:ident)
set_option hygiene false in
local macro_rules | `(tactic|omega)=>do
 let mut t <- `(tactic|fail)
 for i in [0:241]do
  t <- `(tactic|first|(apply $(Lean.mkIdent (.str `Mine s!"o{240-i}"));solve_by_elim* -symm -exfalso (transparency := .instances) only[*,tt])| $t:tactic)
 `(tactic|first|with_reducible first|assumption|rfl|decide|((fail_if_success (with_reducible refine oz ?_));(fail_if_success (with_reducible refine oy ?_));with_reducible_and_instances $t:tactic)|lia|omega (config:={}))
section
open PySem PySem.W PySem.Calls PyProof.Rows
section
variable {p:Program} {w:World} {n₀:Nat} {ann:Option Value} {q:Pos}
theorem fN{tb:String->Option Builtin}:∀{n N:Nat} {s s':Shared} {t t':Thread} {r:Shared×Thread},topGo tb p w n₀ ann n s t=some (s',t') ->
 topGo tb p w n₀ ann N s' t'=some r->topGo tb p w n₀ ann (n+N) s t=some r
 |0,N,s,s',t,t',r,h,k=>by
  obtain⟨rfl,rfl⟩:s=s'/\t=t':=by simpa[topGo]using h
  rw[Nat.zero_add];exact k
 |n+1,N,s,s',t,t',r,h,k=>by
  rw[show n+1+N=n+N+1 by omega];unfold topGo at h |-;cases he:through t with
  |true=>rw[he]at h;injections h
  |false=>
   rw[he]at h;cases hk:stepOk n₀ ann t with
   |false=>rw[hk]at h;injections h
   |true=>
    rw[hk]at h;cases hs:step (denote tb) p w s t with
    |halt o s₂=>rw[hs]at h;injections h
    |go s₂ t₂=>rw[hs]at h;exact fN h k
noncomputable def ad(p:Program)(w:World)(n₀:Nat)(ann:Option Value)(q:Pos){α:Type}(n:Nat)(m:Sem α)(s:Shared)(a:α)(s':Shared):Prop:=
 ∀(K:α->Sem Fin) (H:Value->Sem Fin) (gd:Bool->Bool) (lv:List Value->List Value) (c:Code) (ps:Pos),
  ∃ps',topGo treeTable p w n₀ ann n s ⟨m.wrap K H gd lv,c,ps,[topFrame q]⟩=some (s',⟨K a,c,ps',[topFrame q]⟩)
variable {α β:Type} {s s₁ s₂ s':Shared} {n n₁ n₂:Nat}
theorem ad.pure(a:α)(s:Shared):ad p w n₀ ann q 0 (pure a:Sem α) s a s:=λ_ _ _ _ _ ps=>⟨ps,rfl⟩
theorem ad.bind{m:Sem α}{f:α->Sem β}{a:α}{b:β}(h:ad p w n₀ ann q n₁ m s a s₁)(k:ad p w n₀ ann q n₂ (f a) s₁ b s₂):ad p w n₀ ann q (n₁+n₂) (m>>=f) s b s₂:=by
 intro K H gd lv c ps;obtain⟨ps₁,e₁⟩:=h (λa=>(f a).wrap K H gd lv) H gd lv c ps;obtain⟨ps₂,e₂⟩:=k K H gd lv c ps₁;refine⟨ps₂, ?_⟩;rw[show(m>>=f)=m.bind f from rfl,Sem.bind_eq_wrap,Sem.wrap_wrap];exact fN e₁ e₂
theorem ad.keep{m:Sem α}{a:α}(vs:List Value)(h:ad p w n₀ ann q n m s a s'):ad p w n₀ ann q n (m.keep vs) s a s':=by
 intro K H gd lv c ps;rw[Sem.keep_eq_wrap,Sem.wrap_wrap];exact h K H (λg=>gd (id g)) (λl=>lv (vs++l)) c ps
theorem ad.holding{m:Sem α}{a:α}(vs:List Value)(h:ad p w n₀ ann q n m s a s'):ad p w n₀ ann q n (PySem.holding vs m) s a s':=by
 unfold PySem.holding
 split
 ·exact h
 ·exact h.keep _
theorem ad.tryCatch{m:Sem α}{a:α}(f:Value->Sem α)(h:ad p w n₀ ann q n m s a s'):ad p w n₀ ann q n (MonadExcept.tryCatch m f) s a s':=by
 intro K H gd lv c ps;rw[show(MonadExcept.tryCatch m f:Sem α)=Sem.tryCatch m f from rfl,Sem.tryCatch_eq_wrap,Sem.wrap_wrap];exact h K (λe=>(f e).wrap K H gd lv) (λ_=>gd true) (λl=>lv (id l)) c ps
theorem ad.onRaise{m:Sem α}{a:α}(f:Value->Sem Unit)(h:ad p w n₀ ann q n m s a s'):ad p w n₀ ann q n (m.onRaise f) s a s':=by
 intro K H gd lv c ps;rw[Sem.onRaise_eq_wrap,Sem.wrap_wrap];exact h K (λe=>((f e).bind λ_=>(.raise e:Sem α)).wrap K H gd lv) (λg=>gd (id g)) (λl=>lv (id l)) c ps
theorem bV{t t':Thread}(h1:through t=false)(h2:stepOk n₀ ann t=true)(h3:step (denote treeTable) p w s t = .go s' t'):topGo treeTable p w n₀ ann 1 s t=some (s',t'):=by
 unfold topGo;rw[h1];dsimp only;rw[h2];dsimp only;rw[h3]
 rfl
theorem ad.rule(tag:String)(s:Shared):ad p w n₀ ann q 1 (PySem.rule tag) s () s:=λK H gd lv c ps=>⟨ps,bV rfl rfl rfl⟩
theorem ad.standAt(ps:Pos)(s:Shared):ad p w n₀ ann q 1 (PySem.standAt ps) s () s:=λK H gd lv c _=>⟨ps,bV rfl rfl rfl⟩
theorem ad.fresh(s:Shared):ad p w n₀ ann q 1 PySem.fresh s s.toks { s with toks:=s.toks+1 }:=λK H gd lv c ps=>⟨ps,bV rfl rfl rfl⟩
theorem ad.ask(s:Shared):ad p w n₀ ann q 1 PySem.ask s ⟨p,w.params⟩ s:=λK H gd lv c ps=>⟨ps,bV rfl rfl rfl⟩
theorem ad.alloc(o:Obj)(s:Shared):ad p w n₀ ann q 1 (PySem.alloc o) s s.heap.objs.size { s with heap:=s.heap.push o }:=λK H gd lv c ps=>⟨ps,bV rfl rfl rfl⟩
theorem ad.loadPart{a:Addr}{part:Option Value}{o:Obj}(h:s.heap.get? a=some o):ad p w n₀ ann q 1 (PySem.loadPart a part) s o s:=λK H gd lv c ps=>⟨ps,bV rfl rfl (by
 show(match s.heap.get? a with|some o=>Step.go _ _|none=>_)=_;rw[h];rfl)⟩
theorem ad.updatePart{a:Addr}{part:Option Value}{o:Obj}(f:Obj->Obj)(h:s.heap.get? a=some o)(hn:n₀<=a):ad p w n₀ ann q 1 (PySem.updatePart a part f) s () { s with heap:=s.heap.update a f }:=λK H gd lv c ps=>⟨ps,bV rfl (by
 show(true&&(Nat.ble n₀ a||a==mainNs||a==cStatics||ann==some (.ref a)))=true;rw[Nat.ble_eq_true_of_le hn];rfl) (by
 show(if(s.heap.get? a).isSome then Step.go _ _ else _)=_;rw[h];rfl)⟩
theorem ad.mkInt(i:Int)(s:Shared):ad p w n₀ ann q 1 (PySem.mkInt i) s (.int i s.toks) { s with toks:=s.toks+1 }:=
 ad.bind (f:=λt=>(Pure.pure (Value.int i t):Sem Value)) (ad.fresh s) (ad.pure _ _)
theorem ad.mkText(x:Str)(s:Shared):ad p w n₀ ann q 1 (PySem.mkText x) s (.str x s.toks) { s with toks:=s.toks+1 }:=
 ad.bind (f:=λt=>(Pure.pure (Value.str x t):Sem Value)) (ad.fresh s) (ad.pure _ _)
theorem ad.callInt {id:String} {args:List Value} {b:Builtin} {i:Int} (hl:id.startsWith "lifetime."=false) (hchk:checkBuiltinCall id ⟨args,[]⟩=(Pure.pure ():Sem Unit)) (hb:entryFor treeTable id=some b)
 (hrun:b ⟨args,[]⟩ = .fresh λt => .pure (.done (.ret (.int i t)))) (s:Shared):ad p w n₀ ann q 4 (call (.builtin id) args) s (.int i s.toks) { s with toks:=s.toks+1 }:=by
 intro K H gd lv c ps;refine⟨ps, ?_⟩;have d1:denote treeTable (.call (.builtin id) ⟨args,[]⟩) = .pure (.again (.builtin id ⟨args,[]⟩)):=by
  show(checkBuiltinCall id ⟨args,[]⟩>>=λ_=>again (.builtin id ⟨args,[]⟩):Sem PySem.Fin)=_;rw[hchk];rfl
 have d2:denote treeTable (.builtin id ⟨args,[]⟩) = .fresh λt => .pure (.done (.ret (.int i t))):=by
  show(match entryFor treeTable id with|some b=>b ⟨args,[]⟩|none=>_)=_;rw[hb];exact hrun
 refine fN (n:=1) (N:=3) (bV (t':=⟨denote treeTable (.call (.builtin id) ⟨args,[]⟩), .call (.builtin id) ⟨args,[]⟩,ps,_::[topFrame q]⟩) rfl rfl rfl) ?_;rw[d1];refine fN (n:=1) (N:=2) (bV (t':=⟨denote treeTable (.builtin id ⟨args,[]⟩), .builtin id ⟨args,[]⟩,ps,_::[topFrame q]⟩) rfl ?_ rfl) ?_
 ·show((!(id.startsWith "lifetime.")||_)&&true&&true&&true)=true
  rw[hl];rfl
 rw[d2];refine fN (n:=1) (N:=1) (bV rfl rfl rfl) ?_;exact bV rfl rfl rfl
end
end
section
open PySem PySem.W PySem.Calls PyProof.Rows
section
variable {p:Program} {w:World} {n₀:Nat} {ann:Option Value} {q:Pos} {s s':Shared}
theorem gX(k:Int)(t:Tok):specialOf (.int k t) "__hash__"=(Pure.pure (some (.builtin "int.__hash__")):Sem (Option Value)):=by
 show typeLookup (.type "int") "__hash__"=_;exact slot_int_hash.lookup
theorem iK(k:Int)(t:Tok):checkBuiltinCall "int.__hash__" ⟨[.int k t],[]⟩=(Pure.pure ():Sem Unit):=by
 kernel_rfl
theorem pF:entryFor treeTable "int.__hash__"=some Builtin.«int.__hash__»:=by rw[<-table_eq_tree];exact entry_int_hash
#print axioms iK
theorem ad.hashInt(k:Int)(t:Tok)(s:Shared):ad p w n₀ ann q 5 (pyHash (.int k t)) s (PySem.hashInt k) { s with toks:=s.toks+1 }:=by
 have hr:=rawHash_range k;have hcall:ad p w n₀ ann q 5 (callSpecialIfBoundUnlessNone? (.int k t) "__hash__" (do PySem.rule "hash.unhashable";raiseError "TypeError" s!"unhashable type: '{← typeNameOf (.int k t)}'")) s (some (.int (rawHash k) s.toks)) { s with toks:=s.toks+1 }:=by
  refine ad.holding _ (ad.bind (n₁:=1) (n₂:=4) (a:=some (.builtin "int.__hash__",[.int k t])) (s₁:=s) ?_ ?_)
  ·unfold bindSpecialIfBound?
   rw[gX];have hb:ad p w n₀ ann q 0 (do return some (<-bindSpecial (.builtin "int.__hash__") (.int k t)):Sem (Option (Value×List Value))) s (some (.builtin "int.__hash__",[.int k t])) s:=by
    rw[slot_int_hash.bind];exact ad.pure _ _
   refine ad.bind (n₁:=0) (n₂:=1) (ad.pure _ _) ?_;refine ad.bind (n₁:=1) (n₂:=0) (ad.ask s) ?_;dsimp only
   split
   ·exact hb
   ·exact ad.tryCatch _ hb
  ·refine ad.bind (n₁:=4) (n₂:=0) (ad.callInt (i:=rawHash k) (by decide +kernel) (iK k t) pF ?_ s) (ad.pure _ _)
   rfl
 show ad p w n₀ ann q 5 (pyHashByItsType (.int k t)) s (PySem.hashInt k) { s with toks:=s.toks+1 };unfold pyHashByItsType;refine ad.bind (n₁:=0) (n₂:=5) (ad.pure _ _:ad p w n₀ ann q 0 (cRoomFor "hash" [.int k t]) s () s) ?_;rw[gX];refine ad.bind (n₁:=0) (n₂:=5) (ad.pure _ _) ?_;rw[beq_builtin_none];refine ad.bind (n₁:=0) (n₂:=5) (ad.pure _ _) ?_;refine ad.bind (n₁:=5) (n₂:=0) hcall ?_;show ad p w n₀ ann q 0 (if(decide (-(2:Int)^63<=rawHash k)&&decide (rawHash k<2^63))=true then _ else _) _ _ _;rw[if_pos (by rw[decide_eq_true hr.1,decide_eq_true hr.2];rfl)];exact ad.pure _ _
noncomputable def dO(es:Array DictEntry)(ep:Nat):Obj:={ cls := .type "dict",data := .dict es ep }
theorem qG{es:Array DictEntry}{h:Int}(hf:∀e∈es,e.hash≠h):placesWithHash es.size (λi=>es[i]?.map (·.hash)) h=[]:=by
 unfold placesWithHash;rw[List.filter_eq_nil_iff];intro i hi;have hi':i<es.size:=List.mem_range.mp hi;dsimp only;rw[Array.getElem?_eq_getElem hi']
 simpa using hf _ (Array.getElem_mem hi')
theorem ad.dictEntries{a:Addr}{part:Option Value}{es:Array DictEntry}{ep:Nat}(h:s.heap.get? a=some (dO es ep)):ad p w n₀ ann q 1 (PySem.dictEntries a part) s es s:=by
 unfold PySem.dictEntries;exact ad.bind (n₁:=1) (n₂:=0) (ad.loadPart h) (ad.pure _ _)
theorem ad.dictEpoch{a:Addr}{part:Option Value}{es:Array DictEntry}{ep:Nat}(h:s.heap.get? a=some (dO es ep)):ad p w n₀ ann q 1 (PySem.dictEpoch a part) s ep s:=by
 unfold PySem.dictEpoch;exact ad.bind (n₁:=1) (n₂:=0) (ad.loadPart h) (ad.pure _ _)
theorem ad.dictFindNone{a:Addr}{es:Array DictEntry}{ep:Nat}{k:Int}{t:Tok}{hh:Int}(h:s.heap.get? a=some (dO es ep))(hf:∀e∈es,e.hash≠hh):
 ad p w n₀ ann q 1 (PySem.dictFind a (.int k t) hh) s none s:=by
 unfold PySem.dictFind;refine ad.holding _ (ad.bind (n₁:=1) (n₂:=0) (ad.dictEntries h) ?_);dsimp only;rw[qG hf];exact ad.pure _ _
theorem y4{h:Heap}{a:Addr}{o:Obj}(f:Obj->Obj)(e:h.get? a=some o)(hn:(f o).isFreed=false):(h.update a f).get? a=some (f o):=Heap.get?_update_self _ e hn
theorem ad.updKeys{a:Addr}{part:Option Value}{es:Array DictEntry}{ep:Nat}(f:Array DictEntry->Array DictEntry)(h:s.heap.get? a=some (dO es ep))(hn:n₀<=a)(hz:(f es).size<=sizeLine):
 ad p w n₀ ann q 3 (PySem.updateDictKeys a f part) s () { s with heap:=s.heap.update a (Obj.mapDictKeys f) }:=by
 unfold PySem.updateDictKeys;refine ad.bind (n₁:=1) (n₂:=2) (ad.loadPart h) ?_;show ad p w n₀ ann q 2 (PySem.updatePart a part (Obj.mapDictKeys f)>>=λ_=>lookBehind a part) s () _;refine ad.bind (n₁:=1) (n₂:=1) (ad.updatePart _ h hn) ?_;unfold lookBehind;refine ad.bind (n₁:=1) (n₂:=0) (ad.loadPart (o:=dO (f es) (ep+1)) (y4 _ h rfl)) ?_;have:(dO (f es) (ep+1)).data.pastItsLine=none:=by
  show(if(f es).size>sizeLine+1 then some "dict:memory" else none)=none;rw[if_neg ⋯]
 rw[this];exact ad.pure _ _
theorem ad.setHashed{a:Addr}{es:Array DictEntry}{ep:Nat}{k:Int}{t:Tok}{hh:Int}(v:Value)(h:s.heap.get? a=some (dO es ep))(hf:∀e∈es,e.hash≠hh)(hn:n₀<=a)(hz:es.size<sizeLine):
 ad p w n₀ ann q 5 (PySem.dictSetHashed a (.int k t) hh v) s () { s with heap:=s.heap.update a (Obj.mapDictKeys (·.push ⟨hh, .int k t,v⟩)) }:=by
 unfold PySem.dictSetHashed;refine ad.holding _ (ad.bind (n₁:=1) (n₂:=4) (ad.dictFindNone h hf) ?_);show ad p w n₀ ann q 4 (PySem.rule _>>=λ_=>updateDictKeys a _ _) s () _;exact ad.bind (n₁:=1) (n₂:=3) (ad.rule _ _) (ad.updKeys _ h hn (by rw[Array.size_push];exact hz))
theorem ad.dictSet{a:Addr}{es:Array DictEntry}{ep:Nat}{k:Int}{t:Tok}(v:Value)(h:s.heap.get? a=some (dO es ep))(hf:∀e∈es,e.hash≠PySem.hashInt k)(hn:n₀<=a)(hz:es.size<sizeLine):
 ad p w n₀ ann q 10 (PySem.dictSet a (.int k t) v) s () { s with heap:=s.heap.update a (Obj.mapDictKeys (·.push ⟨PySem.hashInt k, .int k t,v⟩)),toks:=s.toks+1 }:=by
 unfold PySem.dictSet;refine ad.holding _ (ad.bind (n₁:=5) (n₂:=5) (ad.hashInt k t s) ?_);exact ad.setHashed (s:={ s with toks:=s.toks+1 }) v h hf hn hz
theorem ad.dictPut{a:Addr}{es:Array DictEntry}{ep:Nat}{k:Int}{t:Tok}{hh:Int}(v:Value)(h:s.heap.get? a=some (dO es ep))(hf:∀e∈es,e.hash≠hh)(hn:n₀<=a)(hz:es.size<sizeLine):
 ad p w n₀ ann q 4 (PySem.dictPut a hh (.int k t) v) s () { s with heap:=s.heap.update a (Obj.mapDictKeys (·.push ⟨hh, .int k t,v⟩)) }:=by
 unfold PySem.dictPut;exact ad.bind (n₁:=1) (n₂:=3) (ad.dictFindNone h hf) (ad.updKeys _ h hn (by rw[Array.size_push];exact hz))
end
end
section
open PySem PySem.W PySem.Calls PyProof.Rows
section
noncomputable def hp(H:Heap)(m:Obj)(subs:List Obj):Heap:=⟨H.objs++(m::subs).toArray,H.life⟩
theorem kJ(H:Heap)(m:Obj):H.push m=hp H m []:=by
 unfold hp Heap.push
 congr 1
theorem pG(H:Heap)(m o:Obj)(subs:List Obj):(hp H m subs).push o=hp H m (subs++[o]):=by
 unfold hp Heap.push
 congr 1
 simp
theorem uo(H:Heap)(m:Obj)(subs:List Obj):(hp H m subs).objs.size=H.objs.size+1+subs.length:=by
 simp[hp];omega
theorem jv{h:Heap}{a:Addr}{o:Obj}(e:h.objs[a]? = some o)(hf:o.isFreed=false):h.get? a=some o:=by
 unfold Heap.get?;rw[e];obtain⟨c,d,dt,sl⟩:=o;cases dt<;>first|rfl|(injections hf)
theorem fO(H:Heap)(m:Obj)(subs:List Obj)(hf:m.isFreed=false):(hp H m subs).get? H.objs.size=some m:=by
 refine jv ?_ hf;simp[hp]
theorem fP(H:Heap)(m o:Obj)(subs:List Obj)(hf:o.isFreed=false):(hp H m (subs++[o])).get? (H.objs.size+1+subs.length)=some o:=by
 refine jv ?_ hf;simp only[hp];rw[Array.getElem?_append_right ⋯];have:H.objs.size+1+subs.length-H.objs.size=subs.length+1:=⋯;rw[this];simp
theorem jW(H:Heap)(m:Obj)(subs:List Obj)(f:Obj->Obj):(hp H m subs).update H.objs.size f=hp H (f m) subs:=by
 refine(congrArg (Heap.mk · H.life) ?_ : Heap.mk _ _=Heap.mk _ _);apply Array.ext_getElem?;intro i;rw[Array.getElem?_modify]
 by_cases h:i<H.objs.size
 ·rw[Array.getElem?_append_left h,Array.getElem?_append_left h,if_neg ⋯]
 ·rw[Array.getElem?_append_right ⋯,Array.getElem?_append_right ⋯]
  by_cases e:H.objs.size=i
  ·subst e;simp
  ·rw[if_neg e]
   obtain⟨j,hj⟩:∃j,i-H.objs.size=j+1:=⟨i-H.objs.size-1,⋯⟩;rw[hj];simp
theorem gY(H:Heap)(o:Obj)(f:Obj->Obj):(H.push o).update H.objs.size f=H.push (f o):=by
 rw[kJ,kJ,jW]
theorem gZ(H:Heap)(o:Obj)(hf:o.isFreed=false):(H.push o).get? H.objs.size=some o:=by
 rw[kJ,fO _ _ _ hf]
noncomputable def wy(e:DictEntry)(kv:Int×Str):Prop:=e.hash=PySem.hashInt kv.1/\(∃t,e.key = .int kv.1 t)/\∃t,e.val = .str kv.2 t
noncomputable def aS:List DictEntry->List (Int×Str)->Prop
 |[],[]=>True
 |e::es,x::xs=>wy e x/\aS es xs
 |_,_=>False
theorem aS.append:∀{es:List DictEntry} {L:List (Int×Str)} {fs:List DictEntry} {M:List (Int×Str)},aS es L->aS fs M->aS (es++fs) (L++M)
 |[],[],_,_,_,h=>h
 |_::_,_::_,_,_,h,k=>⟨h.1,aS.append h.2 k⟩
 |[],_::_,_,_,h,_=>h.elim
 |_::_,[],_,_,h,_=>h.elim
theorem aS.length:∀{es:List DictEntry} {L:List (Int×Str)},aS es L->es.length=L.length
 |[],[],_=>rfl
 |_::_,_::_,h=>by rw[List.length_cons,List.length_cons,aS.length h.2]
 |[],_::_,h=>h.elim
 |_::_,[],h=>h.elim
theorem aS.fresh{k:Int}:∀{es:List DictEntry} {L:List (Int×Str)},aS es L->(∀kv∈L,PySem.hashInt kv.1≠PySem.hashInt k)->∀e∈es,e.hash≠PySem.hashInt k
 |[],_,_,_,e,he=>nomatch he
 |f::es,x::L,h,hk,e,he=>by
  rcases List.mem_cons.mp he with rfl|he
  ·rw[h.1.1];exact hk _ (.head _)
  ·exact aS.fresh h.2 (λkv q=>hk kv (.tail _ q)) e he
 |_::_,[],h,_,_,_=>h.elim
theorem aS.get:∀{es:List DictEntry} {L:List (Int×Str)} {i:Nat} {x:Int×Str},aS es L->L[i]? = some x->∃e,es[i]? = some e/\wy e x
 |e::_,y::_,0,x,h,g=>⟨e,rfl,by simp at g;exact g▸h.1⟩
 |_::_,_::_,i+1,x,h,g=>by
  simp only[List.getElem?_cons_succ]at g |-;exact aS.get h.2 g
 |[],_::_,_,_,h,_=>h.elim
 |_::_,[],_,_,h,_=>h.elim
 |[],[],_,_,_,g=>by simp at g
noncomputable def bh(es:Array DictEntry)(L:List (Int×Str)):Prop:=aS es.toList L
theorem bh.nil:bh #[] []:=trivial
theorem bh.push{es:Array DictEntry}{L:List (Int×Str)}(h:bh es L)(k:Int)(v:Str)(t u:Tok):bh (es.push ⟨PySem.hashInt k, .int k t, .str v u⟩) (L++[(k,v)]):=by
 unfold bh at h |-;rw[Array.toList_push];exact h.append ⟨⟨rfl,⟨_,rfl⟩,⟨_,rfl⟩⟩,trivial⟩
theorem bh.pushE{es:Array DictEntry}{L:List (Int×Str)}(h:bh es L){e:DictEntry}{x:Int×Str}(r:wy e x):bh (es.push e) (L++[x]):=by
 unfold bh at h |-;rw[Array.toList_push];exact h.append ⟨r,trivial⟩
theorem bh.size{es:Array DictEntry}{L:List (Int×Str)}(h:bh es L):es.size=L.length:=by
 have:=aS.length h
 simpa using this
theorem bh.fresh{es:Array DictEntry}{L:List (Int×Str)}(h:bh es L){k:Int}(hk:∀kv∈L,PySem.hashInt kv.1≠PySem.hashInt k):∀e∈es,e.hash≠PySem.hashInt k:=
 λe he=>aS.fresh h hk e (Array.mem_toList_iff.mpr he)
noncomputable def dD(L:List (Int×Str)):Prop:=L.Pairwise λa b=>PySem.hashInt a.1≠PySem.hashInt b.1
theorem dD.mid{L M:List (Int×Str)}{x:Int×Str}(h:dD (L++x::M)):∀kv∈L,PySem.hashInt kv.1≠PySem.hashInt x.1:=λkv hk=>
 (List.pairwise_append.mp h).2.2 kv hk x (.head _)
end
section
variable {p:Program} {w:World} {n₀:Nat} {ann:Option Value} {q:Pos} {s s':Shared}
theorem ad.forIn_nil{α β:Type}(f:α->β->Sem (ForInStep β))(b:β):ad p w n₀ ann q 0 (forIn ([]:List α) b f) s b s:=by
 rw[List.forIn_nil];exact ad.pure _ _
theorem ad.forIn_cons{α β:Type}{f:α->β->Sem (ForInStep β)}{x:α}{l:List α}{b b₁ b₂:β}{n m:Nat}{s₁ s₂:Shared}(h:ad p w n₀ ann q n (f x b) s (.yield b₁) s₁)(k:ad p w n₀ ann q m (forIn l b₁ f) s₁ b₂ s₂):
 ad p w n₀ ann q (n+m) (forIn (x::l) b f) s b₂ s₂:=by
 rw[List.forIn_cons];exact ad.bind h k
noncomputable def pr(ps:Pos)(kv:Int×Str):Sem Value×Sem Value:=(PySem.mkInt kv.1,do let x <-PySem.mkText kv.2;PySem.standAt ps;Pure.pure x)
theorem ad.val(ps:Pos)(x:Str)(s:Shared):ad p w n₀ ann q 2 (do let x <-PySem.mkText x;PySem.standAt ps;Pure.pure x:Sem Value) s (.str x s.toks) { s with toks:=s.toks+1 }:=
 ad.bind (n₁:=1) (n₂:=1) (ad.mkText x s) (ad.bind (n₁:=1) (n₂:=0) (ad.standAt ps _) (ad.pure _ _))
theorem qH{ps:Pos}{H:Heap}(hn:n₀<=H.objs.size):∀(M:List (Int×Str)) {L:List (Int×Str)} {es:Array DictEntry} {ep T:Nat},bh es L->dD (L++M)->(L++M).length<=1000 ->
 ∃es' ep' T',bh es' (L++M)/\ad p w n₀ ann q (13*M.length) (forIn (M.map (pr ps)) PUnit.unit λx (_:PUnit)=>(do
   let kv <-x.1;let vv <-PySem.holding [kv] x.2
   PySem.holding [kv,vv] (PySem.dictSet H.objs.size kv vv)
   Pure.pure (ForInStep.yield PUnit.unit):Sem (ForInStep PUnit))) { s with heap:=H.push (dO es ep),toks:=T } PUnit.unit { s with heap:=H.push (dO es' ep'),toks:=T' }
 |[],L,es,ep,T,h,_,_=>⟨es,ep,T,by simpa using h,ad.forIn_nil _ _⟩
 |x::M,L,es,ep,T,h,ha,hl=>by
  obtain⟨es',ep',T',h',g'⟩:=qH hn M (L:=L++[x]) (es:=es.push ⟨PySem.hashInt x.1, .int x.1 T, .str x.2 (T+1)⟩) (ep:=ep+1) (T:=T+3) (h.push x.1 x.2 T (T+1)) (by simpa using ha) (by simpa using hl);refine⟨es',ep',T',by simpa using h', ?_⟩;rw[show 13*(x::M).length=13+13*M.length by rw[List.length_cons];omega,List.map_cons];refine ad.forIn_cons (n:=13) ?_ g';refine ad.bind (n₁:=1) (n₂:=12) (ad.mkInt x.1 _) ?_;refine ad.bind (n₁:=2) (n₂:=10) (ad.holding _ (ad.val ps x.2 _)) ?_;refine ad.bind (n₁:=10) (n₂:=0) (a:=()) (s₁:={ s with heap:=H.push (dO (es.push ⟨PySem.hashInt x.1, .int x.1 T, .str x.2 (T+1)⟩) (ep+1)),toks:=T+3 }) (ad.holding _ ?_) (ad.pure _ _)
  have g:=ad.dictSet (p:=p) (w:=w) (n₀:=n₀) (ann:=ann) (q:=q) (s:={ s with heap:=H.push (dO es ep),toks:=T+1+1 }) (a:=H.objs.size) (es:=es) (ep:=ep) (k:=x.1) (t:=T) (.str x.2 (T+1)) (gZ _ _ rfl) (h.fresh ha.mid) hn (by rw[h.size,sizeLine_eq];simp at hl;omega);rw[gY]at g;exact g
theorem y5{ps:Pos}{M:List (Int×Str)}(hn:n₀<=s.heap.objs.size)(hl:15<M.length)(hm:M.length<=1000)(ha:dD M):
 ∃es ep T,bh es M/\ad p w n₀ ann q (13*M.length+2) (subDict (M.map (pr ps))) s s.heap.objs.size { s with heap:=s.heap.push (dO es ep),toks:=T }:=by
 obtain⟨es,ep,T,h,g⟩:=qH (s:=s) (p:=p) (w:=w) (ann:=ann) (q:=q) (ps:=ps) hn M (L:=[]) (ep:=0) (T:=s.toks) bh.nil (by simpa using ha) (by simpa using hm);refine⟨es,ep,T,by simpa using h, ?_⟩;unfold subDict;rw[show 13*M.length+2=1+(1+13*M.length)by omega];refine ad.bind (n₁:=1) (ad.alloc _ _) ?_;refine ad.bind (n₁:=1+13*M.length) (n₂:=0) (a:=()) (s₁:={ s with heap:=s.heap.push (dO es ep),toks:=T }) (ad.holding _ ?_) (ad.pure _ _);rw[if_neg (by rw[List.length_map];omega)];exact ad.bind (n₁:=1) (n₂:=13*M.length) (ad.rule _ _) (ad.bind (n₁:=13*M.length) (n₂:=0) g (ad.pure _ _))
noncomputable def EA(kv:Int×Str)(t u:Tok):Value×Value:=(.int kv.1 t, .str kv.2 u)
noncomputable def wz:List (Value×Value)->List (Int×Str)->Prop
 |[],[]=>True
 |v::vs,x::xs=>(∃t u,v=EA x t u)/\wz vs xs
 |_,_=>False
theorem qI{ps:Pos}:∀(M:List (Int×Str)) (s:Shared),∃vs T,wz vs M/\ad p w n₀ ann q (3*M.length) (evalPairs (M.map (pr ps))) s vs { s with toks:=T }
 |[],s=>⟨[],s.toks,trivial,ad.pure _ _⟩
 |x::M,s=>by
  obtain⟨vs,T,h,g⟩:=qI M { s with toks:=s.toks+2 };refine⟨EA x s.toks (s.toks+1)::vs,T,⟨⟨_,_,rfl⟩,h⟩, ?_⟩;rw[show 3*(x::M).length=1+(2+(3*M.length+0))by rw[List.length_cons];omega,List.map_cons];unfold evalPairs;refine ad.bind (n₁:=1) (ad.mkInt x.1 _) ?_;refine ad.bind (n₁:=2) (ad.holding _ (ad.val ps x.2 _)) ?_;exact ad.bind (n₁:=3*M.length) (n₂:=0) (a:=vs) (ad.holding _ g) (ad.pure _ _)
theorem nf{H:Heap}(hn:n₀<=H.objs.size):∀(vs:List (Value×Value)) (M:List (Int×Str)) {L:List (Int×Str)} {es:Array DictEntry} {ep T:Nat},wz vs M->bh es L->dD (L++M)->(L++M).length<=1000 ->
 ∃es' ep' T',bh es' (L++M)/\ad p w n₀ ann q (10*M.length) (forIn vs PUnit.unit λx (_:PUnit)=>(do
   PySem.dictSet H.objs.size x.1 x.2
   Pure.pure (ForInStep.yield PUnit.unit):Sem (ForInStep PUnit))) { s with heap:=H.push (dO es ep),toks:=T } PUnit.unit { s with heap:=H.push (dO es' ep'),toks:=T' }
 |[],[],L,es,ep,T,_,h,_,_=>⟨es,ep,T,by simpa using h,ad.forIn_nil _ _⟩
 |[],_::_,_,_,_,_,hv,_,_,_=>hv.elim
 |_::_,[],_,_,_,_,hv,_,_,_=>hv.elim
 |v::vs,x::M,L,es,ep,T,hv,h,ha,hl=>by
  obtain⟨⟨t,u,rfl⟩,hv⟩:=hv;obtain⟨es',ep',T',h',g'⟩:=nf hn vs M (L:=L++[x]) (es:=es.push ⟨PySem.hashInt x.1, .int x.1 t, .str x.2 u⟩) (ep:=ep+1) (T:=T+1) hv (h.push x.1 x.2 t u) (by simpa using ha) (by simpa using hl);refine⟨es',ep',T',by simpa using h', ?_⟩;rw[show 10*(x::M).length=10+10*M.length by rw[List.length_cons];omega];refine ad.forIn_cons (n:=10) ?_ g';refine ad.bind (n₁:=10) (n₂:=0) (a:=()) (s₁:={ s with heap:=H.push (dO (es.push ⟨PySem.hashInt x.1, .int x.1 t, .str x.2 u⟩) (ep+1)),toks:=T+1 }) ?_ (ad.pure _ _);have g:=ad.dictSet (p:=p) (w:=w) (n₀:=n₀) (ann:=ann) (q:=q) (s:={ s with heap:=H.push (dO es ep),toks:=T }) (a:=H.objs.size) (es:=es) (ep:=ep) (k:=x.1) (t:=t) (.str x.2 u) (gZ _ _ rfl) (h.fresh ha.mid) hn (by rw[h.size,sizeLine_eq];simp at hl;omega)
  rw[gY]at g;exact g
theorem wA{ps:Pos}{M:List (Int×Str)}(hn:n₀<=s.heap.objs.size)(hl:M.length<=15)(ha:dD M):
 ∃es ep T,bh es M/\ad p w n₀ ann q (13*M.length+1) (subDict (M.map (pr ps))) s s.heap.objs.size { s with heap:=s.heap.push (dO es ep),toks:=T }:=by
 obtain⟨vs,T₁,hv,g₁⟩:=qI (p:=p) (w:=w) (n₀:=n₀) (ann:=ann) (q:=q) (ps:=ps) M { s with heap:=s.heap.push (dO #[] 0) };obtain⟨es,ep,T,h,g⟩:=nf (s:=s) (p:=p) (w:=w) (ann:=ann) (q:=q) hn vs M (L:=[]) (ep:=0) (T:=T₁) hv bh.nil (by simpa using ha) (by simp;omega);refine⟨es,ep,T,by simpa using h, ?_⟩;unfold subDict;rw[show 13*M.length+1=1+(3*M.length+10*M.length)by omega];refine ad.bind (n₁:=1) (ad.alloc _ _) ?_;refine ad.bind (n₁:=3*M.length+10*M.length) (n₂:=0) (a:=()) (s₁:={ s with heap:=s.heap.push (dO es ep),toks:=T }) (ad.holding _ ?_) (ad.pure _ _);rw[if_pos (by rw[List.length_map];omega)];refine ad.bind (n₁:=3*M.length) (n₂:=10*M.length) g₁ (ad.holding _ ?_)
 exact ad.bind (n₁:=10*M.length) (n₂:=0) g (ad.pure _ _)
theorem pH:typeLookup (.type "dict") "__iter__"=(Pure.pure (some (.builtin "dict.__iter__")):Sem (Option Value)):=∅
theorem mS:isSubtype (.type "dict") (.type "dict")=(Pure.pure true:Sem Bool):=∅
theorem ad.isDict{a:Addr}{es:Array DictEntry}{ep:Nat}(h:s.heap.get? a=some (dO es ep)):ad p w n₀ ann q 1 (isInstance (.ref a) (.type "dict")) s true s:=by
 unfold isInstance;refine ad.bind (n₁:=1) (n₂:=0) (a := .type "dict") (s₁:=s) (ad.bind (n₁:=1) (n₂:=0) (ad.loadPart h) (ad.pure _ _)) ?_;rw[mS];exact ad.pure _ _
theorem ad.dictIter{a:Addr}{es:Array DictEntry}{ep:Nat}(h:s.heap.get? a=some (dO es ep)):ad p w n₀ ann q 1 (specialOf (.ref a) "__iter__") s (some (.builtin "dict.__iter__")) s:=by
 unfold specialOf;refine ad.bind (n₁:=1) (n₂:=0) (a := .type "dict") (s₁:=s) (ad.bind (n₁:=1) (n₂:=0) (ad.loadPart h) (ad.pure _ _)) ?_;rw[pH];exact ad.pure _ _
end
end
section
open PySem PySem.W PySem.Calls PyProof.Rows
section
variable {p:Program} {w:World} {n₀:Nat} {ann:Option Value} {q:Pos} {s s':Shared}
theorem ng {H:Heap} (hn:n₀<=H.objs.size) {fs:Array DictEntry} {fp:Nat} {subs:List Obj} {M:List (Int×Str)} (hM:bh fs M) {f:Nat->PUnit->Sem (ForInStep PUnit)}
 (hf:∀(i:Nat) (e:DictEntry) (u:PUnit),fs[i]? = some e->f i u=(do
   let es <-dictEntries (H.objs.size+1+subs.length)
   match es[i]? with
   |some e=>do
    holding [e.key,e.val] (dictPut H.objs.size e.hash e.key e.val)
    let ep <-dictEpoch (H.objs.size+1+subs.length)
    if(ep !=fp)=true then do
     unsupported "dict.changed-during-merge"
     Pure.pure (ForInStep.yield PUnit.unit)
    else Pure.pure (ForInStep.yield PUnit.unit)
   |_=>do
    unsupported "dict.changed-during-merge"
    Pure.pure (ForInStep.yield PUnit.unit))):
 ∀(m i:Nat) {L:List (Int×Str)} {es:Array DictEntry} {ep:Nat},i+m=M.length->bh es (L++M.take i)->dD (L++M)->(L++M).length<=1000 ->
 ∃es' ep',bh es' (L++M)/\ad p w n₀ ann q (6*m) (forIn (List.range' i m) PUnit.unit f) { s with heap:=hp H (dO es ep) (subs++[dO fs fp]) } PUnit.unit { s with heap:=hp H (dO es' ep') (subs++[dO fs fp]) }
 |0,i,L,es,ep,hi,h,_,_=>⟨es,ep,by rw[List.take_of_length_le ⋯]at h;exact h,ad.forIn_nil _ _⟩
 |m+1,i,L,es,ep,hi,h,ha,hl=>by
  have hlt:i<M.length:=⋯;have hx:M[i]? = some M[i]:=List.getElem?_eq_getElem hlt;obtain⟨e,he,hr⟩:=aS.get hM hx;have he':fs[i]? = some e:=by rw[<-Array.getElem?_toList];exact he
  have hr':=hr;obtain⟨h1,⟨t,h2⟩,⟨u,h3⟩⟩:=hr';have hs:M=M.take i++M[i]::M.drop (i+1):=by
   rw[List.getElem_cons_drop,List.take_append_drop]
  have ht:M.take (i+1)=M.take i++[M[i]]:=by rw[List.take_add_one,hx];rfl
  obtain⟨es',ep',h',g'⟩:=ng hn hM hf m (i+1) (L:=L) (es:=es.push e) (ep:=ep+1) ⋯ (by rw[ht,<-List.append_assoc];exact h.pushE hr) ha hl;refine⟨es',ep',h', ?_⟩;rw[show 6*(m+1)=6+6*m by omega,List.range'_succ];refine ad.forIn_cons (n:=6) ?_ g';rw[hf i e _ he'];refine ad.bind (n₁:=1) (n₂:=5) (ad.dictEntries (fP H _ _ subs rfl)) ?_;rw[he'];have hfr:∀d∈es,d.hash≠e.hash:=by
   rw[h1];refine h.fresh ?_;have:L++M=(L++M.take i)++M[i]::M.drop (i+1):=by rw[List.append_assoc,<-hs]
   rw[this]at ha;exact ha.mid
  have hsz:es.size<sizeLine:=by
   rw[h.size,sizeLine_eq];rw[List.length_append,List.length_take]at *
   omega
  have g:=ad.dictPut (p:=p) (w:=w) (n₀:=n₀) (ann:=ann) (q:=q) (s:={ s with heap:=hp H (dO es ep) (subs++[dO fs fp]) }) (a:=H.objs.size) (es:=es) (ep:=ep) (k:=M[i].1) (t:=t) (hh:=e.hash) e.val (fO _ _ _ rfl) hfr hn hsz;rw[jW]at g;rw[<-h2]at g;refine ad.bind (n₁:=4) (n₂:=1) (ad.holding _ g) ?_;refine ad.bind (n₁:=1) (n₂:=0) (ad.dictEpoch (fP H _ _ subs rfl)) ?_;rw[if_neg (by simp)];exact ad.pure _ _
theorem AX{H:Heap}(hn:n₀<=H.objs.size)(hm:sysModules<H.objs.size){fs:Array DictEntry}{fp:Nat}{subs:List Obj}{L M:List (Int×Str)}{es:Array DictEntry}{ep:Nat}(hM:bh fs M)(hL:bh es L)(hne:L≠[])(ha:dD (L++M))(hl:(L++M).length<=1000):
 ∃es' ep',bh es' (L++M)/\ad p w n₀ ann q (6*M.length+5) (mergeMapping H.objs.size (.ref (H.objs.size+1+subs.length)) false) { s with heap:=hp H (dO es ep) (subs++[dO fs fp]) } () { s with heap:=hp H (dO es' ep') (subs++[dO fs fp]) }:=by
 have key:=λf hf=>ng (s:=s) (p:=p) (w:=w) (ann:=ann) (q:=q) (f:=f) hn (fp:=fp) (subs:=subs) hM hf M.length 0 (L:=L) (es:=es) (ep:=ep) ⋯ (by simpa using hL) ha hl
 obtain⟨es',ep',h',g⟩:=key (λi _=>do
  let es <-dictEntries (H.objs.size+1+subs.length)
  match es[i]? with
  |some e=>do
   holding [e.key,e.val] (dictPut H.objs.size e.hash e.key e.val)
   let ep <-dictEpoch (H.objs.size+1+subs.length)
   if(ep !=fp)=true then do
    unsupported "dict.changed-during-merge"
    Pure.pure (ForInStep.yield PUnit.unit)
   else Pure.pure (ForInStep.yield PUnit.unit)
  |_=>do
   unsupported "dict.changed-during-merge"
   Pure.pure (ForInStep.yield PUnit.unit)) (λ_ _ _ _=>rfl)
 refine⟨es',ep',h', ?_⟩;have hgl:=fP H (dO es ep) (dO fs fp) subs rfl;have hgm:=fO H (dO es ep) (subs++[dO fs fp]) rfl;unfold mergeMapping;rw[show 6*M.length+5=1+(1+(1+(1+(1+6*M.length))))by omega];refine ad.bind (n₁:=1) (ad.isDict hgl) ?_;rw[if_pos rfl];refine ad.bind (n₁:=1) (ad.dictIter hgl) ?_;have hp1:(some (Value.builtin "dict.__iter__")==some (.builtin "dict.__iter__"))=true:=by decide +kernel
 rw[hp1];have hs:(H.objs.size+1+subs.length==sysModules)=false:=by
  rw[beq_eq_false_iff_ne];exact Nat.ne_of_gt (Nat.lt_of_lt_of_le hm (Nat.le_trans (Nat.le_add_right _ 1) (Nat.le_add_right _ _)))
 dsimp only;rw[pure_bind];dsimp only;rw[hs];simp only[Bool.false_eq_true,if_false];refine ad.bind (n₁:=1) (ad.dictEntries hgm) ?_;have hem:es.isEmpty=false:=by
  rw[Array.isEmpty_eq_false_iff];intro q;have:=hL.size;rw[q]at this;exact hne (List.length_eq_zero_iff.mp this.symm)
 rw[hem];simp only[Bool.false_eq_true,if_false];refine ad.bind (n₁:=1) (ad.dictEntries hgl) ?_;refine ad.bind (n₁:=1) (ad.dictEpoch hgl) ?_;rw[hM.size,List.range_eq_range'];exact ad.bind (n₁:=6*M.length) (n₂:=0) g (ad.pure _ _)
end
end
section
open PySem PySem.W PySem.Calls PyProof.Rows
noncomputable def nh(run:List (Sem Value×Sem Value))(main:Option Addr):Sem (Option Addr):=
 if run.isEmpty=true then pure main else match main with
  |none=>do
   let d <-subDict run
   pure (some d)
  |some d=>do
   let sub <-holding [.ref d] (subDict run)
   (holding [.ref d, .ref sub] (mergeMapping d (.ref sub) false)).onRaise λx=>do
     let _ <-holding [.ref d,x] (runValue (.builtin "proto.let_go" {}))
     pure ()
   pure (some d)
section
variable {p:Program} {w:World} {n₀:Nat} {ann:Option Value} {q:Pos} {s s':Shared}
noncomputable def eh(r:Nat):Nat:=if r<=15 then 13*r+1 else 13*r+2
theorem wB{ps:Pos}{M:List (Int×Str)}(hn:n₀<=s.heap.objs.size)(hm:M.length<=1000)(ha:dD M):
 ∃es ep T,bh es M/\ad p w n₀ ann q (eh M.length) (subDict (M.map (pr ps))) s s.heap.objs.size { s with heap:=s.heap.push (dO es ep),toks:=T }:=by
 unfold eh
 by_cases h:M.length<=15
 ·rw[if_pos h];exact wA hn h ha
 ·rw[if_neg h];exact y5 hn ⋯ hm ha
theorem AY{ps:Pos}{M:List (Int×Str)}(hn:n₀<=s.heap.objs.size)(h0:M≠[])(hm:M.length<=1000)(ha:dD M):
 ∃es ep T,bh es M/\ad p w n₀ ann q (eh M.length) (nh (M.map (pr ps)) none) s (some s.heap.objs.size) { s with heap:=hp s.heap (dO es ep) [],toks:=T }:=by
 obtain⟨es,ep,T,h,g⟩:=wB (p:=p) (w:=w) (ann:=ann) (q:=q) (ps:=ps) hn hm ha;refine⟨es,ep,T,h, ?_⟩;unfold nh;rw[if_neg (by simpa using h0),<-kJ];exact ad.bind (n₁:=eh M.length) (n₂:=0) g (ad.pure _ _)
theorem wD{ps:Pos}{H:Heap}{T:Nat}{subs:List Obj}{L M:List (Int×Str)}{es:Array DictEntry}{ep:Nat}(hn:n₀<=H.objs.size)(hsy:sysModules<H.objs.size)(h0:M≠[])(hL:bh es L)(hne:L≠[])(ha:dD (L++M))(hl:(L++M).length<=1000):
 ∃es' ep' o T',bh es' (L++M)/\ad p w n₀ ann q (eh M.length+(6*M.length+5)) (nh (M.map (pr ps)) (some H.objs.size)) { s with heap:=hp H (dO es ep) subs,toks:=T } (some H.objs.size) { s with heap:=hp H (dO es' ep') (subs++[o]),toks:=T' }:=by
 obtain⟨fs,fp,T',hM,g⟩:=wB (p:=p) (w:=w) (n₀:=n₀) (ann:=ann) (q:=q) (ps:=ps) (s:={ s with heap:=hp H (dO es ep) subs,toks:=T }) (M:=M)
  (by show n₀<=(hp H (dO es ep) subs).objs.size;rw[uo];exact Nat.le_trans hn (Nat.le_trans (Nat.le_add_right _ 1) (Nat.le_add_right _ _))) (by rw[List.length_append]at hl;omega) (List.pairwise_append.mp ha).2.1
 obtain⟨es',ep',h',g'⟩:=AX (s:={ s with toks:=T' }) (p:=p) (w:=w) (ann:=ann) (q:=q) (subs:=subs) (ep:=ep) (fp:=fp) hn hsy hM hL hne ha hl;refine⟨es',ep',dO fs fp,T',h', ?_⟩;dsimp only at g;rw[uo,pG]at g;unfold nh;rw[if_neg (by simpa using h0)];refine ad.bind (n₁:=eh M.length) (n₂:=6*M.length+5) (ad.holding _ g) ?_;exact ad.bind (n₁:=6*M.length+5) (n₂:=0) (a:=()) (ad.onRaise _ (ad.holding _ g')) (ad.pure _ _)
noncomputable def cB:Nat->Nat->Nat
 |_,0=>0
 |r,m+1=>if r+1=17 then eh 17+(6*17+5)+cB 0 m else cB (r+1) m
noncomputable def oB:Nat->Nat->Nat
 |_,0=>0
 |r,m+1=>if r+1=17 then 1+oB 0 m else oB (r+1) m
noncomputable def rB:Nat->Nat->Nat
 |r,0=>r
 |r,m+1=>if r+1=17 then rB 0 m else rB (r+1) m
theorem Cz{r m:Nat}:cB r (m+1)=if r+1=17 then eh 17+(6*17+5)+cB 0 m else cB (r+1) m:=rfl
theorem CA{r m:Nat}:oB r (m+1)=if r+1=17 then 1+oB 0 m else oB (r+1) m:=rfl
theorem CB{r m:Nat}:rB r (m+1)=if r+1=17 then rB 0 m else rB (r+1) m:=rfl
noncomputable abbrev wE:=(Option (Sem Value)×Sem Value)->(Option Addr×List (Sem Value×Sem Value))->Sem (ForInStep (Option Addr×List (Sem Value×Sem Value)))
structure sP(f:wE):Prop where
 more:∀(x:Sem Value×Sem Value) main run,(run++[x]).length≠17->f (some x.1,x.2) (main,run)=pure (.yield (main,run++[x]))
 full:∀(x:Sem Value×Sem Value) main run,(run++[x]).length=17->f (some x.1,x.2) (main,run)=(do let m <-nh (run++[x]) main;pure (.yield (m,[])))
theorem wF{f:wE}(F:sP f){ps:Pos}{H:Heap}(hn:n₀<=H.objs.size)(hsy:sysModules<H.objs.size):∀(M R:List (Int×Str)) {T:Nat} {subs:List Obj} {L:List (Int×Str)} {es:Array DictEntry} {ep:Nat},
 R.length<17->bh es L->L≠[]->dD (L++R++M)->(L++R++M).length<=1000 ->
 ∃es' ep' L' R' more T',bh es' L'/\L'≠[]/\L'++R'=L++R++M/\R'.length=rB R.length M.length/\more.length=oB R.length M.length /\
  ad p w n₀ ann q (cB R.length M.length) (forIn ((M.map (pr ps)).map λx=>(some x.1,x.2)) (some H.objs.size,R.map (pr ps)) f) { s with heap:=hp H (dO es ep) subs,toks:=T } (some H.objs.size,R'.map (pr ps))
   { s with heap:=hp H (dO es' ep') (subs++more),toks:=T' }
 |[],R,T,subs,L,es,ep,hr,h,hne,ha,hl=>⟨es,ep,L,R,[],T,h,hne,by simp,rfl,rfl,by rw[List.append_nil];exact ad.forIn_nil _ _⟩
 |x::M,R,T,subs,L,es,ep,hr,h,hne,ha,hl=>by
  by_cases e:R.length+1=17
  ·obtain⟨es₁,ep₁,o,T₁,h₁,g₁⟩:=wD (s:=s) (p:=p) (w:=w) (ann:=ann) (q:=q) (ps:=ps) (T:=T) (subs:=subs) (M:=R++[x]) (ep:=ep) hn hsy (by simp) h hne
    (List.Pairwise.sublist (by rw[show L++R++x::M=(L++(R++[x]))++M by simp];exact List.sublist_append_left _ _) ha) (by simp at hl |-;omega)
   obtain⟨es',ep',L',R',more,T',h',hne',eq,r',o',g'⟩:=wF F (ps:=ps) hn hsy M [] (T:=T₁) (subs:=subs++[o]) (L:=L++(R++[x])) (es:=es₁) (ep:=ep₁) (by simp) h₁ (by simp) (by simpa using ha) (by simpa using hl);refine⟨es',ep',L',R',o::more,T',h',hne',by simpa using eq, ?_, ?_, ?_⟩
   ·rw[List.length_cons];rw[CB,if_pos e];exact r'
   ·rw[List.length_cons,List.length_cons];rw[CA,if_pos e,o'];simp[Nat.add_comm]
   ·rw[List.length_cons];rw[Cz,if_pos e,List.map_cons,List.map_cons]
    have hlen:(R.map (pr ps)++[pr ps x]).length=17:=by simpa using e
    have hcast:R.map (pr ps)++[pr ps x]=(R++[x]).map (pr ps):=by simp
    rw[show subs++o::more=(subs++[o])++more by simp];refine ad.forIn_cons (n:=eh 17+(6*17+5)) ?_ g';rw[F.full (pr ps x) _ _ hlen,hcast];have e17:(R++[x]).length=17:=by simpa using e
    rw[e17]at g₁;exact ad.bind (n₁:=eh 17+(6*17+5)) (n₂:=0) g₁ (ad.pure _ _)
  ·obtain⟨es',ep',L',R',more,T',h',hne',eq,r',o',g'⟩:=wF F (ps:=ps) hn hsy M (R++[x]) (T:=T) (subs:=subs) (L:=L) (es:=es) (ep:=ep) (by simp;omega) h hne (by simpa using ha) (by simpa using hl)
   refine⟨es',ep',L',R',more,T',h',hne',by simpa using eq, ?_, ?_, ?_⟩
   ·rw[List.length_cons];rw[CB,if_neg e];simpa using r'
   ·rw[List.length_cons];rw[CA,if_neg e];simpa using o'
   ·rw[List.length_cons];rw[Cz,if_neg e,List.map_cons,List.map_cons]
    have hlen:(R.map (pr ps)++[pr ps x]).length≠17:=by simpa using e
    have hcast:R.map (pr ps)++[pr ps x]=(R++[x]).map (pr ps):=by simp
    rw[<-Nat.zero_add (cB (R.length+1) M.length)];rw[show(R++[x]).length=R.length+1 by simp]at g';refine ad.forIn_cons (n:=0) ?_ g';rw[F.more (pr ps x) _ _ hlen,hcast];exact ad.pure _ _
theorem AE{f:wE}(F:sP f){ps:Pos}(hn:n₀<=s.heap.objs.size):∀(M R:List (Int×Str)),R.length+M.length=17->M≠[]->dD (R++M) ->
 ∃es ep T,bh es (R++M)/\∀rest:List (Option (Sem Value)×Sem Value),∀{n b s'},ad p w n₀ ann q n (forIn rest (some s.heap.objs.size,[]) f) { s with heap:=hp s.heap (dO es ep) [],toks:=T } b s' ->
  ad p w n₀ ann q (eh 17+n) (forIn (((M.map (pr ps)).map λx=>(some x.1,x.2))++rest) (none,R.map (pr ps)) f) s b s'
 |[],_,_,h,_=>absurd rfl h
 |x::M,R,hl,_,ha=>by
  have hcast:R.map (pr ps)++[pr ps x]=(R++[x]).map (pr ps):=by simp
  induction M using List.casesOn with
  |nil=>
   have e17:(R++[x]).length=17:=by simpa using hl
   obtain⟨es,ep,T,h,g⟩:=AY (p:=p) (w:=w) (ann:=ann) (q:=q) (ps:=ps) (M:=R++[x]) hn (by simp) ⋯ ha;refine⟨es,ep,T,h,λrest n b s' k => ?_⟩;rw[List.map_cons,List.map_cons,List.map_nil,List.map_nil,List.cons_append,List.nil_append];refine ad.forIn_cons (n:=eh 17) ?_ k;rw[F.full (pr ps x) _ _ (by simpa using e17),hcast];rw[e17]at g;exact ad.bind (n₁:=eh 17) (n₂:=0) g (ad.pure _ _)
  |cons y M=>
   obtain⟨es,ep,T,h,k⟩:=AE F (ps:=ps) hn (y::M) (R++[x]) (by simp at hl |-;omega) (by simp) (by simpa using ha);refine⟨es,ep,T,by simpa using h,λrest n b s' j => ?_⟩;have:=k rest j;rw[List.map_cons,List.map_cons,List.cons_append,<-Nat.zero_add (eh 17+n)];refine ad.forIn_cons (n:=0) ?_ this;rw[F.more (pr ps x) _ _ (by simp at hl |-;omega),hcast];exact ad.pure _ _
noncomputable def cD(m:Nat):Nat:=eh 17+(cB 0 m+(eh (rB 0 m)+(6*rB 0 m+5)))
theorem k9(items:List (Option (Sem Value)×Sem Value)):∃f,sP f/\dictDisplay items=(do
 let st <-forIn items (none,[]) f;let m <-nh st.2 st.1
 match m with
 |some d=>pure (.ref d)
 |none=>newDict):=by
 refine⟨?f,⟨?_, ?_⟩, ?e⟩
 case e=>unfold dictDisplay;rfl
 ·intro x main run h
  dsimp only;rw[if_neg (by simpa using h)]
 ·intro x main run h
  dsimp only;rw[if_pos (by simpa using h)]
  rfl
theorem y6{ps:Pos}{A B:List (Int×Str)}(hn:n₀<=s.heap.objs.size)(hsy:sysModules<s.heap.objs.size)(hA:A.length=17)(hr:rB 0 B.length≠0)(ha:dD (A++B))(hl:(A++B).length<=1000):
 ∃es ep subs T,bh es (A++B)/\subs.length=oB 0 B.length+1 /\
  ad p w n₀ ann q (cD B.length) (dictDisplay (((A++B).map (pr ps)).map λx=>(some x.1,x.2))) s (.ref s.heap.objs.size) { s with heap:=hp s.heap (dO es ep) subs,toks:=T }:=by
 obtain⟨f,F,e⟩:=k9 (((A++B).map (pr ps)).map λx=>(some x.1,x.2));obtain⟨es₁,ep₁,T₁,h₁,k₁⟩:=AE (s:=s) (p:=p) (w:=w) (ann:=ann) (q:=q) F (ps:=ps) hn A [] (by simpa using hA) (by intro q;rw[q]at hA;cases hA) (by rw[List.nil_append];exact(List.pairwise_append.mp ha).1);obtain⟨es₂,ep₂,L₂,R₂,more,T₂,h₂,hne,eq,r₂,o₂,g₂⟩:=wF (s:=s) (p:=p) (w:=w) (ann:=ann) (q:=q) F (ps:=ps) hn hsy B [] (T:=T₁) (subs:=[]) (L:=A) (es:=es₁) (ep:=ep₁) (by simp) (by simpa using h₁)
  (by intro q;rw[q]at hA;cases hA) (by simpa using ha) (by simpa using hl)
 rw[List.append_nil]at eq;have hR:R₂≠[]:=by
  intro q;rw[q]at r₂;exact hr r₂.symm
 obtain⟨es₃,ep₃,o,T₃,h₃,g₃⟩:=wD (s:=s) (p:=p) (w:=w) (ann:=ann) (q:=q) (ps:=ps) (T:=T₂) (subs:=[]++more) (M:=R₂) (ep:=ep₂) hn hsy hR h₂ hne (by rw[eq];exact ha) (by rw[eq];exact hl);refine⟨es₃,ep₃,[]++more++[o],T₃,by rw[<-eq];exact h₃,by simp[o₂], ?_⟩;rw[e];have g:=k₁ _ g₂;unfold cD;rw[show eh 17+(cB 0 B.length+(eh (rB 0 B.length)+(6*rB 0 B.length+5)))=(eh 17+cB 0 B.length)+(eh (rB 0 B.length)+(6*rB 0 B.length+5))by omega];refine ad.bind (n₁:=eh 17+cB 0 B.length) (a:=(some s.heap.objs.size,R₂.map (pr ps))) (s₁:={ s with heap:=hp s.heap (dO es₂ ep₂) ([]++more),toks:=T₂ }) ?_ ?_
 ·have:=g
  rw[List.map_append,List.map_append]
  simpa using this
 ·rw[show([]:List (Int×Str)).length=0 from rfl]at r₂
  rw[r₂]at g₃;exact ad.bind (n₁:=eh (rB 0 B.length)+(6*rB 0 B.length+5)) (n₂:=0) g₃ (ad.pure _ _)
end
end
section
open PySem PySem.W PySem.Calls PyProof.Rows
noncomputable def kr(p:Program):Env:={ scope:=p.main.scope,locals:=mainNs,globals:=mainNs,cells:=[],code := .ref 30,frame:=some 31 }
noncomputable abbrev kt(p:Program):Code := .body (behindTheImports p) (kr p)
noncomputable def q0:Pos:=⟨0,0,0,0⟩
noncomputable def fQ:Option Value:=some (.ref 6)
structure Fn where
 tb:String->Option Builtin
 den:(String->Option Builtin)->Code->Sem PySem.Fin
 imp:(String->Option Builtin)->Program->World->Nat->Shared->Thread->Option Shared
 st:Program->Shared×Thread
 fence:Program->Shared->Option Shared
 tgo:(String->Option Builtin)->Program->World->Nat->Option Value->Nat->Shared->Thread->Option (Shared×Thread)
 seg:(String->Option Builtin)->Program->World->Nat->Option Value->Nat->Nat->Shared->Thread->Option (Flow×Shared×Code×Pos)
 trun:(String->Option Builtin)->Program->World->Nat->Option Value->Nat->Shared->Thread->Option Shared
noncomputable def fR:Fn:=⟨treeTable,denote,importEnds,start,fenceModules?,topGo,segRun,topRun⟩
noncomputable def fast:Fn:=⟨PySem.W.Fast.tw14364793385576792824,PySem.W.Fast.tw11892475500146522536,PySem.W.Fast.tw10274390034422433532,PySem.W.Fast.tw1435165496053646825,PySem.W.Fast.tw14289696077712309145,PySem.W.Fast.tw15667345088766844465,PySem.W.Fast.tw14374325043358763698,PySem.W.Fast.tw14082659384304107361⟩
theorem ni:fR=fast:=by
 unfold fR fast;rw[PySem.W.Fast.te14364793385576792824,PySem.W.Fast.te11892475500146522536,PySem.W.Fast.te10274390034422433532,PySem.W.Fast.te1435165496053646825,PySem.W.Fast.te14289696077712309145,PySem.W.Fast.te15667345088766844465,PySem.W.Fast.te14374325043358763698,PySem.W.Fast.te14082659384304107361]
noncomputable def AZ(F:Fn)(p:Program)(w:World):Option Shared:=(F.imp F.tb (opening p) w 2000 (F.st (opening p)).1 (F.st (opening p)).2).bind (F.fence p)
noncomputable def EB:Shared:={}
noncomputable def s0(F:Fn)(p:Program)(w:World):Shared:=match AZ F p w with|some s=>s|none=>EB
noncomputable def A0(F:Fn)(p:Program)(w:World):Option (Shared×Thread):=F.tgo F.tb p w 28 fQ 12 (s0 F p w) (topStub p)
noncomputable def sA(F:Fn)(p:Program)(w:World):Shared:=match A0 F p w with|some r=>r.1|none=>EB
noncomputable def CC(F:Fn)(p:Program)(i N:Nat)(w:World):Option (Flow×Shared×Code×Pos):=F.seg F.tb p w 28 fQ 1 N (sA F p w) (piecesOf ((behindTheImports p).take i) (kr p) (kt p) q0 [topFrame q0])
noncomputable def k1(F:Fn)(p:Program)(i N:Nat)(w:World):Bool×Bool×Nat×Option Value×Option Thread×Option (Flow×Shared×Code×Pos)×Option (Flow×Shared×Code×Pos):=
 ((AZ F p w).isSome,(s0 F p w).heap.isNs mainGlobals&&(s0 F p w).gens.size==0,(s0 F p w).heap.objs.size,(s0 F p w).heap.nsMap mainGlobals "__annotations__",(A0 F p w).map (·.2),
  F.seg F.tb p w 28 fQ 1 1 (sA F p w) (blockOf (behindTheImports p) (kr p) (kt p) q0 [topFrame q0]),CC F p i N w)
noncomputable def cz(os:List Obj)(T:Nat):Shared:={ heap:=⟨⟨os⟩,{}⟩,toks:=T }
noncomputable def jw(F:Fn)(p:Program)(ps:Pos)(sb:Shared)(w:World):Bool×Bool×Nat×Option Value×Option Thread×Option (Flow×Shared×Code×Pos)×Option (Flow×Shared×Code×Pos):=
 (true,true,28,fQ,some ⟨F.den F.tb (kt p),kt p,q0,[topFrame q0]⟩,some (.next,sA F p w,kt p,q0),some (.next,sb,kt p,ps))
noncomputable def fS(F:Fn)(p:Program)(i k N:Nat)(ps:Pos)(w:World)(s:Shared):Option (Flow×Shared×Code×Pos):=
 F.seg F.tb p w 28 fQ 1 N s (piecesOf (((behindTheImports p).drop i).take k) (kr p) (kt p) ps [topFrame q0])
structure DictStmt where
 name:Str
 npos:Pos
 keys:List (Option Expr)
 vals:List Expr
 dpos:Pos
 pos:Pos
noncomputable def wG:List Expr->Option (Str×Pos)
 |[t]=>match t with
  | .Name x np=>some (x,np)
  |_=>none
 |_=>none
noncomputable def wH:Expr->Option (List (Option Expr)×List Expr×Pos)
 | .Dict ks vs dp=>some (ks,vs,dp)
 |_=>none
noncomputable def CD:Stmt->Option (List Expr×Expr×Pos)
 | .Assign ts v ps=>some (ts,v,ps)
 |_=>none
noncomputable def gB(st:Stmt):Option DictStmt:=(CD st).bind λa=>(wG a.1).bind λx=>(wH a.2.1).map λd=>⟨x.1,x.2,d.1,d.2.1,d.2.2,a.2.2⟩
theorem wI{ts:List Expr}{x:Str×Pos}(h:wG ts=some x):ts=[.Name x.1 x.2]:=by
 induction ts using List.casesOn with
 |nil=>exact ao h
 |cons t r=>induction r using List.casesOn with
  |nil=>induction t using Expr.casesOn with
   |Name y p=>injections h;rfl
   |_=>exact ao h
  |cons _ _=>exact ao h
theorem wJ{e:Expr}{x}(h:wH e=some x):e = .Dict x.1 x.2.1 x.2.2:=by
 cases e with
 |Dict ks vs dp=>injections h;rfl
 |_=>exact ao h
theorem A3{s:Stmt}{x}(h:CD s=some x):s = .Assign x.1 x.2.1 x.2.2:=by
 induction s using Stmt.casesOn with
 |Assign ts v ps=>injections h;rfl
 |_=>exact ao h
noncomputable def DictStmt.stmt(d:DictStmt):Stmt := .Assign [.Name d.name d.npos] (.Dict d.keys d.vals d.dpos) d.pos
theorem qJ{st:Stmt}{d:DictStmt}(h:gB st=some d):st=d.stmt:=by
 obtain⟨a,h1,h2⟩:=Option.bind_eq_some_iff.mp h;obtain⟨x,h3,h4⟩:=Option.bind_eq_some_iff.mp h2;obtain⟨y,h5,h6⟩:=Option.map_eq_some_iff.mp h4;subst h6;rw[A3 h1,wI h3,wJ h5];rfl
noncomputable def AF:Option Expr->Option Int
 |some (.Constant (.int k) _ _)=>some k
 |_=>none
noncomputable def AG:Expr->Option Str
 | .Constant (.str v) _ _=>some v
 |_=>none
noncomputable def sQ(k:Option Expr)(v:Expr):Option (Int×Str):=(AF k).bind λi=>(AG v).map λy=>(i,y)
noncomputable def dm:List (Option Expr)->List Expr->Option (List (Int×Str))
 |[],[]=>some []
 |k::ks,v::vs=>(sQ k v).bind λx=>(dm ks vs).map λL=>x::L
 |_,_=>none
theorem y7{k:Option Expr}{i:Int}(h:AF k=some i):∃a b,k=some (.Constant (.int i) a b):=by
 induction k using Option.casesOn with
 |none=>exact ao h
 |some e=>induction e using Expr.casesOn with
  |Constant c a b=>induction c using Const.casesOn with
   |int j=>injections h;exact⟨a,b,rfl⟩
   |_=>exact ao h
  |_=>exact ao h
theorem y8{v:Expr}{y:Str}(h:AG v=some y):∃a b,v = .Constant (.str y) a b:=by
 induction v using Expr.casesOn with
 |Constant c a b=>induction c using Const.casesOn with
  |str j=>injections h;exact⟨a,b,rfl⟩
  |_=>exact ao h
 |_=>exact ao h
theorem wK{env:Env}{ps:Pos}{k:Option Expr}{v:Expr}{x:Int×Str}(h:sQ k v=some x):evalOpt k env=some (pr ps x).1/\(do let y <-eval v env;standAt ps;pure y)=(pr ps x).2:=by
 obtain⟨i,h1,h2⟩:=Option.bind_eq_some_iff.mp h;obtain⟨y,h3,rfl⟩:=Option.map_eq_some_iff.mp h2;obtain⟨a,b,rfl⟩:=y7 h1;obtain⟨c,d,rfl⟩:=y8 h3;exact⟨rfl,rfl⟩
theorem nj{env:Env}{ps:Pos}:∀{ks:List (Option Expr)} {vs:List Expr} {L:List (Int×Str)},dm ks vs=some L ->
 (evalEachOpt ks env).zip ((evalEach vs env).map λv=>do let x <-v;standAt ps;pure x)=(L.map (pr ps)).map λx=>(some x.1,x.2)
 |[],[],L,h=>by injections h;rfl
 |k::ks,v::vs,L,h=>by
   obtain⟨x,e1,h2⟩:=Option.bind_eq_some_iff.mp (show((sQ k v).bind λx=>(dm ks vs).map λL=>x::L)=some L from h);obtain⟨M,e2,rfl⟩:=Option.map_eq_some_iff.mp h2;have:=nj (env:=env) (ps:=ps) e2;obtain⟨r1,r2⟩:=wK (env:=env) (ps:=ps) e1;show(evalOpt k env,do let y <-eval v env;standAt ps;pure y)::((evalEachOpt ks env).zip ((evalEach vs env).map _))=_;rw[this,r1,r2]
   rfl
 |[],_::_,_,h=>by injections h
 |_::_,[],_,h=>by injections h
noncomputable def ib:Int->List (Int×Str)->Bool
 |_,[]=>true
 |a,x::L=>decide (a<x.1)&&decide (x.1<2147483648)&&ib x.1 L
theorem lc{k:Int}(h0:0<=k)(h1:k<2147483648):PySem.hashInt k=k:=by
 have hr:rawHash k=k:=by
  unfold rawHash;have h2:((k.natAbs:Int)%((2^61-1:Nat):Int))=k:=by
   rw[Int.natAbs_of_nonneg h0];exact Int.emod_eq_of_lt h0 ⋯
  have hk:¬k<0:=⋯;have hm:(k == -1)=false:=by rw[beq_eq_false_iff_ne];omega
  simp only[h2,if_neg hk,hm,Bool.false_eq_true,if_false]
 unfold PySem.hashInt;have hm:(k == -1)=false:=by rw[beq_eq_false_iff_ne];omega
 rw[hr,hm,if_neg Bool.false_ne_true]
theorem jX:∀{a:Int} {L:List (Int×Str)},0<=a->ib a L=true->(∀x∈L,a<x.1/\x.1<2147483648)/\L.Pairwise λx y=>x.1<y.1
 |_,[],_,_=>⟨λ_ h=>(nomatch h), .nil⟩
 |a,x::L,h0,h=>by
  have h3:=(ay h).2;have h1:=of_decide_eq_true (ay (ay h).1).1;have h2:=of_decide_eq_true (ay (ay h).1).2;obtain⟨k1,k2⟩:=jX ⋯ h3;refine⟨λy hy => ?_, .cons (λy hy=>(k1 y hy).1) k2⟩
  rcases List.mem_cons.mp hy with rfl|hy
  ·exact⟨h1,h2⟩
  ·have:=k1 y hy;exact⟨⋯,this.2⟩
theorem ku{L:List (Int×Str)}(h:ib 0 L=true):dD L:=by
 obtain⟨k1,k2⟩:=jX (Int.le_refl 0) h;unfold dD;refine List.Pairwise.imp_of_mem ?_ k2;intro x y hx hy hlt;have a:=k1 x hx;have b:=k1 y hy;rw[lc ⋯ a.2,lc ⋯ b.2]
 omega
section
variable {p:Program} {w:World} {n₀:Nat} {ann:Option Value} {q:Pos} {s s':Shared}
theorem wL {env:Env} {ks:List (Option Expr)} {vs:List Expr} {ps:Pos} {L:List (Int×Str)} (hL:dm ks vs=some L) (hr:ib 0 L=true) (h17:17<=L.length) (h1000:L.length<=1000) (hrem:rB 0 (L.length-17)≠0)
 (hn:n₀<=s.heap.objs.size) (hsy:sysModules<s.heap.objs.size):
 ∃es ep subs T,bh es L/\subs.length=oB 0 (L.length-17)+1 /\
  ad p w n₀ ann q (1+cD (L.length-17)) (eval (.Dict ks vs ps) env) s (.ref s.heap.objs.size) { s with heap:=hp s.heap (dO es ep) subs,toks:=T }:=by
 have hB:(L.drop 17).length=L.length-17:=List.length_drop;obtain⟨es,ep,subs,T,h1,h2,g⟩:=y6 (s:=s) (p:=p) (w:=w) (ann:=ann) (q:=q) (ps:=ps) (A:=L.take 17) (B:=L.drop 17) hn hsy (by rw[List.length_take];omega) (by rw[hB];exact hrem) (by rw[List.take_append_drop];exact ku hr) (by rw[List.take_append_drop];exact h1000);rw[List.take_append_drop]at h1 g;rw[hB]at h2 g;refine⟨es,ep,subs,T,h1,h2, ?_⟩;rw[arm_eval_Dict,nj hL];exact ad.bind (n₁:=1) (ad.standAt _ _) g
noncomputable def nk(env:Env)(d:DictStmt)(v:Value):Sem Flow:=do
 standAt d.npos
 bindName env d.name v
 pure .next
noncomputable def qK(env:Env)(rest:List Stmt)(f:Flow):Sem Flow:=match f with| .next=>execs rest env|f=>pure f
noncomputable def fi(env:Env)(d:DictStmt)(rest:List Stmt)(v:Value)(c:Code)(ps q:Pos):Thread:=
 ⟨(nk env d v).wrap (λf=>(qK env rest f).wrap doneF (leaveH env) id id) (leaveH env) id id,c,ps,[topFrame q]⟩
theorem wM {env:Env} {d:DictStmt} {rest:List Stmt} {c:Code} {ps:Pos} {L:List (Int×Str)} (hL:dm d.keys d.vals=some L) (hr:ib 0 L=true) (h17:17<=L.length) (h1000:L.length<=1000) (hrem:rB 0 (L.length-17)≠0)
 (hn:n₀<=s.heap.objs.size) (hsy:sysModules<s.heap.objs.size):
 ∃es ep subs T,bh es L/\subs.length=oB 0 (L.length-17)+1/\∃ps',
  topGo treeTable p w n₀ ann (1+(1+cD (L.length-17))) s (restOf (d.stmt::rest) env c ps [topFrame q])=some ({ s with heap:=hp s.heap (dO es ep) subs,toks:=T },fi env d rest (.ref s.heap.objs.size) c ps' q):=by
 obtain⟨es,ep,subs,T,h1,h2,g⟩:=wL (s:=s) (p:=p) (w:=w) (n₀:=n₀) (ann:=ann) (q:=q) (env:=env) (ps:=d.dpos) hL hr h17 h1000 hrem hn hsy;refine⟨es,ep,subs,T,h1,h2, ?_⟩;have e:execs (d.stmt::rest) env=(do
  let v <-(do standAt d.pos;eval (.Dict d.keys d.vals d.dpos) env:Sem Value);let f <-nk env d v
  qK env rest f):=by
  rw[execs_cons];unfold DictStmt.stmt;rw[exec_Assign_Name env d.name d.npos _ d.pos rfl];simp only[bind_assoc,nk,pure_bind]
  rfl
 unfold restOf;rw[e];have G:ad p w n₀ ann q (1+(1+cD (L.length-17))) (do standAt d.pos;eval (.Dict d.keys d.vals d.dpos) env:Sem Value) s _ _:=ad.bind (n₁:=1) (ad.standAt _ _) g;obtain⟨ps',k⟩:=G (λv=>(do let f <-nk env d v;qK env rest f:Sem Flow).wrap doneF (leaveH env) id id) (leaveH env) id id c ps;refine⟨ps', ?_⟩;have:((do let v <-(do standAt d.pos;eval (.Dict d.keys d.vals d.dpos) env:Sem Value);let f <-nk env d v;qK env rest f:Sem Flow)).wrap doneF (leaveH env) id id =
  (do standAt d.pos;eval (.Dict d.keys d.vals d.dpos) env:Sem Value).wrap (λv=>(do let f <-nk env d v;qK env rest f:Sem Flow).wrap doneF (leaveH env) id id) (leaveH env) id id:=by
  rw[Sem.bind_eq_wrap',Sem.wrap_wrap]
  rfl
 rw[this,k];unfold fi;rw[Sem.bind_eq_wrap',Sem.wrap_wrap]
 rfl
end
noncomputable def nq(p:Program)(i:Nat):List Stmt:=(behindTheImports p).drop (i+1)
noncomputable def dF(p:Program)(i:Nat):DictStmt:=match((behindTheImports p).drop i).head?.bind gB with|some d=>d|none=>⟨Str.empty,q0,[],[],q0,q0⟩
noncomputable def ve(F:Fn)(p:Program)(i M n:Nat)(w:World)(os more:List Obj)(T:Nat)(ps:Pos):Option Shared:=
 F.trun F.tb p w 28 fQ M (cz (os++more) T) (fi (kr p) (dF p i) (nq p i) (.ref n) (kt p) ps q0)
noncomputable def sR(F:Fn)(p:Program)(w:World)(s:Shared):Bool:=
 staticsOk (importedModules p.main.body) (s0 F p w).heap s.heap&&namesBound p s.heap&&gensDone s&&laidKept (s0 F p w).heap s.heap
structure DP where
 name:Str
 params:Arguments
 body:List Stmt
 scope:Scope
noncomputable def CE:DP:=⟨Str.empty,⟨[],[],none,[],[],none,[]⟩,[],{ kind := .function,names:=[],isGenerator:=false,isCoroutine:=false,more:=[] }⟩
noncomputable def CF:Option Stmt->DP
 |some (.FunctionDef n a b _ _ _ s _ _ _)=>⟨n,a,b,s⟩
 |_=>CE
noncomputable def aV(p:Program)(i:Nat):DP:=CF p.main.body[i]?
noncomputable def a0(p:Program)(i j:Nat):DP:=match p.main.body[i]? with
 |some (.ClassDef _ _ _ b _ _ _ _ _ _ _)=>CF b[j]?
 |_=>CE
noncomputable def fD(d:DP)(q:Str)(globals:Addr)(pm cd:Value)(bi:Addr):FuncData:=
 { name:=d.name,qualname:=q,params:=d.params,body := .stmts d.body,scope:=d.scope,globals:=globals,closure:=[],defaults := .none,kwdefaults := .none,pyModule:=pm,code:=cd,builtins:=bi }
noncomputable def dE(P:Params)(x:Str)(t:Nat)(v:Value):DictEntry:=⟨PyData.keyHash P x, .str x t,v⟩
end
section
open PySem PySem.W PySem.Calls PyProof.Rows
theorem vf{α:Type}(a:Array α)(l:List α):a++l.toArray=⟨a.toList++l⟩:=by
 apply Array.toList_inj.mp;simp
theorem mT(os:List Obj):os=(List.range os.length).map λi=>os.getD i default:=by
 apply List.ext_getElem
 ·simp
 ·intro i h1 h2
  simp[List.getD,List.getElem?_eq_getElem h1]
theorem wN(p:Program)(w:World):AZ fR p w=(importEnds treeTable (opening p) w 2000 (start (opening p)).1 (start (opening p)).2).bind (fenceModules? p):=by
 unfold AZ fR;dsimp only
theorem mU{p:Program}{w:World}{z:Shared}{NN:Nat}(h:2000<=NN)(hz:AZ fR p w=some z):fencedOpening treeTable p w NN=some z:=by
 rw[wN]at hz;generalize hK:2000=K at h hz;obtain⟨y,hy,hy'⟩:=Option.bind_eq_some_iff.mp hz;have:=importEnds_mono (NN-K) _ _ _ _ hy;rw[show K+(NN-K)=NN by omega]at this;unfold fencedOpening;rw[this];exact hy'
structure A4(p:Program)(i M n m:Nat)(w:World)(os:List Obj)(T₀ A:Nat){β:Type}(obs:Shared->β)(val:(Nat->Obj)->β):Prop where
 first:∃z ps,AZ fR p w=some z/\(z.heap.isNs mainGlobals&&z.gens.size==0)=true/\z.heap.objs.size=28/\z.heap.nsMap mainGlobals "__annotations__"=fQ /\
  ∀N r,topRun treeTable p w 28 fQ N (cz os T₀) (restOf ((behindTheImports p).drop i) (kr p) (kt p) ps [topFrame q0])=some r->topRun treeTable p w 28 fQ (A+N) z (topStub p)=some r
 size:os.length=n
 then_:∀(f:Nat->Obj) (T:Nat) (ps:Pos),(ve fR p i M n w os ((List.range m).map f) T ps).map obs=some (val f)
theorem wO{p:Program}{i N:Nat}{w:World}{ps:Pos}{sb:Shared}(k:k1 fR p i N w=jw fR p ps sb w):
 ∃z,AZ fR p w=some z/\(z.heap.isNs mainGlobals&&z.gens.size==0)=true/\z.heap.objs.size=28/\z.heap.nsMap mainGlobals "__annotations__"=fQ /\
 ∀K r,topRun treeTable p w 28 fQ K sb (restOf ((behindTheImports p).drop i) (kr p) (kt p) ps [topFrame q0])=some r->topRun treeTable p w 28 fQ (12+(1+(N+K))) z (topStub p)=some r:=by
 unfold k1 jw at k;simp only[Prod.mk.injEq]at k;obtain⟨a1,a2,a3,a4,a5,a6,a7⟩:=k;obtain⟨z,hz⟩:=Option.isSome_iff_exists.mp a1;have hs0:s0 fR p w=z:=by unfold s0;rw[hz]
 obtain⟨r5,h5,h5'⟩:=Option.map_eq_some_iff.mp a5;obtain⟨sa,ta⟩:=r5;dsimp only at h5';subst h5';have hsA:sA fR p w=sa:=by unfold sA;rw[h5]
 unfold CC at a7;rw[hsA]at a6 a7;rw[hs0]at a2 a3 a4;unfold A0 at h5;rw[hs0]at h5;refine⟨z,hz,a2,a3,a4,λK r h => ?_⟩;have c4:=piece_app (tb:=treeTable) (n:=N) a7 h;rw[List.take_append_drop]at c4;exact go_top h5 (piece_block (tb:=treeTable) (n:=1) a6 c4)
theorem wP {p:Program} {i k N:Nat} {w:World} {ps ps':Pos} {s s':Shared} (h:fS fR p i k N ps w s=some (.next,s',kt p,ps')) {K:Nat} {r:Shared}
 (t:topRun treeTable p w 28 fQ K s' (restOf ((behindTheImports p).drop (i+k)) (kr p) (kt p) ps' [topFrame q0])=some r):
 topRun treeTable p w 28 fQ (N+K) s (restOf ((behindTheImports p).drop i) (kr p) (kt p) ps [topFrame q0])=some r:=by
 unfold fS at h;rw[<-List.drop_drop]at t;have:=piece_app (tb:=treeTable) (n:=N) h t;rw[List.take_append_drop]at this;exact this
theorem A5 {p:Program} {i M n m NN T₀ A:Nat} {w:World} {os:List Obj} {β:Type} {obs:Shared->β} {val:(Nat->Obj)->β} (H:A4 p i M n m w os T₀ A obs val) {L:List (Int×Str)} {g:Shared->Prop}
 (hd:((behindTheImports p).drop i).head?.bind gB=some (dF p i)) (hL:dm (dF p i).keys (dF p i).vals=some L) (hr:ib 0 L=true) (hlen:L.length=650) (hm:m=39) (hn:28<=n)
 {C:Nat} (hC:cD 633=C) (hN:2000<=NN/\A+((1+(1+C))+M)<=NN)
 (hg:∀(f:Nat->Obj) (s:Shared),obs s=val f->(∃es ep,bh es L/\f 0=dO es ep)->sR fR p w s=true/\g s):
 ∃s,openEnds treeTable p w NN=some s/\g s:=by
 obtain⟨⟨z,p7,hz,a2,a3,a4,ch⟩,a8,e2⟩:=H;have hs0:s0 fR p w=z:=by unfold s0;rw[hz]
 have hst:(behindTheImports p).drop i=(dF p i).stmt::nq p i:=by
  obtain⟨st,e,e'⟩:=Option.bind_eq_some_iff.mp hd;cases q:(behindTheImports p).drop i with
  |nil=>rw[q]at e;injections e
  |cons x l=>
   rw[q]at e;injections e;rw[qJ e'];have:nq p i=l:=by
    unfold nq;rw[<-List.drop_drop,q];rfl
   rw[this]
 have hsz:(cz os T₀).heap.objs.size=n:=a8;obtain⟨es,ep,subs,T,hE,hsub,ps',hgo⟩:=wM (p:=p) (w:=w) (n₀:=28) (ann:=fQ) (q:=q0) (s:=cz os T₀) (env:=kr p) (d:=dF p i) (rest:=nq p i) (c:=kt p) (ps:=p7) hL hr ⋯ ⋯
  (by rw[hlen];decide) (by rw[hsz];exact hn) (by rw[hsz];exact Nat.lt_of_lt_of_le nofun hn)
 have hsl:(dO es ep::subs).length=m:=by
  rw[List.length_cons,hsub,hlen,hm];decide
 have e:=e2 (λj=>(dO es ep::subs).getD j default) T ps';rw[<-hsl,<-mT]at e;obtain⟨sf,hf,hv⟩:=Option.map_eq_some_iff.mp e;obtain⟨g1,g2⟩:=hg _ sf hv ⟨es,ep,hE,rfl⟩;refine⟨sf, ?_,g2⟩;unfold ve at hf;have c1:topRun treeTable p w 28 fQ M { cz os T₀ with heap:=hp (cz os T₀).heap (dO es ep) subs,toks:=T } (fi (kr p) (dF p i) (nq p i) (.ref (cz os T₀).heap.objs.size) (kt p) ps' q0)=some sf:=by
  rw[hsz];have:hp (cz os T₀).heap (dO es ep) subs=⟨⟨os++(dO es ep::subs)⟩,{}⟩:=by
   unfold hp;rw[vf]
   rfl
  rw[this];exact hf
 rw[hlen,show 650-17=633 from rfl,hC]at hgo;have c2:=go_top hgo c1;have c3:topRun treeTable p w 28 fQ (1+(1+C)+M) (cz os T₀) (restOf ((behindTheImports p).drop i) (kr p) (kt p) p7 [topFrame q0])=some sf:=by rw[hst];exact c2
 have c6:=ch _ _ c3;have c7:=topRun_mono (NN-(A+((1+(1+C))+M))) _ _ _ _ c6;rw[show A+(1+(1+C)+M)+(NN-(A+(1+(1+C)+M)))=NN by omega]at c7;have hopen:fencedOpening treeTable p w NN=some z:=mU hN.1 hz;unfold openEnds;rw[hopen];show topFrom treeTable p w NN z=some sf;unfold topFrom;rw[a2,a3,a4];dsimp only;rw[c7];show(match staticsOk (importedModules p.main.body) z.heap sf.heap&&namesBound p sf.heap&&gensDone sf&&laidKept z.heap sf.heap with|true=>some sf|false=>none)=some sf;unfold sR at g1;rw[hs0]at g1;rw[g1]
noncomputable def strip:Value->Value
 | .int i _ => .int i 0
 | .str s _ => .str s 0
 |v=>v
noncomputable def ic(sl:Array (Option Value)):Array (Option Value):=bif Nat.beq sl.toList.length 6 then⟨[sl.toList.getD 4 none]⟩else⟨[]⟩
noncomputable def fj:Obj->Obj
 |⟨c,d, .seq xs _,_⟩=>⟨c,d, .seq ⟨xs.toList.map strip⟩ 0, #[]⟩
 |⟨c,d, .fields xs,_⟩=>⟨c,d, .fields ⟨xs.toList.map strip⟩, #[]⟩
 |⟨c,d, .set es _ t,sl⟩=>⟨c,d, .set ⟨es.toList.map λe=>(e.1,strip e.2)⟩ 0 { t with led:=true },sl⟩
 |⟨c,d, .func f,_⟩=>⟨c,d, .func { f with pyModule := .none,doc := .none }, #[]⟩
 |⟨c,d, .cls k,sl⟩=>⟨c,d, .cls k,ic sl⟩
 |⟨c,d,dt,_⟩=>⟨c,d,dt, #[]⟩
noncomputable abbrev iL:=List (Str×Option Value)
structure pI where
 globals:iL
 builtins:iL
 statics:iL
 nss:List (Addr×iL)
 objs:List (Addr×Obj)
 codes:List (Addr×Str)
noncomputable abbrev Told:Type:=Bool×List (Option Value)×List (Option Value)×List (Option Value)×List (Bool×List (Option Value))×List (Option Obj)×List (Option Value)
noncomputable def qM(o:Obj):Option Value:=match o.data with
 | .fields vs=>(vs[1]?).map strip
 |_=>none
noncomputable def ld(h:Heap)(a:Addr)(l:iL):List (Option Value):=l.map λx=>(h.nsMap a x.1).map strip
noncomputable def lookup(A:pI)(h:Heap):Told:=
 (h.isNs mainGlobals&&h.isNs builtinsNs&&h.isNs cStatics,ld h mainGlobals A.globals,ld h builtinsNs A.builtins,ld h cStatics A.statics,
  A.nss.map λa=>(h.isNs a.1,ld h a.1 a.2),A.objs.map λa=>(h.get? a.1).map fj,A.codes.map λa=>(h.get? a.1).bind qM)
noncomputable def fT(A:pI):Told:=(true,A.globals.map (·.2),A.builtins.map (·.2),A.statics.map (·.2),A.nss.map λa=>(true,a.2.map (·.2)),A.objs.map λa=>some a.2,A.codes.map λa=>some (.str a.2 0))
noncomputable def lf{γ:Type}(F:Fn)(os:(q:Program)->(loose mods:List Str)->(Xt:Shared->Bool)->(g0:Bool)->Shared->γ)(p q:Program)(loose:List Str)(A:pI)(n:Nat)(w:World)(s:Shared):Bool×γ×Told×Option Obj:=
 (sR F p w s,os q loose (importedModules p.main.body) (λ_=>true) true s,lookup A s.heap,s.heap.objs[n]?)
noncomputable def wQ(p:Program):Program:={ p with main:={ p.main with body:=p.main.body.drop (p.main.body.length-1) } }
noncomputable def wf(b1 b2:Bool)(w:World):World:=(w.withFollow "set-order" b1).withFollow "special-get-raises" b2
noncomputable def fU(h:Heap)(a:Addr)(l:iL):Prop:=∃m,h.Ns a m/\∀x∈l,(m x.1).map strip=x.2
structure cP(A:pI)(n:Nat)(L:List (Int×Str))(h:Heap):Prop where
 globals:fU h mainGlobals A.globals
 builtins:fU h builtinsNs A.builtins
 statics:fU h cStatics A.statics
 nss:∀x∈A.nss,fU h x.1 x.2
 objs:∀x∈A.objs,∃o,h.get? x.1=some o/\fj o=x.2
 codes:∀x∈A.codes,h.CodeRec (.ref x.1) x.2
 dict:∃es ep,h.get? n=some (dO es ep)/\bh es L
theorem nr{v:Value}{x:Str}(e:strip v = .str x 0):∃t,v = .str x t:=by
 induction v using Value.casesOn with
 |str s t=>exact⟨t,congrArg (Value.str · t) (Value.str.inj e).1⟩
 |_=>exact ab (congrArg (λv:Value=>Nat.beq v.ctorIdx 6) e)
theorem ig{v u:Value}(n:(Nat.beq u.ctorIdx 4||Nat.beq u.ctorIdx 6)=false)(e:strip v=u):v=u:=by
 induction v using Value.casesOn with
 |int i t=>subst e;exact ab n.symm
 |str s t=>subst e;exact ab n.symm
 |_=>exact e
theorem kx{h:Heap}{a:Addr}{x:Str}(e:(h.get? a).bind qM=some (.str x 0)):h.CodeRec (.ref a) x:=by
 obtain⟨o,h1,h2⟩:=Option.bind_eq_some_iff.mp e;obtain⟨cl,dd,dt,sl⟩:=o
 induction dt using Data.casesOn with
 |fields vs=>
  obtain⟨v,h3,h4⟩:=Option.map_eq_some_iff.mp (show(vs[1]?).map strip=_ from h2);obtain⟨t,rfl⟩:=nr h4;exact⟨a,_,vs,t,rfl,h1,rfl,h3⟩
 |_=>exact ao h2
theorem dn{α β:Type}{f g:α->β}:∀{l:List α},l.map f=l.map g->∀x∈l,f x=g x
 |a::l,h,x,hx=>by
  simp only[List.map_cons,List.cons.injEq]at h
  rcases List.mem_cons.mp hx with rfl|hx
  ·exact h.1
  ·exact dn h.2 x hx
theorem gC{h:Heap}{a:Addr}{l:iL}(x:h.isNs a=true)(e:ld h a l=l.map (·.2)):fU h a l:=⟨_, .of_isNs x,dn e⟩
theorem vg{A:pI}{n:Nat}{L:List (Int×Str)}{h:Heap}(e:lookup A h=fT A)(hd:∃es ep,h.get? n=some (dO es ep)/\bh es L):cP A n L h:=by
 unfold lookup fT at e;simp only[Prod.mk.injEq,Bool.and_eq_true]at e;obtain⟨⟨⟨e1,e2⟩,e3⟩,e4,e5,e6,e7,e8,e9⟩:=e;refine⟨gC e1 e4,gC e2 e5,gC e3 e6,λx hx => ?_,λx hx => ?_,λx hx=>kx (dn e9 x hx),hd⟩
 ·have:=dn e7 x hx
  simp only[Prod.mk.injEq]at this;exact gC this.1 this.2
 ·obtain⟨o,h1,h2⟩:=Option.map_eq_some_iff.mp (dn e8 x hx)
  exact⟨o,h1,h2⟩
theorem fU.keeps{h h':Heap}{a:Addr}{l:iL}(x:fU h a l)(k:∀b o,h.get? b=some o->h'.get? b=some o):fU h' a l:=by
 obtain⟨m,⟨o,es,ep,ho,r⟩,hl⟩:=x;exact⟨m,⟨o,es,ep,k _ _ ho,r⟩,hl⟩
theorem cP.keeps{A:pI}{n:Nat}{L:List (Int×Str)}{h h':Heap}(x:cP A n L h)(k:∀b o,h.get? b=some o->h'.get? b=some o):cP A n L h':=
 ⟨x.globals.keeps k,x.builtins.keeps k,x.statics.keeps k,λy hy=>(x.nss y hy).keeps k,λy hy=>let⟨o,a,b⟩:=x.objs y hy;⟨o,k _ _ a,b⟩,λy hy=>let⟨c,oc,vs,t,e,a,b⟩:=x.codes y hy;⟨c,oc,vs,t,e,k _ _ a,b⟩,let⟨es,ep,a,b⟩:=x.dict;⟨es,ep,k _ _ a,b⟩⟩
theorem y9{n:Nat}{h:Heap}{o:Obj}{L:List (Int×Str)}(e:h.objs[n]? = some o)(hd:∃es ep,bh es L/\o=dO es ep):∃es ep,h.get? n=some (dO es ep)/\bh es L:=by
 obtain⟨es,ep,a,rfl⟩:=hd;exact⟨es,ep,jv e rfl,a⟩
theorem wR {p q:Program} {i M n m NN T₀ A₀:Nat} {os:Params->List Obj} {loose:List Str} {A:pI} {L:List (Int×Str)}
 (H:∀w,A4 p i M n m w (os w.params) T₀ A₀ (lf fR openSeen p q loose A n w) λf=>(true,openGood q loose,fT A,some (f 0)))
 (hd:((behindTheImports p).drop i).head?.bind gB=some (dF p i)) (hL:dm (dF p i).keys (dF p i).vals=some L) (hr:ib 0 L=true) (hlen:L.length=650) (hm:m=39) (hn:28<=n)
 {C:Nat} (hC:cD 633=C) (hN:2000<=NN/\A₀+((1+(1+C))+M)<=NN):
 LeftO p q loose (λ_=>true) (λs=>cP A n L s.heap) (λ_=>True) NN:=λw=>by
 obtain⟨s,e,h⟩:=A5 (NN:=NN) (H w) (g:=λs=>openSeen q loose (importedModules p.main.body) (λ_=>true) true s=openGood q loose/\cP A n L s.heap) hd hL hr hlen hm hn hC hN (λf s hv hf=>by
  unfold lf at hv;simp only[Prod.mk.injEq]at hv;obtain⟨v1,v2,v3,v4⟩:=hv;exact⟨v1,v2,vg v3 (y9 v4 (by obtain⟨es,ep,a,b⟩:=hf;exact⟨es,ep,a,b⟩))⟩)
 rw[e];show some (openSeen q loose (importedModules p.main.body) (λ_=>true) true s,cP A n L s.heap)=some (openGood q loose,True);rw[h.1];rw[show cP A n L s.heap=True from eq_true h.2]
noncomputable def fastSeen:=PySem.W.Fast.tw4187177175401517315
theorem vh:openSeen=fastSeen:=PySem.W.Fast.te4187177175401517315
set_option maxHeartbeats 2000000 in
theorem A6 {l:OpenLaw} {q:Program} {loose:List Str} {A:pI} {n:Nat} {L:List (Int×Str)} {NN:Nat} {d:DefRec} {kwd:List (Str×Expr)} {f:Addr}
 (left:LeftO l.prog q loose (λ_=>true) (λs=>cP A n L s.heap) (λ_=>True) NN)
 (hmost:l.most=some 63) (hbound:l.bound=none) (hwrites:l.writes=false)
 (hdef:defOf q l.name=some (d,kwd)) (hp:l.prog.theDef l.name=some (d.params,d.body,d.scope)) (hk:kwWritten? d.params.kwonlyargs d.params.kw_defaults=some kwd)
 (ok2:(chainsOk q&&opensWell l.prog&&(frees l.row.toRowW&&l.row.within.isEmpty))=true) (hb:l.prog.bare) (hw:l.row.toRowW.promised)
 (hf:(d.name,some (.ref f))∈A.globals)
 (walk:∀(w:World) (s:Shared) (a:Addr) (vs:List Value) (ns:List Int),cP A n L s.heap->s.gens = #[]->s.heap.IsList a vs.toArray->IntsAre vs ns->(PyData.list (ns.map PyData.int)).layable0=true->ns.length<=63 ->
   wpAny (model l.prog w) callerA (call (.ref f) [.ref a]) (λv s'=>v = .bool true/\(∀b o,s.heap.get? b=some o->s'.heap.get? b=some o)/\s'.os=s.os/\s'.gens = #[]) (λ_ _=>False) s) (said:l.row.wellSaid=true):l.row.Holds:=by
 refine holds_open (r:=l.row) left (YP:=λ_ h=>cP A n L h) (λw s e=>of_eq_true e) (λw h h' x k=>x.keeps k) (XP:=λ_ _=>True) (λ_ _=>trivial) (λ_ _ _ _ _=>trivial)
  hdef hp hk (λs _=>recFacts_nil rfl) (by show(!l.writes||true)=true;simp) said ok2 hb hw ?_
 intro w s₀ s₁ mg mb G Y a o pm cd doc dV kV ho hd hcd hD hmg hg args vals as hpre hlay hrd hwl hlo
 wrow_args hpre hlay hrd hwl hlo
 rename_i ns _ _ hlay1 _ _ _ _ la vs _ hI ra _ r0 hi _ h1 h2;rw[hmost]at h1
 w_cond h1
 rename_i hlen;have haf:a=f:=by
  obtain⟨m,hm,hx⟩:=Y.globals;have e:=hx _ hf;have:mg d.name=m d.name:=by
   obtain⟨o1,es1,ep1,a1,a2,_,a3⟩:=G.T.g;obtain⟨o2,es2,ep2,b1,b2,_,b3⟩:=hm;rw[a1]at b1;cases b1;rw[a2]at b2;cases b2;rw[<-a3,<-b3]
  rw[<-this,hmg]at e;exact Value.ref.inj (Option.some.inj e)
 subst haf;refine wpAny_mono (walk w s₁ la vs ns Y hg hI hi hlay1 ⋯) (λv s' h => ?_) (λ_ _ h=>h.elim)
 ·obtain⟨rfl,k,ho',hg'⟩:=h
  refine GoodW.toG ⟨.inl ⟨.bool true, .bool true,[],rfl,λ_=>rfl,ReadsW.bool _, ?_,λ_=>⟨.nil,λ_ h=>nomatch h⟩⟩,k,ho',hg'⟩
  wrow_post
end
section
open PySem PySem.W PySem.Calls PyProof.Rows PySem.Challenge
noncomputable def vi(p:Program)(P:Params):List Obj:=[
 ⟨.type "dict",none, .dict ⟨[dE P "__name__" 1 (.str "builtins" 160),dE P "__doc__" 2 (.builtin "builtins.__doc__:str#opaque"),dE P "__package__" 3 (.builtin "builtins.__package__:str#opaque"),dE P "__loader__" 4 (.builtin "builtins.__loader__:shared#opaque"),dE P "__spec__" 5 (.builtin "builtins.__spec__#opaque"),dE P "__build_class__" 6 (.builtin "__build_class__"),dE P "__import__" 7 (.builtin "__import__"),dE P "abs" 8 (.builtin "abs"),dE P "all" 9 (.builtin "all"),dE P "any" 10 (.builtin "any"),dE P "ascii" 11 (.builtin "ascii"),dE P "bin" 12 (.builtin "bin"),dE P "breakpoint" 13 (.builtin "breakpoint"),dE P "callable" 14 (.builtin "callable"),dE P "chr" 15 (.builtin "chr"),dE P "compile" 16 (.builtin "compile"),dE P "delattr" 17 (.builtin "delattr"),dE P "dir" 18 (.builtin "dir"),dE P "divmod" 19 (.builtin "divmod"),dE P "eval" 20 (.builtin "eval"),dE P "exec" 21 (.builtin "exec"),dE P "format" 22 (.builtin "format"),dE P "getattr" 23 (.builtin "getattr"),dE P "globals" 24 (.builtin "globals"),dE P "hasattr" 25 (.builtin "hasattr"),dE P "hash" 26 (.builtin "hash"),dE P "hex" 27 (.builtin "hex"),dE P "id" 28 (.builtin "id"),dE P "input" 29 (.builtin "input"),dE P "isinstance" 30 (.builtin "isinstance"),dE P "issubclass" 31 (.builtin "issubclass"),dE P "iter" 32 (.builtin "iter"),dE P "aiter" 33 (.builtin "aiter"),dE P "len" 34 (.builtin "len"),dE P "locals" 35 (.builtin "locals"),dE P "max" 36 (.builtin "max"),dE P "min" 37 (.builtin "min"),dE P "next" 38 (.builtin "next"),dE P "anext" 39 (.builtin "anext"),dE P "oct" 40 (.builtin "oct"),dE P "ord" 41 (.builtin "ord"),dE P "pow" 42 (.builtin "pow"),dE P "print" 43 (.builtin "print"),dE P "repr" 44 (.builtin "repr"),dE P "round" 45 (.builtin "round"),dE P "setattr" 46 (.builtin "setattr"),dE P "sorted" 47 (.builtin "sorted"),dE P "sum" 48 (.builtin "sum"),dE P "vars" 49 (.builtin "vars"),dE P "None" 50 .none,dE P "Ellipsis" 51 .ellipsis,dE P "NotImplemented" 52 .notImplemented,dE P "False" 53 (.bool false),dE P "True" 54 (.bool true),dE P "bool" 55 (.type "bool"),dE P "memoryview" 56 (.type "memoryview"),dE P "bytearray" 57 (.type "bytearray"),dE P "bytes" 58 (.type "bytes"),dE P "classmethod" 59 (.type "classmethod"),dE P "complex" 60 (.type "complex"),dE P "dict" 61 (.type "dict"),dE P "enumerate" 62 (.type "enumerate"),dE P "filter" 63 (.type "filter"),dE P "float" 64 (.type "float"),dE P "frozenset" 65 (.type "frozenset"),dE P "property" 66 (.type "property"),dE P "int" 67 (.type "int"),dE P "list" 68 (.type "list"),dE P "map" 69 (.type "map"),dE P "object" 70 (.type "object"),dE P "range" 71 (.type "range"),dE P "reversed" 72 (.type "reversed"),dE P "set" 73 (.type "set"),dE P "slice" 74 (.type "slice"),dE P "staticmethod" 75 (.type "staticmethod"),dE P "str" 76 (.type "str"),dE P "super" 77 (.type "super"),dE P "tuple" 78 (.type "tuple"),dE P "type" 79 (.type "type"),dE P "zip" 80 (.type "zip"),dE P "__debug__" 81 (.bool true),dE P "BaseException" 82 (.type "BaseException"),dE P "BaseExceptionGroup" 83 (.type "BaseExceptionGroup"),dE P "Exception" 84 (.type "Exception"),dE P "GeneratorExit" 85 (.type "GeneratorExit"),dE P "KeyboardInterrupt" 86 (.type "KeyboardInterrupt"),dE P "SystemExit" 87 (.type "SystemExit"),dE P "ArithmeticError" 88 (.type "ArithmeticError"),dE P "AssertionError" 89 (.type "AssertionError"),dE P "AttributeError" 90 (.type "AttributeError"),dE P "BufferError" 91 (.type "BufferError"),dE P "EOFError" 92 (.type "EOFError"),dE P "ImportError" 93 (.type "ImportError"),dE P "LookupError" 94 (.type "LookupError"),dE P "MemoryError" 95 (.type "MemoryError"),dE P "NameError" 96 (.type "NameError"),dE P "OSError" 97 (.type "OSError"),dE P "ReferenceError" 98 (.type "ReferenceError"),dE P "RuntimeError" 99 (.type "RuntimeError"),dE P "StopAsyncIteration" 100 (.type "StopAsyncIteration"),dE P "StopIteration" 101 (.type "StopIteration"),dE P "SyntaxError" 102 (.type "SyntaxError"),dE P "SystemError" 103 (.type "SystemError"),dE P "TypeError" 104 (.type "TypeError"),dE P "ValueError" 105 (.type "ValueError"),dE P "Warning" 106 (.type "Warning"),dE P "FloatingPointError" 107 (.type "FloatingPointError"),dE P "OverflowError" 108 (.type "OverflowError"),dE P "ZeroDivisionError" 109 (.type "ZeroDivisionError"),dE P "BytesWarning" 110 (.type "BytesWarning"),dE P "DeprecationWarning" 111 (.type "DeprecationWarning"),dE P "EncodingWarning" 112 (.type "EncodingWarning"),dE P "FutureWarning" 113 (.type "FutureWarning"),dE P "ImportWarning" 114 (.type "ImportWarning"),dE P "PendingDeprecationWarning" 115 (.type "PendingDeprecationWarning"),dE P "ResourceWarning" 116 (.type "ResourceWarning"),dE P "RuntimeWarning" 117 (.type "RuntimeWarning"),dE P "SyntaxWarning" 118 (.type "SyntaxWarning"),dE P "UnicodeWarning" 119 (.type "UnicodeWarning"),dE P "UserWarning" 120 (.type "UserWarning"),dE P "BlockingIOError" 121 (.type "BlockingIOError"),dE P "ChildProcessError" 122 (.type "ChildProcessError"),dE P "ConnectionError" 123 (.type "ConnectionError"),dE P "FileExistsError" 124 (.type "FileExistsError"),dE P "FileNotFoundError" 125 (.type "FileNotFoundError"),dE P "InterruptedError" 126 (.type "InterruptedError"),dE P "IsADirectoryError" 127 (.type "IsADirectoryError"),dE P "NotADirectoryError" 128 (.type "NotADirectoryError"),dE P "PermissionError" 129 (.type "PermissionError"),dE P "ProcessLookupError" 130 (.type "ProcessLookupError"),dE P "TimeoutError" 131 (.type "TimeoutError"),dE P "IndentationError" 132 (.type "IndentationError"),dE P "_IncompleteInputError" 133 (.type "_IncompleteInputError"),dE P "IndexError" 134 (.type "IndexError"),dE P "KeyError" 135 (.type "KeyError"),dE P "ModuleNotFoundError" 136 (.type "ModuleNotFoundError"),dE P "NotImplementedError" 137 (.type "NotImplementedError"),dE P "PythonFinalizationError" 138 (.type "PythonFinalizationError"),dE P "RecursionError" 139 (.type "RecursionError"),dE P "UnboundLocalError" 140 (.type "UnboundLocalError"),dE P "UnicodeError" 141 (.type "UnicodeError"),dE P "BrokenPipeError" 142 (.type "BrokenPipeError"),dE P "ConnectionAbortedError" 143 (.type "ConnectionAbortedError"),dE P "ConnectionRefusedError" 144 (.type "ConnectionRefusedError"),dE P "ConnectionResetError" 145 (.type "ConnectionResetError"),dE P "TabError" 146 (.type "TabError"),dE P "UnicodeDecodeError" 147 (.type "UnicodeDecodeError"),dE P "UnicodeEncodeError" 148 (.type "UnicodeEncodeError"),dE P "UnicodeTranslateError" 149 (.type "UnicodeTranslateError"),dE P "ExceptionGroup" 150 (.type "ExceptionGroup"),dE P "EnvironmentError" 151 (.type "OSError"),dE P "IOError" 152 (.type "OSError"),dE P "open" 153 (.builtin "open"),dE P "quit" 154 (.builtin "builtins.quit#opaque"),dE P "exit" 155 (.builtin "builtins.exit#opaque"),dE P "copyright" 156 (.builtin "builtins.copyright#opaque"),dE P "credits" 157 (.builtin "builtins.credits#opaque"),dE P "license" 158 (.builtin "builtins.license#opaque"),dE P "help" 159 (.builtin "builtins.help#opaque")]⟩ 159,⟨[]⟩⟩,
 ⟨.type "dict",none, .dict ⟨[dE P "builtins" 162 (.ref 4),dE P "__main__" 163 (.ref 5),dE P "_sre" 244 (.ref 12)]⟩ 3,⟨[]⟩⟩,
 ⟨.none,none, .dict ⟨[dE P "\x69mport.loaded._sre" 183 (.bool true),dE P "class._frozen_importlib.BuiltinImporter" 185 (.ref 14),dE P "watched.\x69mport" 206 (.ref 18),dE P "class._frozen_importlib.ModuleSpec" 216 (.ref 22),dE P "sys.modules.booked-epoch" 245 (.int 3 0),dE P "\x69mport.later-laid._sre" 270 (.bool true),dE P "watched.library" 272 (.ref 27),dE P "watched.library-objects" 0 (.str (⟨⟨[12]⟩⟩:Str) 0),dE P "watched.library-deep._sre" 273 (.str (⟨⟨[4,0,0,11,4,0,0,11,4,0,0,3,4,0,0,11,8,4,100,105,99,116,2]⟩⟩:Str) 0)]⟩ 9,⟨[]⟩⟩,
 ⟨.type "dict",none, .dict ⟨[dE P "__name__" 165 (.str "cpy313.stringprep" 456),dE P "__doc__" 166 .none,dE P "__package__" 167 .none,dE P "__loader__" 168 (.builtin "__main__.__loader__#opaque"),dE P "__spec__" 169 .none,dE P "__annotations__" 170 (.ref 6),dE P "__builtins__" 171 (.ref 4),dE P "__file__" 173 (.str "/claim/cut.py" 172),dE P "__cached__" 174 .none,dE P "_sre" 275 (.ref 12),dE P "_wall" 288 (.ref 38),dE P "Whitespace" 386 (.ref 100),dE P "_twin_re_1" 404 (.ref 109),dE P "_twin_re_2" 446 (.ref 114),dE P "CRLF" 448 (.str (⟨⟨[13,10]⟩⟩:Str) 447),dE P "quotedata" 455 (.ref 121)]⟩ 16,⟨[]⟩⟩,
 ⟨.type "module",(some 0), .plain,⟨[]⟩⟩,
 ⟨.type "module",(some 3), .plain,⟨[]⟩⟩,
 ⟨.type "dict",none, .dict ⟨[]⟩ 0,⟨[]⟩⟩,
 ⟨.type "tuple",none, .seq ⟨[]⟩ 0,⟨[]⟩⟩,
 ⟨.none,none, .fields ⟨[]⟩,⟨[]⟩⟩,
 ⟨.type "code",none, .fields ⟨[.str "<module>" 176, .str "<module>" 177, .str "/claim/cut.py" 178, .int 1 0, .int 0 0, .int 0 0, .int 0 0, .int 0 0, .ref 7, .bool false, .int 175 0, .ref 8, .none, .none, .none, .none, .int 179 0, .int 1 0, .str "/claim/cut.py" 180]⟩,⟨[]⟩⟩,
 ⟨.type "frame",none, .plain,⟨[some (.ref 9),some (.ref 3),some (.ref 3),none,some (.str "__main__" 164),none,some (.ref 0)]⟩⟩,
 ⟨.type "dict",none, .dict ⟨[dE P "__name__" 247 (.str "_sre" 246),dE P "__doc__" 248 .none,dE P "__package__" 250 (.str "" 249),dE P "__loader__" 251 (.builtin "off-the-table:_sre.__loader__:shared#opaque"),dE P "__spec__" 252 (.builtin "off-the-table:_sre.__spec__:shared#opaque"),dE P "compile" 253 (.builtin "_sre.compile"),dE P "template" 254 (.builtin "off-the-table:_sre.template:shared#opaque"),dE P "getcodesize" 255 (.builtin "off-the-table:_sre.getcodesize:shared#opaque"),dE P "ascii_iscased" 256 (.builtin "off-the-table:_sre.ascii_iscased:shared#opaque"),dE P "unicode_iscased" 257 (.builtin "off-the-table:_sre.unicode_iscased:shared#opaque"),dE P "ascii_tolower" 258 (.builtin "off-the-table:_sre.ascii_tolower:shared#opaque"),dE P "unicode_tolower" 259 (.builtin "off-the-table:_sre.unicode_tolower:shared#opaque"),dE P "MAGIC" 261 (.int 20230612 260),dE P "CODESIZE" 263 (.int 4 262),dE P "MAXREPEAT" 265 (.int 4294967295 264),dE P "MAXGROUPS" 267 (.int 1073741823 266),dE P "copyright" 269 (.str " SRE 2.2.2 Copyright (c) 1997-2002 by Secret Labs AB " 268)]⟩ 17,⟨[]⟩⟩,
 ⟨.type "module",(some 11), .plain,⟨[]⟩⟩,
 ⟨.type "dict",none, .dict ⟨[dE P "__module__" 189 (.str "_frozen_importlib" 186),dE P "__firstlineno__" 190 (.int 971 187),dE P "__doc__" 191 (.builtin "_frozen_importlib.BuiltinImporter.__doc__:str#opaque"),dE P "_ORIGIN" 192 (.str "built-in" 188),dE P "find_spec" 193 (.builtin "_frozen_importlib.BuiltinImporter.find_spec#opaque"),dE P "create_module" 194 (.builtin "_frozen_importlib.BuiltinImporter.create_module#opaque"),dE P "exec_module" 195 (.builtin "_frozen_importlib.BuiltinImporter.exec_module#opaque"),dE P "get_code" 196 (.builtin "_frozen_importlib.BuiltinImporter.get_code#opaque"),dE P "get_source" 197 (.builtin "_frozen_importlib.BuiltinImporter.get_source#opaque"),dE P "is_package" 198 (.builtin "_frozen_importlib.BuiltinImporter.is_package#opaque"),dE P "load_module" 199 (.builtin "_frozen_importlib.BuiltinImporter.load_module#opaque"),dE P "__static_attributes__" 200 (.ref 15),dE P "__dict__" 202 (.ref 16),dE P "__weakref__" 204 (.ref 17)]⟩ 14,⟨[]⟩⟩,
 ⟨.type "type",none, .cls { name:="BuiltinImporter",bases:=[.type "object"],mro:=[.ref 14, .type "object"],ns:=13,qualname:="BuiltinImporter",hasDict:=true,slotNames:=[],subclasses:=[],abstract:=false,collection:=none,hasDel:=false },⟨[]⟩⟩,
 ⟨.type "tuple",none, .seq ⟨[]⟩ 0,⟨[]⟩⟩,
 ⟨.type "getset_descriptor",none, .fields ⟨[.str "__dict__" 201, .ref 14, .builtin "function.__dict__", .builtin "function.__dict__#set"]⟩,⟨[]⟩⟩,
 ⟨.type "getset_descriptor",none, .fields ⟨[.str "__weakref__" 203, .ref 14, .builtin "ExceptionGroup.__weakref__", .none]⟩,⟨[]⟩⟩,
 ⟨.none,none, .seq ⟨[.int 13 0, .str (⟨⟨[6,189,10,95,95,109,111,100,117,108,101,95,95,6,186,17,95,102,114,111,122,101,110,95,105,109,112,111,114,116,108,105,98,6,190,15,95,95,102,105,114,115,116,108,105,110,101,110,111,95,95,4,187,0,971,6,191,7,95,95,100,111,99,95,95,9,52,95,102,114,111,122,101,110,95,105,109,112,111,114,116,108,105,98,46,66,117,105,108,116,105,110,73,109,112,111,114,116,101,114,46,95,95,100,111,99,95,95,58,115,116,114,35,111,112,97,113,117,101,6,192,7,95,79,82,73,71,73,78,6,188,8,98,117,105,108,116,45,105,110,6,193,9,102,105,110,100,95,115,112,101,99,9,50,95,102,114,111,122,101,110,95,105,109,112,111,114,116,108,105,98,46,66,117,105,108,116,105,110,73,109,112,111,114,116,101,114,46,102,105,110,100,95,115,112,101,99,35,111,112,97,113,117,101,6,194,13,99,114,101,97,116,101,95,109,111,100,117,108,101,9,54,95,102,114,111,122,101,110,95,105,109,112,111,114,116,108,105,98,46,66,117,105,108,116,105,110,73,109,112,111,114,116,101,114,46,99,114,101,97,116,101,95,109,111,100,117,108,101,35,111,112,97,113,117,101,6,195,11,101,120,101,99,95,109,111,100,117,108,101,9,52,95,102,114,111,122,101,110,95,105,109,112,111,114,116,108,105,98,46,66,117,105,108,116,105,110,73,109,112,111,114,116,101,114,46,101,120,101,99,95,109,111,100,117,108,101,35,111,112,97,113,117,101,6,196,8,103,101,116,95,99,111,100,101,9,49,95,102,114,111,122,101,110,95,105,109,112,111,114,116,108,105,98,46,66,117,105,108,116,105,110,73,109,112,111,114,116,101,114,46,103,101,116,95,99,111,100,101,35,111,112,97,113,117,101,6,197,10,103,101,116,95,115,111,117,114,99,101,9,51,95,102,114,111,122,101,110,95,105,109,112,111,114,116,108,105,98,46,66,117,105,108,116,105,110,73,109,112,111,114,116,101,114,46,103,101,116,95,115,111,117,114,99,101,35,111,112,97,113,117,101,6,198,10,105,115,95,112,97,99,107,97,103,101,9,51,95,102,114,111,122,101,110,95,105,109,112,111,114,116,108,105,98,46,66,117,105,108,116,105,110,73,109,112,111,114,116,101,114,46,105,115,95,112,97,99,107,97,103,101,35,111,112,97,113,117,101,6,199,11,108,111,97,100,95,109,111,100,117,108,101,9,52,95,102,114,111,122,101,110,95,105,109,112,111,114,116,108,105,98,46,66,117,105,108,116,105,110,73,109,112,111,114,116,101,114,46,108,111,97,100,95,109,111,100,117,108,101,35,111,112,97,113,117,101,6,200,21,95,95,115,116,97,116,105,99,95,97,116,116,114,105,98,117,116,101,115,95,95,4,0,0,15,6,202,8,95,95,100,105,99,116,95,95,4,0,0,16,6,204,11,95,95,119,101,97,107,114,101,102,95,95,4,0,0,17]⟩⟩:Str) 0, .bool true, .bool true, .str "" 205, .int 21 0, .str (⟨⟨[6,227,10,95,95,109,111,100,117,108,101,95,95,6,217,17,95,102,114,111,122,101,110,95,105,109,112,111,114,116,108,105,98,6,228,15,95,95,102,105,114,115,116,108,105,110,101,110,111,95,95,4,218,0,562,6,229,7,95,95,100,111,99,95,95,9,47,95,102,114,111,122,101,110,95,105,109,112,111,114,116,108,105,98,46,77,111,100,117,108,101,83,112,101,99,46,95,95,100,111,99,95,95,58,115,116,114,35,111,112,97,113,117,101,6,230,8,95,95,105,110,105,116,95,95,9,44,95,102,114,111,122,101,110,95,105,109,112,111,114,116,108,105,98,46,77,111,100,117,108,101,83,112,101,99,46,95,95,105,110,105,116,95,95,35,111,112,97,113,117,101,6,231,8,95,95,114,101,112,114,95,95,9,44,95,102,114,111,122,101,110,95,105,109,112,111,114,116,108,105,98,46,77,111,100,117,108,101,83,112,101,99,46,95,95,114,101,112,114,95,95,35,111,112,97,113,117,101,6,232,6,95,95,101,113,95,95,9,42,95,102,114,111,122,101,110,95,105,109,112,111,114,116,108,105,98,46,77,111,100,117,108,101,83,112,101,99,46,95,95,101,113,95,95,35,111,112,97,113,117,101,6,233,6,99,97,99,104,101,100,9,42,95,102,114,111,122,101,110,95,105,109,112,111,114,116,108,105,98,46,77,111,100,117,108,101,83,112,101,99,46,99,97,99,104,101,100,35,111,112,97,113,117,101,6,234,6,112,97,114,101,110,116,9,42,95,102,114,111,122,101,110,95,105,109,112,111,114,116,108,105,98,46,77,111,100,117,108,101,83,112,101,99,46,112,97,114,101,110,116,35,111,112,97,113,117,101,6,235,12,104,97,115,95,108,111,99,97,116,105,111,110,9,48,95,102,114,111,122,101,110,95,105,109,112,111,114,116,108,105,98,46,77,111,100,117,108,101,83,112,101,99,46,104,97,115,95,108,111,99,97,116,105,111,110,35,111,112,97,113,117,101,6,236,21,95,95,115,116,97,116,105,99,95,97,116,116,114,105,98,117,116,101,115,95,95,4,0,0,23,6,238,8,95,95,100,105,99,116,95,95,4,0,0,24,6,240,11,95,95,119,101,97,107,114,101,102,95,95,4,0,0,25,6,241,8,95,95,104,97,115,104,95,95,0]⟩⟩:Str) 0, .bool true, .bool true, .str "" 242]⟩ 1,⟨[]⟩⟩,
 ⟨.type "list",none, .seq ⟨[]⟩ 0,⟨[]⟩⟩,
 ⟨.type "dict",none, .dict ⟨[dE P "name" 208 (.str "_sre" 207),dE P "loader" 209 (.ref 14),dE P "origin" 210 (.str "built-in" 184),dE P "loader_state" 211 .none,dE P "submodule_search_locations" 212 .none,dE P "_uninitialized_submodules" 213 (.ref 19),dE P "_set_fileattr" 214 (.bool false),dE P "_cached" 215 .none,dE P "_initializing" 243 (.bool false)]⟩ 9,⟨[]⟩⟩,
 ⟨.type "dict",none, .dict ⟨[dE P "__module__" 227 (.str "_frozen_importlib" 217),dE P "__firstlineno__" 228 (.int 562 218),dE P "__doc__" 229 (.builtin "_frozen_importlib.ModuleSpec.__doc__:str#opaque"),dE P "__init__" 230 (.builtin "_frozen_importlib.ModuleSpec.__init__#opaque"),dE P "__repr__" 231 (.builtin "_frozen_importlib.ModuleSpec.__repr__#opaque"),dE P "__eq__" 232 (.builtin "_frozen_importlib.ModuleSpec.__eq__#opaque"),dE P "cached" 233 (.builtin "_frozen_importlib.ModuleSpec.cached#opaque"),dE P "parent" 234 (.builtin "_frozen_importlib.ModuleSpec.parent#opaque"),dE P "has_location" 235 (.builtin "_frozen_importlib.ModuleSpec.has_location#opaque"),dE P "__static_attributes__" 236 (.ref 23),dE P "__dict__" 238 (.ref 24),dE P "__weakref__" 240 (.ref 25),dE P "__hash__" 241 .none]⟩ 13,⟨[]⟩⟩,
 ⟨.type "type",none, .cls { name:="ModuleSpec",bases:=[.type "object"],mro:=[.ref 22, .type "object"],ns:=21,qualname:="ModuleSpec",hasDict:=true,slotNames:=[],subclasses:=[],abstract:=false,collection:=none,hasDel:=false },⟨[]⟩⟩,
 ⟨.type "tuple",none, .seq ⟨[.str "_cached" 219, .str "_set_fileattr" 220, .str "_uninitialized_submodules" 221, .str "loader" 222, .str "loader_state" 223, .str "name" 224, .str "origin" 225, .str "submodule_search_locations" 226]⟩ 0,⟨[]⟩⟩,
 ⟨.type "getset_descriptor",none, .fields ⟨[.str "__dict__" 237, .ref 22, .builtin "function.__dict__", .builtin "function.__dict__#set"]⟩,⟨[]⟩⟩,
 ⟨.type "getset_descriptor",none, .fields ⟨[.str "__weakref__" 239, .ref 22, .builtin "ExceptionGroup.__weakref__", .none]⟩,⟨[]⟩⟩,
 ⟨.ref 22,(some 20), .plain,⟨[]⟩⟩,
 ⟨.none,none, .seq ⟨[.int 11 0, .str (⟨⟨[6,247,8,95,95,110,97,109,101,95,95,6,246,4,95,115,114,101,6,248,7,95,95,100,111,99,95,95,0,6,250,11,95,95,112,97,99,107,97,103,101,95,95,6,249,0,6,251,10,95,95,108,111,97,100,101,114,95,95,4,0,0,14,6,252,8,95,95,115,112,101,99,95,95,4,0,0,26,6,253,7,99,111,109,112,105,108,101,9,12,95,115,114,101,46,99,111,109,112,105,108,101,6,254,8,116,101,109,112,108,97,116,101,9,13,95,115,114,101,46,116,101,109,112,108,97,116,101,6,255,11,103,101,116,99,111,100,101,115,105,122,101,9,16,95,115,114,101,46,103,101,116,99,111,100,101,115,105,122,101,6,256,13,97,115,99,105,105,95,105,115,99,97,115,101,100,9,18,95,115,114,101,46,97,115,99,105,105,95,105,115,99,97,115,101,100,6,257,15,117,110,105,99,111,100,101,95,105,115,99,97,115,101,100,9,20,95,115,114,101,46,117,110,105,99,111,100,101,95,105,115,99,97,115,101,100,6,258,13,97,115,99,105,105,95,116,111,108,111,119,101,114,9,18,95,115,114,101,46,97,115,99,105,105,95,116,111,108,111,119,101,114,6,259,15,117,110,105,99,111,100,101,95,116,111,108,111,119,101,114,9,20,95,115,114,101,46,117,110,105,99,111,100,101,95,116,111,108,111,119,101,114,6,261,5,77,65,71,73,67,4,260,0,20230612,6,263,8,67,79,68,69,83,73,90,69,4,262,0,4,6,265,9,77,65,88,82,69,80,69,65,84,4,264,0,4294967295,6,267,9,77,65,88,71,82,79,85,80,83,4,266,0,1073741823,6,269,9,99,111,112,121,114,105,103,104,116,6,268,53,32,83,82,69,32,50,46,50,46,50,32,67,111,112,121,114,105,103,104,116,32,40,99,41,32,49,57,57,55,45,50,48,48,50,32,98,121,32,83,101,99,114,101,116,32,76,97,98,115,32,65,66,32]⟩⟩:Str) 0, .bool true, .bool false, .str "_sre" 271]⟩ 0,⟨[]⟩⟩,
 ⟨.type "tuple",none, .seq ⟨[]⟩ 0,⟨[]⟩⟩,
 ⟨.none,none, .fields ⟨[.int 2 0, .int 0 0, .ref 37, .int 6 0, .int 0 0, .ref 44, .int 57 0, .int 0 0, .ref 120]⟩,⟨[]⟩⟩,
 ⟨.type "code",none, .fields ⟨[.str "<module>" 277, .str "<module>" 278, .str "/claim/cut.py" 279, .int 1 0, .int 0 0, .int 0 0, .int 0 0, .int 0 0, .ref 28, .bool false, .int 276 0, .ref 29, .none, .none, .none, .none, .int 280 0, .int 1 0, .str "/claim/cut.py" 281]⟩,⟨[]⟩⟩,
 ⟨.type "frame",none, .plain,⟨[some (.ref 30),some (.ref 3),some (.ref 3),none,some (.str "__main__" 164),none,some (.ref 0)]⟩⟩,
 ⟨.type "tuple",none, .seq ⟨[]⟩ 0,⟨[]⟩⟩,
 ⟨.none,none, .fields ⟨[]⟩,⟨[]⟩⟩,
 ⟨.type "tuple",none, .seq ⟨[.str "k" 285]⟩ 0,⟨[]⟩⟩,
 ⟨.type "tuple",none, .seq ⟨[]⟩ 0,⟨[]⟩⟩,
 ⟨.none,none, .func (fD (aV p 1) "_wall" 0 .none .none 0),⟨[]⟩⟩,
 ⟨.type "code",none, .fields ⟨[.str "_wall" 282, .str "_wall" 283, .str "/claim/cut.py" 284, .int 2 0, .int 1 0, .int 0 0, .int 0 0, .int 3 0, .ref 32, .bool true, .int 276 0, .ref 33, .none, .ref 34, .ref 35, .ref 36, .int 286 0, .int 2 0, .str "/claim/cut.py" 287]⟩,⟨[]⟩⟩,
 ⟨.type "function",none, .func (fD (aV p 1) "_wall" 3 (.str "__main__" 164) (.ref 37) 0),⟨[]⟩⟩,
 ⟨.type "tuple",none, .seq ⟨[]⟩ 0,⟨[]⟩⟩,
 ⟨.type "builtin_function_or_method",none, .fields ⟨[.builtin "type.__prepare__", .type "type"]⟩,⟨[]⟩⟩,
 ⟨.type "dict",none, .dict ⟨[dE P "__module__" 298 (.str "cpy313.tabnanny" 289),dE P "__qualname__" 300 (.str "Whitespace" 299),dE P "__firstlineno__" 302 (.int 6 301),dE P "S" 306 (.str " " 304),dE P "T" 307 (.str (⟨⟨[9]⟩⟩:Str) 305),dE P "__init__" 322 (.ref 55),dE P "longest_run_of_spaces" 329 (.ref 62),dE P "indent_level" 341 (.ref 69),dE P "equal" 349 (.ref 76),dE P "not_equal_witness" 357 (.ref 83),dE P "less" 365 (.ref 90),dE P "not_less_witness" 373 (.ref 97),dE P "__static_attributes__" 379 (.ref 98)]⟩ 13,⟨[]⟩⟩,
 ⟨.type "tuple",none, .seq ⟨[]⟩ 0,⟨[]⟩⟩,
 ⟨.none,none, .fields ⟨[.int 9 0, .int 4 0, .ref 54, .int 32 0, .int 4 0, .ref 61, .int 35 0, .int 4 0, .ref 68, .int 42 0, .int 4 0, .ref 75, .int 45 0, .int 4 0, .ref 82, .int 48 0, .int 4 0, .ref 89, .int 51 0, .int 4 0, .ref 96]⟩,⟨[]⟩⟩,
 ⟨.type "code",none, .fields ⟨[.str "Whitespace" 293, .str "Whitespace" 294, .str "/claim/cut.py" 295, .int 6 0, .int 0 0, .int 0 0, .int 0 0, .int 0 0, .ref 42, .bool false, .int 276 0, .ref 43, .none, .none, .none, .none, .int 296 0, .int 6 0, .str "/claim/cut.py" 297]⟩,⟨[]⟩⟩,
 ⟨.type "frame",none, .plain,⟨[some (.ref 44),some (.ref 3),some (.ref 41),none,some (.str "cpy313.tabnanny" 289),none,some (.ref 0)]⟩⟩,
 ⟨.type "str_ascii_iterator",none, .fields ⟨[.none, .int 2 0]⟩,⟨[]⟩⟩,
 ⟨.type "tuple",none, .seq ⟨[]⟩ 0,⟨[]⟩⟩,
 ⟨.type "StopIteration",none, .fields ⟨[.ref 47, .none, .none, .none, .bool false, .none]⟩,⟨[]⟩⟩,
 ⟨.type "tuple",none, .seq ⟨[]⟩ 0,⟨[]⟩⟩,
 ⟨.none,none, .fields ⟨[]⟩,⟨[]⟩⟩,
 ⟨.type "tuple",none, .seq ⟨[.str "self" 311, .str "ws" 312, .str "S" 313, .str "T" 314, .str "count" 315, .str "b" 316, .str "n" 317, .str "nt" 318, .str "ch" 319]⟩ 0,⟨[]⟩⟩,
 ⟨.type "tuple",none, .seq ⟨[]⟩ 0,⟨[]⟩⟩,
 ⟨.none,none, .func (fD (a0 p 3 1) "Whitespace.__init__" 0 .none .none 0),⟨[]⟩⟩,
 ⟨.type "code",none, .fields ⟨[.str "__init__" 308, .str "Whitespace.__init__" 309, .str "/claim/cut.py" 310, .int 9 0, .int 2 0, .int 0 0, .int 0 0, .int 3 0, .ref 49, .bool true, .int 276 0, .ref 50, .none, .ref 51, .ref 52, .ref 53, .int 320 0, .int 9 0, .str "/claim/cut.py" 321]⟩,⟨[]⟩⟩,
 ⟨.type "function",none, .func (fD (a0 p 3 1) "Whitespace.__init__" 3 (.str "cpy313.tabnanny" 289) (.ref 54) 0),⟨[]⟩⟩,
 ⟨.type "tuple",none, .seq ⟨[]⟩ 0,⟨[]⟩⟩,
 ⟨.none,none, .fields ⟨[]⟩,⟨[]⟩⟩,
 ⟨.type "tuple",none, .seq ⟨[.str "self" 326]⟩ 0,⟨[]⟩⟩,
 ⟨.type "tuple",none, .seq ⟨[]⟩ 0,⟨[]⟩⟩,
 ⟨.none,none, .func (fD (a0 p 3 2) "Whitespace.longest_run_of_spaces" 0 .none .none 0),⟨[]⟩⟩,
 ⟨.type "code",none, .fields ⟨[.str "longest_run_of_spaces" 323, .str "Whitespace.longest_run_of_spaces" 324, .str "/claim/cut.py" 325, .int 32 0, .int 1 0, .int 0 0, .int 0 0, .int 3 0, .ref 56, .bool true, .int 276 0, .ref 57, .none, .ref 58, .ref 59, .ref 60, .int 327 0, .int 32 0, .str "/claim/cut.py" 328]⟩,⟨[]⟩⟩,
 ⟨.type "function",none, .func (fD (a0 p 3 2) "Whitespace.longest_run_of_spaces" 3 (.str "cpy313.tabnanny" 289) (.ref 61) 0),⟨[]⟩⟩,
 ⟨.type "tuple",none, .seq ⟨[]⟩ 0,⟨[]⟩⟩,
 ⟨.none,none, .fields ⟨[]⟩,⟨[]⟩⟩,
 ⟨.type "tuple",none, .seq ⟨[.str "self" 333, .str "tabsize" 334, .str "count" 335, .str "trailing" 336, .str "il" 337, .str "i" 338]⟩ 0,⟨[]⟩⟩,
 ⟨.type "tuple",none, .seq ⟨[]⟩ 0,⟨[]⟩⟩,
 ⟨.none,none, .func (fD (a0 p 3 3) "Whitespace.indent_level" 0 .none .none 0),⟨[]⟩⟩,
 ⟨.type "code",none, .fields ⟨[.str "indent_level" 330, .str "Whitespace.indent_level" 331, .str "/claim/cut.py" 332, .int 35 0, .int 2 0, .int 0 0, .int 0 0, .int 3 0, .ref 63, .bool true, .int 276 0, .ref 64, .none, .ref 65, .ref 66, .ref 67, .int 339 0, .int 35 0, .str "/claim/cut.py" 340]⟩,⟨[]⟩⟩,
 ⟨.type "function",none, .func (fD (a0 p 3 3) "Whitespace.indent_level" 3 (.str "cpy313.tabnanny" 289) (.ref 68) 0),⟨[]⟩⟩,
 ⟨.type "tuple",none, .seq ⟨[]⟩ 0,⟨[]⟩⟩,
 ⟨.none,none, .fields ⟨[]⟩,⟨[]⟩⟩,
 ⟨.type "tuple",none, .seq ⟨[.str "self" 345, .str "other" 346]⟩ 0,⟨[]⟩⟩,
 ⟨.type "tuple",none, .seq ⟨[]⟩ 0,⟨[]⟩⟩,
 ⟨.none,none, .func (fD (a0 p 3 4) "Whitespace.equal" 0 .none .none 0),⟨[]⟩⟩,
 ⟨.type "code",none, .fields ⟨[.str "equal" 342, .str "Whitespace.equal" 343, .str "/claim/cut.py" 344, .int 42 0, .int 2 0, .int 0 0, .int 0 0, .int 3 0, .ref 70, .bool true, .int 276 0, .ref 71, .none, .ref 72, .ref 73, .ref 74, .int 347 0, .int 42 0, .str "/claim/cut.py" 348]⟩,⟨[]⟩⟩,
 ⟨.type "function",none, .func (fD (a0 p 3 4) "Whitespace.equal" 3 (.str "cpy313.tabnanny" 289) (.ref 75) 0),⟨[]⟩⟩,
 ⟨.type "tuple",none, .seq ⟨[]⟩ 0,⟨[]⟩⟩,
 ⟨.none,none, .fields ⟨[]⟩,⟨[]⟩⟩,
 ⟨.type "tuple",none, .seq ⟨[.str "self" 353, .str "other" 354]⟩ 0,⟨[]⟩⟩,
 ⟨.type "tuple",none, .seq ⟨[]⟩ 0,⟨[]⟩⟩,
 ⟨.none,none, .func (fD (a0 p 3 5) "Whitespace.not_equal_witness" 0 .none .none 0),⟨[]⟩⟩,
 ⟨.type "code",none, .fields ⟨[.str "not_equal_witness" 350, .str "Whitespace.not_equal_witness" 351, .str "/claim/cut.py" 352, .int 45 0, .int 2 0, .int 0 0, .int 0 0, .int 3 0, .ref 77, .bool true, .int 276 0, .ref 78, .none, .ref 79, .ref 80, .ref 81, .int 355 0, .int 45 0, .str "/claim/cut.py" 356]⟩,⟨[]⟩⟩,
 ⟨.type "function",none, .func (fD (a0 p 3 5) "Whitespace.not_equal_witness" 3 (.str "cpy313.tabnanny" 289) (.ref 82) 0),⟨[]⟩⟩,
 ⟨.type "tuple",none, .seq ⟨[]⟩ 0,⟨[]⟩⟩,
 ⟨.none,none, .fields ⟨[]⟩,⟨[]⟩⟩,
 ⟨.type "tuple",none, .seq ⟨[.str "self" 361, .str "other" 362]⟩ 0,⟨[]⟩⟩,
 ⟨.type "tuple",none, .seq ⟨[]⟩ 0,⟨[]⟩⟩,
 ⟨.none,none, .func (fD (a0 p 3 6) "Whitespace.less" 0 .none .none 0),⟨[]⟩⟩,
 ⟨.type "code",none, .fields ⟨[.str "less" 358, .str "Whitespace.less" 359, .str "/claim/cut.py" 360, .int 48 0, .int 2 0, .int 0 0, .int 0 0, .int 3 0, .ref 84, .bool true, .int 276 0, .ref 85, .none, .ref 86, .ref 87, .ref 88, .int 363 0, .int 48 0, .str "/claim/cut.py" 364]⟩,⟨[]⟩⟩,
 ⟨.type "function",none, .func (fD (a0 p 3 6) "Whitespace.less" 3 (.str "cpy313.tabnanny" 289) (.ref 89) 0),⟨[]⟩⟩,
 ⟨.type "tuple",none, .seq ⟨[]⟩ 0,⟨[]⟩⟩,
 ⟨.none,none, .fields ⟨[]⟩,⟨[]⟩⟩,
 ⟨.type "tuple",none, .seq ⟨[.str "self" 369, .str "other" 370]⟩ 0,⟨[]⟩⟩,
 ⟨.type "tuple",none, .seq ⟨[]⟩ 0,⟨[]⟩⟩,
 ⟨.none,none, .func (fD (a0 p 3 7) "Whitespace.not_less_witness" 0 .none .none 0),⟨[]⟩⟩,
 ⟨.type "code",none, .fields ⟨[.str "not_less_witness" 366, .str "Whitespace.not_less_witness" 367, .str "/claim/cut.py" 368, .int 51 0, .int 2 0, .int 0 0, .int 0 0, .int 3 0, .ref 91, .bool true, .int 276 0, .ref 92, .none, .ref 93, .ref 94, .ref 95, .int 371 0, .int 51 0, .str "/claim/cut.py" 372]⟩,⟨[]⟩⟩,
 ⟨.type "function",none, .func (fD (a0 p 3 7) "Whitespace.not_less_witness" 3 (.str "cpy313.tabnanny" 289) (.ref 96) 0),⟨[]⟩⟩,
 ⟨.type "tuple",none, .seq ⟨[.str "is_simple" 374, .str "n" 375, .str "norm" 376, .str "nt" 377, .str "raw" 378]⟩ 0,⟨[]⟩⟩,
 ⟨.type "dict",none, .dict ⟨[dE P "__module__" 298 (.str "cpy313.tabnanny" 289),dE P "__firstlineno__" 302 (.int 6 301),dE P "S" 306 (.str " " 304),dE P "T" 307 (.str (⟨⟨[9]⟩⟩:Str) 305),dE P "__init__" 322 (.ref 55),dE P "longest_run_of_spaces" 329 (.ref 62),dE P "indent_level" 341 (.ref 69),dE P "equal" 349 (.ref 76),dE P "not_equal_witness" 357 (.ref 83),dE P "less" 365 (.ref 90),dE P "not_less_witness" 373 (.ref 97),dE P "__static_attributes__" 379 (.ref 98),dE P "__dict__" 381 (.ref 101),dE P "__weakref__" 383 (.ref 102),dE P "__doc__" 384 .none]⟩ 4,⟨[]⟩⟩,
 ⟨.type "type",none, .cls { name:="Whitespace",bases:=[.type "object"],mro:=[.ref 100, .type "object"],ns:=99,qualname:="Whitespace",hasDict:=true,slotNames:=[],subclasses:=[],abstract:=false,collection:=none,hasDel:=false },⟨[none,none,some (.str "Whitespace" 291),some (.str "Whitespace" 299),some (.builtin "object.__new__"),some (.bool true)]⟩⟩,
 ⟨.type "getset_descriptor",none, .fields ⟨[.str "__dict__" 380, .ref 100, .builtin "function.__dict__", .builtin "function.__dict__#set"]⟩,⟨[]⟩⟩,
 ⟨.type "getset_descriptor",none, .fields ⟨[.str "__weakref__" 382, .ref 100, .builtin "ExceptionGroup.__weakref__", .none]⟩,⟨[]⟩⟩,
 ⟨.type "super",none, .fields ⟨[.ref 100, .ref 100, .ref 100]⟩,⟨[]⟩⟩,
 ⟨.type "builtin_function_or_method",none, .fields ⟨[.builtin "object.__init_subclass__", .ref 100]⟩,⟨[]⟩⟩,
 ⟨.type "list",none, .seq ⟨[.int 14 392, .int 4 393, .int 0 394, .int 1 395, .int 1 396, .int 6 397, .int 1 398, .int 16 399, .int 46 400, .int 1 401]⟩ 0,⟨[]⟩⟩,
 ⟨.type "dict",none, .dict ⟨[]⟩ 0,⟨[]⟩⟩,
 ⟨.type "tuple",none, .seq ⟨[.none]⟩ 0,⟨[]⟩⟩,
 ⟨.type "tuple",none, .seq ⟨[.int 14 0, .int 4 0, .int 0 0, .int 1 0, .int 1 0, .int 6 0, .int 1 0, .int 16 0, .int 46 0, .int 1 0]⟩ 0,⟨[]⟩⟩,
 ⟨.type "re.Pattern",none, .fields ⟨[.str (⟨⟨[40,63,109,41,94,92,46]⟩⟩:Str) 390, .int 40 403, .int 0 0, .none, .none, .ref 108, .int 0 0]⟩,⟨[]⟩⟩,
 ⟨.type "list",none, .seq ⟨[.int 14 408, .int 9 409, .int 4 410, .int 1 411, .int 2 412, .int 16 413, .int 10 414, .int 16 415, .int 13 416, .int 0 417, .int 7 418, .int 7 419, .int 16 420, .int 13 421, .int 16 422, .int 10 423, .int 15 424, .int 18 425, .int 5 426, .int 16 427, .int 10 428, .int 15 429, .int 13 430, .int 11 431, .int 16 432, .int 13 433, .int 5 434, .int 5 435, .int 0 436, .int 16 437, .int 10 438, .int 1 439, .int 15 440, .int 2 441, .int 0 442, .int 1 443]⟩ 0,⟨[]⟩⟩,
 ⟨.type "dict",none, .dict ⟨[]⟩ 0,⟨[]⟩⟩,
 ⟨.type "tuple",none, .seq ⟨[.none]⟩ 0,⟨[]⟩⟩,
 ⟨.type "tuple",none, .seq ⟨[.int 14 0, .int 9 0, .int 4 0, .int 1 0, .int 2 0, .int 16 0, .int 10 0, .int 16 0, .int 13 0, .int 0 0, .int 7 0, .int 7 0, .int 16 0, .int 13 0, .int 16 0, .int 10 0, .int 15 0, .int 18 0, .int 5 0, .int 16 0, .int 10 0, .int 15 0, .int 13 0, .int 11 0, .int 16 0, .int 13 0, .int 5 0, .int 5 0, .int 0 0, .int 16 0, .int 10 0, .int 1 0, .int 15 0, .int 2 0, .int 0 0, .int 1 0]⟩ 0,⟨[]⟩⟩,
 ⟨.type "re.Pattern",none, .fields ⟨[.str (⟨⟨[40,63,58,92,114,92,110,124,92,110,124,92,114,40,63,33,92,110,41,41]⟩⟩:Str) 406, .int 32 445, .int 0 0, .none, .none, .ref 113, .int 0 0]⟩,⟨[]⟩⟩,
 ⟨.type "tuple",none, .seq ⟨[]⟩ 0,⟨[]⟩⟩,
 ⟨.none,none, .fields ⟨[]⟩,⟨[]⟩⟩,
 ⟨.type "tuple",none, .seq ⟨[.str "data" 452]⟩ 0,⟨[]⟩⟩,
 ⟨.type "tuple",none, .seq ⟨[]⟩ 0,⟨[]⟩⟩,
 ⟨.none,none, .func (fD (aV p 8) "quotedata" 0 .none .none 0),⟨[]⟩⟩,
 ⟨.type "code",none, .fields ⟨[.str "quotedata" 449, .str "quotedata" 450, .str "/claim/cut.py" 451, .int 57 0, .int 1 0, .int 0 0, .int 0 0, .int 3 0, .ref 115, .bool true, .int 276 0, .ref 116, .none, .ref 117, .ref 118, .ref 119, .int 453 0, .int 57 0, .str "/claim/cut.py" 454]⟩,⟨[]⟩⟩,
 ⟨.type "function",none, .func (fD (aV p 8) "quotedata" 3 (.str "cpy313.smtplib" 387) (.ref 120) 0),⟨[]⟩⟩]
noncomputable def y2(p:Program)(P:Params):List Obj:=((vi p P).set 3 (⟨.type "dict",none, .dict ⟨[dE P "__name__" 165 (.str "cpy313.stringprep" 456),dE P "__doc__" 166 .none,dE P "__package__" 167 .none,dE P "__loader__" 168 (.builtin "__main__.__loader__#opaque"),dE P "__spec__" 169 .none,dE P "__annotations__" 170 (.ref 6),dE P "__builtins__" 171 (.ref 4),dE P "__file__" 173 (.str "/claim/cut.py" 172),dE P "__cached__" 174 .none,dE P "_sre" 275 (.ref 12),dE P "_wall" 288 (.ref 38),dE P "Whitespace" 386 (.ref 100),dE P "_twin_re_1" 404 (.ref 109),dE P "_twin_re_2" 446 (.ref 114),dE P "CRLF" 448 (.str (⟨⟨[13,10]⟩⟩:Str) 447),dE P "quotedata" 455 (.ref 121),dE P "b1_set" 517 (.ref 129)]⟩ 17,⟨[]⟩⟩))++[
 ⟨.type "list",none, .seq ⟨[.int 173 458, .int 847 459, .int 6150 460, .int 6155 461, .int 6156 462, .int 6157 463, .int 8203 464, .int 8204 465, .int 8205 466, .int 8288 467, .int 65279 468]⟩ 0,⟨[]⟩⟩,
 ⟨.type "range",none, .fields ⟨[.int 65024 469, .int 65040 470, .int 1 471]⟩,⟨[]⟩⟩,
 ⟨.type "list",none, .seq ⟨[.int 65024 474, .int 65025 475, .int 65026 476, .int 65027 477, .int 65028 478, .int 65029 479, .int 65030 480, .int 65031 481, .int 65032 482, .int 65033 483, .int 65034 484, .int 65035 485, .int 65036 486, .int 65037 487, .int 65038 488, .int 65039 489]⟩ 18,⟨[]⟩⟩,
 ⟨.type "range_iterator",none, .fields ⟨[.int 65040 0, .int 0 0, .int 1 0]⟩,⟨[]⟩⟩,
 ⟨.type "tuple",none, .seq ⟨[]⟩ 0,⟨[]⟩⟩,
 ⟨.type "StopIteration",none, .fields ⟨[.ref 126, .none, .none, .none, .bool false, .none]⟩,⟨[]⟩⟩,
 ⟨.type "list",none, .seq ⟨[.int 173 458, .int 847 459, .int 6150 460, .int 6155 461, .int 6156 462, .int 6157 463, .int 8203 464, .int 8204 465, .int 8205 466, .int 8288 467, .int 65279 468, .int 65024 474, .int 65025 475, .int 65026 476, .int 65027 477, .int 65028 478, .int 65029 479, .int 65030 480, .int 65031 481, .int 65032 482, .int 65033 483, .int 65034 484, .int 65035 485, .int 65036 486, .int 65037 487, .int 65038 488, .int 65039 489]⟩ 0,⟨[]⟩⟩,
 ⟨.type "set",none, .set ⟨[(65024, .int 65024 474),(65025, .int 65025 475),(65026, .int 65026 476),(65027, .int 65027 477),(65028, .int 65028 478),(65029, .int 65029 479),(6150, .int 6150 460),(65030, .int 65030 480),(65031, .int 65031 481),(65032, .int 65032 482),(65033, .int 65033 483),(6155, .int 6155 461),(6156, .int 6156 462),(6157, .int 6157 463),(8203, .int 8203 464),(8204, .int 8204 465),(8205, .int 8205 466),(65034, .int 65034 484),(65035, .int 65035 485),(65036, .int 65036 486),(65037, .int 65037 487),(65038, .int 65038 488),(65039, .int 65039 489),(173, .int 173 458),(847, .int 847 459),(8288, .int 8288 467),(65279, .int 65279 468)]⟩ 29 { mask:=127,place:=⟨[0,1,2,3,4,5,6,7,8,9,10,11,12,13,14,15,16,17,18,19,20,21,22,45,79,96,127]⟩,dummies:=⟨[]⟩,finger:=0,led := !(P.followText "set-order"),moves:=2,plain:=true },⟨[]⟩⟩,
 ⟨.type "list_iterator",none, .fields ⟨[.none, .int 27 0]⟩,⟨[]⟩⟩,
 ⟨.type "tuple",none, .seq ⟨[]⟩ 0,⟨[]⟩⟩,
 ⟨.type "StopIteration",none, .fields ⟨[.ref 131, .none, .none, .none, .bool false, .none]⟩,⟨[]⟩⟩]
noncomputable def Cr(p:Program)(P:Params):List Obj:=(((y2 p P).set 3 (⟨.type "dict",none, .dict ⟨[dE P "__name__" 165 (.str "cpy313.stringprep" 456),dE P "__doc__" 166 .none,dE P "__package__" 167 .none,dE P "__loader__" 168 (.builtin "__main__.__loader__#opaque"),dE P "__spec__" 169 .none,dE P "__annotations__" 170 (.ref 6),dE P "__builtins__" 171 (.ref 4),dE P "__file__" 173 (.str "/claim/cut.py" 172),dE P "__cached__" 174 .none,dE P "_sre" 275 (.ref 12),dE P "_wall" 288 (.ref 38),dE P "Whitespace" 386 (.ref 100),dE P "_twin_re_1" 404 (.ref 109),dE P "_twin_re_2" 446 (.ref 114),dE P "CRLF" 448 (.str (⟨⟨[13,10]⟩⟩:Str) 447),dE P "quotedata" 455 (.ref 121),dE P "b1_set" 517 (.ref 129),dE P "in_table_b1" 524 (.ref 139)]⟩ 18,⟨[]⟩⟩)).set 29 (⟨.none,none, .fields ⟨[.int 2 0, .int 0 0, .ref 37, .int 6 0, .int 0 0, .ref 44, .int 57 0, .int 0 0, .ref 120, .int 61 0, .int 0 0, .ref 138]⟩,⟨[]⟩⟩))++[
 ⟨.type "tuple",none, .seq ⟨[]⟩ 0,⟨[]⟩⟩,
 ⟨.none,none, .fields ⟨[]⟩,⟨[]⟩⟩,
 ⟨.type "tuple",none, .seq ⟨[.str "code" 521]⟩ 0,⟨[]⟩⟩,
 ⟨.type "tuple",none, .seq ⟨[]⟩ 0,⟨[]⟩⟩,
 ⟨.none,none, .func (fD (aV p 11) "in_table_b1" 0 .none .none 0),⟨[]⟩⟩,
 ⟨.type "code",none, .fields ⟨[.str "in_table_b1" 518, .str "in_table_b1" 519, .str "/claim/cut.py" 520, .int 61 0, .int 1 0, .int 0 0, .int 0 0, .int 3 0, .ref 133, .bool true, .int 276 0, .ref 134, .none, .ref 135, .ref 136, .ref 137, .int 522 0, .int 61 0, .str "/claim/cut.py" 523]⟩,⟨[]⟩⟩,
 ⟨.type "function",none, .func (fD (aV p 11) "in_table_b1" 3 (.str "cpy313.stringprep" 456) (.ref 138) 0),⟨[]⟩⟩]
noncomputable def eQ(p:Program):pI where
 globals:=[
  (Str.ofString "_sre",some (.ref 12)),
  (Str.ofString "_wall",some (.ref 38)),
  (Str.ofString "Whitespace",some (.ref 100)),
  (Str.ofString "_twin_re_1",some (.ref 109)),
  (Str.ofString "_twin_re_2",some (.ref 114)),
  (Str.ofString "CRLF",some (.str (⟨⟨[13,10]⟩⟩:Str) 0)),
  (Str.ofString "quotedata",some (.ref 121)),
  (Str.ofString "b1_set",some (.ref 129)),
  (Str.ofString "in_table_b1",some (.ref 139)),
  (Str.ofString "b3_exceptions",some (.ref 140)),
  (Str.ofString "map_table_b3",some (.ref 185)),
  (Str.ofString "_MAX_STRING_SIZE",some (.int 40 0)),
  (Str.ofString "_MOVE_COST",some (.int 2 0)),
  (Str.ofString "_CASE_COST",some (.int 1 0)),
  (Str.ofString "_substitution_cost",some (.ref 192)),
  (Str.ofString "_levenshtein_distance",some (.ref 199)),
  (Str.ofString "_law_stops",some (.ref 204)),
  (Str.ofString "_law_typed",some (.ref 211)),
  (Str.ofString "_law_prepared",some (.ref 218)),
  (Str.ofString "law",some (.ref 223)),
  (Str.ofString "len",none),
  (Str.ofString "ord",none),
  (Str.ofString "chr",none),
  (Str.ofString "min",none),
  (Str.ofString "max",none),
  (Str.ofString "sum",none),
  (Str.ofString "all",none),
  (Str.ofString "range",none),
  (Str.ofString "list",none),
  (Str.ofString "tuple",none),
  (Str.ofString "sorted",none),
  (Str.ofString "enumerate",none),
  (Str.ofString "zip",none),
  (Str.ofString "set",none)]
 builtins:=[
  (Str.ofString "len",some (.builtin "len")),
  (Str.ofString "ord",some (.builtin "ord")),
  (Str.ofString "chr",some (.builtin "chr")),
  (Str.ofString "min",some (.builtin "min")),
  (Str.ofString "max",some (.builtin "max")),
  (Str.ofString "sum",some (.builtin "sum")),
  (Str.ofString "all",some (.builtin "all")),
  (Str.ofString "range",some (.type "range")),
  (Str.ofString "list",some (.type "list")),
  (Str.ofString "tuple",some (.type "tuple")),
  (Str.ofString "sorted",some (.builtin "sorted")),
  (Str.ofString "enumerate",some (.type "enumerate")),
  (Str.ofString "zip",some (.type "zip")),
  (Str.ofString "set",some (.type "set"))]
 statics:=[(Str.ofString "sys.recursionlimit",none),(Str.ofString "thirdparty.any",none)]
 nss:=[(99,[
  (Str.ofString "__module__",some (.str "cpy313.tabnanny" 0)),
  (Str.ofString "__firstlineno__",some (.int 6 0)),
  (Str.ofString "S",some (.str " " 0)),
  (Str.ofString "T",some (.str (⟨⟨[9]⟩⟩:Str) 0)),
  (Str.ofString "__init__",some (.ref 55)),
  (Str.ofString "longest_run_of_spaces",some (.ref 62)),
  (Str.ofString "indent_level",some (.ref 69)),
  (Str.ofString "equal",some (.ref 76)),
  (Str.ofString "not_equal_witness",some (.ref 83)),
  (Str.ofString "less",some (.ref 90)),
  (Str.ofString "not_less_witness",some (.ref 97)),
  (Str.ofString "__static_attributes__",some (.ref 98)),
  (Str.ofString "__dict__",some (.ref 101)),
  (Str.ofString "__weakref__",some (.ref 102)),
  (Str.ofString "__doc__",some .none),
  (Str.ofString "__getattribute__",none),
  (Str.ofString "__getattr__",none),
  (Str.ofString "__setattr__",none),
  (Str.ofString "__delattr__",none),
  (Str.ofString "__new__",none),
  (Str.ofString "__call__",none),
  (Str.ofString "__hash__",none),
  (Str.ofString "__eq__",none),
  (Str.ofString "__bool__",none),
  (Str.ofString "__len__",none),
  (Str.ofString "raw",none),
  (Str.ofString "n",none),
  (Str.ofString "nt",none),
  (Str.ofString "norm",none),
  (Str.ofString "is_simple",none)])]
 objs:=[
  (38,⟨.type "function",none, .func (fD (aV p 1) "_wall" 3 .none (.ref 37) 0),⟨[]⟩⟩),
  (55,⟨.type "function",none, .func (fD (a0 p 3 1) "Whitespace.__init__" 3 .none (.ref 54) 0),⟨[]⟩⟩),
  (62,⟨.type "function",none, .func (fD (a0 p 3 2) "Whitespace.longest_run_of_spaces" 3 .none (.ref 61) 0),⟨[]⟩⟩),
  (69,⟨.type "function",none, .func (fD (a0 p 3 3) "Whitespace.indent_level" 3 .none (.ref 68) 0),⟨[]⟩⟩),
  (76,⟨.type "function",none, .func (fD (a0 p 3 4) "Whitespace.equal" 3 .none (.ref 75) 0),⟨[]⟩⟩),
  (83,⟨.type "function",none, .func (fD (a0 p 3 5) "Whitespace.not_equal_witness" 3 .none (.ref 82) 0),⟨[]⟩⟩),
  (90,⟨.type "function",none, .func (fD (a0 p 3 6) "Whitespace.less" 3 .none (.ref 89) 0),⟨[]⟩⟩),
  (97,⟨.type "function",none, .func (fD (a0 p 3 7) "Whitespace.not_less_witness" 3 .none (.ref 96) 0),⟨[]⟩⟩),
  (121,⟨.type "function",none, .func (fD (aV p 8) "quotedata" 3 .none (.ref 120) 0),⟨[]⟩⟩),
  (139,⟨.type "function",none, .func (fD (aV p 11) "in_table_b1" 3 .none (.ref 138) 0),⟨[]⟩⟩),
  (185,⟨.type "function",none, .func (fD (aV p 13) "map_table_b3" 3 .none (.ref 184) 0),⟨[]⟩⟩),
  (192,⟨.type "function",none, .func (fD (aV p 18) "_substitution_cost" 3 .none (.ref 191) 0),⟨[]⟩⟩),
  (199,⟨.type "function",none, .func (fD (aV p 19) "_levenshtein_distance" 3 .none (.ref 198) 0),⟨[]⟩⟩),
  (204,⟨.type "function",none, .func (fD (aV p 21) "_law_stops" 3 .none (.ref 203) 0),⟨[]⟩⟩),
  (211,⟨.type "function",none, .func (fD (aV p 22) "_law_typed" 3 .none (.ref 210) 0),⟨[]⟩⟩),
  (218,⟨.type "function",none, .func (fD (aV p 23) "_law_prepared" 3 .none (.ref 217) 0),⟨[]⟩⟩),
  (223,⟨.type "function",none, .func (fD (aV p 24) "law" 3 .none (.ref 222) 0),⟨[]⟩⟩),
  (100,⟨.type "type",none, .cls { name:="Whitespace",bases:=[.type "object"],mro:=[.ref 100, .type "object"],ns:=99,qualname:="Whitespace",hasDict:=true,slotNames:=[],subclasses:=[],abstract:=false,collection:=none,hasDel:=false },⟨[some (.builtin "object.__new__")]⟩⟩),
  (109,⟨.type "re.Pattern",none, .fields ⟨[.str (⟨⟨[40,63,109,41,94,92,46]⟩⟩:Str) 0, .int 40 0, .int 0 0, .none, .none, .ref 108, .int 0 0]⟩,⟨[]⟩⟩),
  (114,⟨.type "re.Pattern",none, .fields ⟨[.str (⟨⟨[40,63,58,92,114,92,110,124,92,110,124,92,114,40,63,33,92,110,41,41]⟩⟩:Str) 0, .int 32 0, .int 0 0, .none, .none, .ref 113, .int 0 0]⟩,⟨[]⟩⟩),
  (108,⟨.type "tuple",none, .seq ⟨[.int 14 0, .int 4 0, .int 0 0, .int 1 0, .int 1 0, .int 6 0, .int 1 0, .int 16 0, .int 46 0, .int 1 0]⟩ 0,⟨[]⟩⟩),
  (113,⟨.type "tuple",none, .seq ⟨[.int 14 0, .int 9 0, .int 4 0, .int 1 0, .int 2 0, .int 16 0, .int 10 0, .int 16 0, .int 13 0, .int 0 0, .int 7 0, .int 7 0, .int 16 0, .int 13 0, .int 16 0, .int 10 0, .int 15 0, .int 18 0, .int 5 0, .int 16 0, .int 10 0, .int 15 0, .int 13 0, .int 11 0, .int 16 0, .int 13 0, .int 5 0, .int 5 0, .int 0 0, .int 16 0, .int 10 0, .int 1 0, .int 15 0, .int 2 0, .int 0 0, .int 1 0]⟩ 0,⟨[]⟩⟩),
  (129,⟨.type "set",none, .set ⟨[(65024, .int 65024 0),(65025, .int 65025 0),(65026, .int 65026 0),(65027, .int 65027 0),(65028, .int 65028 0),(65029, .int 65029 0),(6150, .int 6150 0),(65030, .int 65030 0),(65031, .int 65031 0),(65032, .int 65032 0),(65033, .int 65033 0),(6155, .int 6155 0),(6156, .int 6156 0),(6157, .int 6157 0),(8203, .int 8203 0),(8204, .int 8204 0),(8205, .int 8205 0),(65034, .int 65034 0),(65035, .int 65035 0),(65036, .int 65036 0),(65037, .int 65037 0),(65038, .int 65038 0),(65039, .int 65039 0),(173, .int 173 0),(847, .int 847 0),(8288, .int 8288 0),(65279, .int 65279 0)]⟩ 0 { mask:=127,place:=⟨[0,1,2,3,4,5,6,7,8,9,10,11,12,13,14,15,16,17,18,19,20,21,22,45,79,96,127]⟩,dummies:=⟨[]⟩,finger:=0,led:=true,moves:=2,plain:=true },⟨[]⟩⟩)]
 codes:=[(37,"_wall"),(54,"Whitespace.__init__"),(61,"Whitespace.longest_run_of_spaces"),(68,"Whitespace.indent_level"),(75,"Whitespace.equal"),(82,"Whitespace.not_equal_witness"),(89,"Whitespace.less"),(96,"Whitespace.not_less_witness"),(120,"quotedata"),(138,"in_table_b1"),(184,"map_table_b3"),(191,"_substitution_cost"),(198,"_levenshtein_distance"),(203,"_law_stops"),(210,"_law_typed"),(217,"_law_prepared"),(222,"law")]
noncomputable def qL:Program:=wQ pw_uk0028_02
noncomputable def dK:List Str:=["_sre","_wall","Whitespace","_twin_re_1","_twin_re_2","CRLF","quotedata","b1_set","in_table_b1","b3_exceptions","map_table_b3","_MAX_STRING_SIZE","_MOVE_COST","_CASE_COST","_substitution_cost","_levenshtein_distance","_law_stops","_law_typed","_law_prepared"]
theorem EN(w:World):k1 fast pw_uk0028_02 9 1000 (w.withFollow "special-get-raises" false)=jw fast pw_uk0028_02 ⟨59,0,59,8⟩ (cz (vi pw_uk0028_02 (w.withFollow "special-get-raises" false).params) 458) (w.withFollow "special-get-raises" false):=∅
theorem EO(w:World):k1 fast pw_uk0028_02 9 1000 (w.withFollow "special-get-raises" true)=jw fast pw_uk0028_02 ⟨59,0,59,8⟩ (cz (vi pw_uk0028_02 (w.withFollow "special-get-raises" true).params) 458) (w.withFollow "special-get-raises" true):=∅
theorem kA(w:World):k1 fast pw_uk0028_02 9 1000 w=jw fast pw_uk0028_02 ⟨59,0,59,8⟩ (cz (vi pw_uk0028_02 w.params) 458) w:=
 byRow2 "special-get-raises" (P:=λw=>k1 fast pw_uk0028_02 9 1000 w=jw fast pw_uk0028_02 ⟨59,0,59,8⟩ (cz (vi pw_uk0028_02 w.params) 458) w) EN EO w
theorem DX(w:World):fS fast pw_uk0028_02 9 1 1100 ⟨59,0,59,8⟩ (wf false false w) (cz (vi pw_uk0028_02 (wf false false w).params) 458)=some (.next,cz (y2 pw_uk0028_02 (wf false false w).params) 518,kt pw_uk0028_02,⟨60,0,60,6⟩):=∅
theorem DY(w:World):fS fast pw_uk0028_02 9 1 1100 ⟨59,0,59,8⟩ (wf false true w) (cz (vi pw_uk0028_02 (wf false true w).params) 458)=some (.next,cz (y2 pw_uk0028_02 (wf false true w).params) 518,kt pw_uk0028_02,⟨60,0,60,6⟩):=∅
theorem DZ(w:World):fS fast pw_uk0028_02 9 1 1100 ⟨59,0,59,8⟩ (wf true false w) (cz (vi pw_uk0028_02 (wf true false w).params) 458)=some (.next,cz (y2 pw_uk0028_02 (wf true false w).params) 518,kt pw_uk0028_02,⟨60,0,60,6⟩):=∅
theorem D0(w:World):fS fast pw_uk0028_02 9 1 1100 ⟨59,0,59,8⟩ (wf true true w) (cz (vi pw_uk0028_02 (wf true true w).params) 458)=some (.next,cz (y2 pw_uk0028_02 (wf true true w).params) 518,kt pw_uk0028_02,⟨60,0,60,6⟩):=∅
theorem kD(w:World):fS fast pw_uk0028_02 10 1 60 ⟨60,0,60,6⟩ w (cz (y2 pw_uk0028_02 w.params) 518)=some (.next,cz (Cr pw_uk0028_02 w.params) 525,kt pw_uk0028_02,⟨61,0,62,30⟩):=∅
theorem EP(w:World)(f:Nat->Obj)(T:Nat)(ps:Pos):(ve fast pw_uk0028_02 11 1200 140 (w.withFollow "special-get-raises" false) (Cr pw_uk0028_02 (w.withFollow "special-get-raises" false).params) ((List.range 39).map f) T ps).map (lf fast fastSeen pw_uk0028_02 qL dK (eQ pw_uk0028_02) 140 (w.withFollow "special-get-raises" false))=some (true,openGood qL dK,fT (eQ pw_uk0028_02),some (f 0)):=∅
theorem EQ(w:World)(f:Nat->Obj)(T:Nat)(ps:Pos):(ve fast pw_uk0028_02 11 1200 140 (w.withFollow "special-get-raises" true) (Cr pw_uk0028_02 (w.withFollow "special-get-raises" true).params) ((List.range 39).map f) T ps).map (lf fast fastSeen pw_uk0028_02 qL dK (eQ pw_uk0028_02) 140 (w.withFollow "special-get-raises" true))=some (true,openGood qL dK,fT (eQ pw_uk0028_02),some (f 0)):=∅
theorem kC(w:World):fS fast pw_uk0028_02 9 1 1100 ⟨59,0,59,8⟩ w (cz (vi pw_uk0028_02 w.params) 458)=some (.next,cz (y2 pw_uk0028_02 w.params) 518,kt pw_uk0028_02,⟨60,0,60,6⟩):=
 byRow2 "special-get-raises" (P:=λw=>fS fast pw_uk0028_02 9 1 1100 ⟨59,0,59,8⟩ w (cz (vi pw_uk0028_02 w.params) 458)=some (.next,cz (y2 pw_uk0028_02 w.params) 518,kt pw_uk0028_02,⟨60,0,60,6⟩))
  (byRow2 "set-order" (P:=λw=>fS fast pw_uk0028_02 9 1 1100 ⟨59,0,59,8⟩ (w.withFollow "special-get-raises" false) (cz (vi pw_uk0028_02 (w.withFollow "special-get-raises" false).params) 458)=some (.next,cz (y2 pw_uk0028_02 (w.withFollow "special-get-raises" false).params) 518,kt pw_uk0028_02,⟨60,0,60,6⟩)) DX DZ)
  (byRow2 "set-order" (P:=λw=>fS fast pw_uk0028_02 9 1 1100 ⟨59,0,59,8⟩ (w.withFollow "special-get-raises" true) (cz (vi pw_uk0028_02 (w.withFollow "special-get-raises" true).params) 458)=some (.next,cz (y2 pw_uk0028_02 (w.withFollow "special-get-raises" true).params) 518,kt pw_uk0028_02,⟨60,0,60,6⟩)) DY D0) w
theorem kE(w:World)(f:Nat->Obj)(T:Nat)(ps:Pos):(ve fast pw_uk0028_02 11 1200 140 w (Cr pw_uk0028_02 w.params) ((List.range 39).map f) T ps).map (lf fast fastSeen pw_uk0028_02 qL dK (eQ pw_uk0028_02) 140 w)=some (true,openGood qL dK,fT (eQ pw_uk0028_02),some (f 0)):=
 byRow2 "special-get-raises" (P:=λw=>(ve fast pw_uk0028_02 11 1200 140 w (Cr pw_uk0028_02 w.params) ((List.range 39).map f) T ps).map (lf fast fastSeen pw_uk0028_02 qL dK (eQ pw_uk0028_02) 140 w)=some (true,openGood qL dK,fT (eQ pw_uk0028_02),some (f 0)))
  (λw=>EP w f T ps) (λw=>EQ w f T ps) w
noncomputable def rowsL:List (Int×Str):=match dm (dF pw_uk0028_02 11).keys (dF pw_uk0028_02 11).vals with|some L=>L|none=>[]
theorem wS:dm (dF pw_uk0028_02 11).keys (dF pw_uk0028_02 11).vals=some rowsL:=by
 have h:(dm (dF pw_uk0028_02 11).keys (dF pw_uk0028_02 11).vals).isSome=true:=∅;obtain⟨L,e⟩:=Option.isSome_iff_exists.mp h;unfold rowsL;rw[e]
theorem D1(w:World):A4 pw_uk0028_02 11 1200 140 39 w (Cr pw_uk0028_02 w.params) 525 (12+(1+(1000+(1100+60)))) (lf fR openSeen pw_uk0028_02 qL dK (eQ pw_uk0028_02) 140 w) λf=>(true,openGood qL dK,fT (eQ pw_uk0028_02),some (f 0)):=by
 have hA:=kA w;have hC:=kC w;have hD:=kD w;rw[<-ni]at hA hC hD;obtain⟨z,z1,z2,z3,z4,ch⟩:=wO hA;refine⟨⟨z,⟨61,0,62,30⟩,z1,z2,z3,z4,λN r h => ?_⟩,∅,λf T ps => ?_⟩
 ·have c:=ch _ _ (wP hC (wP (i:=9+1) (k:=1) hD h))
  rw[show 12+(1+(1000+(1100+60)))+N=12+(1+(1000+(1100+(60+N))))by omega];exact c
 ·have hE:=kE w f T ps
  rw[<-ni,<-vh]at hE;exact hE
theorem left:LeftO pw_uk0028_02 qL dK (λ_=>true) (λs=>cP (eQ pw_uk0028_02) 140 rowsL s.heap) (λ_=>True) 40000:=
 wR D1 ∅ wS ∅ ∅ rfl nofun (C:=cD 633) rfl ⟨nofun,by decide +kernel⟩
set_option maxHeartbeats 8000000 in
theorem wT (walk:∀(w:World) (s:Shared) (a:Addr) (vs:List Value) (ns:List Int),cP (eQ pw_uk0028_02) 140 rowsL s.heap->s.gens = #[]->s.heap.IsList a vs.toArray->IntsAre vs ns->(PyData.list (ns.map PyData.int)).layable0=true->ns.length<=63 ->
 wpAny (model pw_uk0028_02 w) callerA (call (.ref 223) [.ref a]) (λv s'=>v = .bool true/\(∀b o,s.heap.get? b=some o->s'.heap.get? b=some o)/\s'.os=s.os/\s'.gens = #[]) (λ_ _=>False) s):rw_uk0028_02.Holds:=by
 refine holds_law (by decide +kernel) λsaid => ?_
 exact A6 (f:=223) left rfl rfl rfl (by rfl) (by rfl) (by rfl) (by decide +kernel) ⟨rfl,rfl,rfl,rfl,rfl,by decide +kernel⟩ (by w_witness2) (by decide +kernel) walk (by assumption)
end
local macro_rules | `(tactic|obtain⟨$ps,*⟩ := $t:term)=>do
 let a:=ps.getElems;let f (s:Lean.TSyntax `tactic) (m:Nat):Lean.MacroM (Lean.TSyntax `tactic) := `(tactic|first|(refine $(Lean.mkIdent (.mkSimple s!"ob{m}{a.size - m}")) $t ?_;rintro $[($a:rcasesPatLo)]*)| $s:tactic);let z:Lean.TSyntax `tactic <- `(tactic|rcases $t:term with⟨$ps,*⟩);let r <-List.foldlM f z [4,3,2,1,0]
 return r.raw
section
open PySem PySem.W PySem.Calls PyProof.Rows
noncomputable abbrev Nm:=List Nat
noncomputable def nm(x:Str):Nm:=x.cps.toList
noncomputable def af:List Nat->List Nat->Bool
 |[],[]=>true
 |x::xs,y::ys=>Nat.beq x y&&af xs ys
 |_,_=>false
theorem ai:∀{x y:List Nat},af x y=true↔x=y
 |[],[]=>⟨λ_=>rfl,λ_=>rfl⟩
 |[],_::_=>⟨λh=>ab h,λh=>(List.cons_ne_nil _ _ h.symm).elim⟩
 |_::_,[]=>⟨λh=>ab h,λh=>(List.cons_ne_nil _ _ h).elim⟩
 |a::x,b::y=>⟨λh=>List.cons_eq_cons.mpr ⟨Nat.eq_of_beq_eq_true (ay h).1,ai.mp (ay h).2⟩,
  λh=>Bool.and_eq_true_iff.mpr ⟨(List.cons_eq_cons.mp h).1▸Nat.beq_refl a,ai.mpr (List.cons_eq_cons.mp h).2⟩⟩
theorem bQ{x y:Str}(h:nm x=nm y):x=y:=by
 obtain⟨x⟩:=x;obtain⟨y⟩:=y;simp only[nm]at h;rw[Array.toList_inj.mp h]
theorem pJ{x y:Str}:af (nm x) (nm y)=(x==y):=by
 cases h:af (nm x) (nm y)with
 |true=>rw[bQ (ai.mp h)];simp
 |false=>
  symm;rw[beq_eq_false_iff_ne];intro e;subst e
  rw[ai.mpr rfl]at h;injections h
inductive V where
 |none|bool (b:Bool)|int (i:Int)|str (s:List Nat)|list (l:List V)|tup (l:List V)
 |ws (raw:List Nat) (n nt:Int) (cnt:List Int) (b:Int) (sm:Bool)
 |obj (a:Nat) (raw:List Nat)|cls
inductive Slot where
 |un|val (v:V)|own (l:List V)
noncomputable abbrev Rho:=List (Nm×Slot)
noncomputable def lk:Rho->Nm->Slot
 |[],_ => .un
 |(y,s)::r,x=>bif af x y then s else lk r x
noncomputable def put:Rho->Nm->Slot->Rho
 |[],_,_=>[]
 |(y,s)::r,x,t=>bif af x y then(y,t)::r else(y,s)::put r x t
noncomputable def iM(x:Nm):List Nm->Bool
 |[]=>false
 |y::r=>af x y||iM x r
theorem ii{y x:Nm}{s:Slot}{r:Rho}:lk ((y,s)::r) x=bif af x y then s else lk r x:=rfl
theorem wU{y x:Nm}{s t:Slot}{r:Rho}:put ((y,s)::r) x t=bif af x y then(y,t)::r else(y,s)::put r x t:=rfl
theorem CG{x y:Nm}{r:List Nm}:iM x (y::r)=(af x y||iM x r):=rfl
noncomputable def cQ(c:Bool):V->V->V
 | .none, .none => .none
 | .bool a, .bool b => .bool (bif c then a else b)
 | .int a, .int b => .int (bif c then a else b)
 | .str a, .str b => .str (bif c then a else b)
 | .list a, .list b => .list (bif c then a else b)
 | .tup a, .tup b => .tup (bif c then a else b)
 |a,b=>bif c then a else b
theorem bo(c:Bool)(a b:V):cQ c a b=bif c then a else b:=by
 induction c using Bool.casesOn<;>induction a using V.casesOn<;>cases b<;>rfl
noncomputable def lg(c:Bool):Slot->Slot->Slot
 | .val a, .val b => .val (cQ c a b)
 | .own a, .own b => .own (bif c then a else b)
 |_,_ => .un
noncomputable def lh:Slot->Slot->Slot
 | .val a,_ => .val a
 | .own a, .own _ => .own a
 | .own a, .val _ => .val (.list a)
 |_,_ => .un
noncomputable def et(ns:List Nm)(c:Bool):Rho->Rho->Rho
 |(x,s)::r,(_,t)::q=>(x,bif iM x ns then lg c s t else lh s t)::et ns c r q
 |_,_=>[]
noncomputable def mask:Rho->Rho->Rho
 |(_, .un)::r,(x,_)::q=>(x, .un)::mask r q
 |_::r,y::q=>y::mask r q
 |_,_=>[]
noncomputable def freeze(ns:List Nm):Rho->Rho
 |[]=>[]
 |(x, .own l)::r=>(x,bif iM x ns then .val (.list l)else .own l)::freeze ns r
 |y::r=>y::freeze ns r
noncomputable abbrev R:=Bool×V
noncomputable def bad:R:=(false, .none)
noncomputable def big:Int:=1000000000000000000
noncomputable def small(a:Int):Bool:=decide (-big<=a)&&decide (a<=big)
noncomputable def cap:Nat:=1000000
mutual
noncomputable def eR:V->PyData
 | .int i => .int i
 | .str s => .str ⟨s.toArray⟩
 | .list l => .list (toPys l)
 |_ => .none
noncomputable def toPys:List V->List PyData
 |[]=>[]
 |x::l=>eR x::toPys l
end
noncomputable def dL:Nat->V->Bool
 |0,_=>false
 |k+1,v=>match v with
  | .int _=>true
  | .str s=>s.all λc=>Nat.blt c 1114112
  | .list l=>l.all (dL k)
  |_=>false
noncomputable def AH:List Nat->List Nat->Bool:=af
mutual
noncomputable def DI:V->V->Bool
 | .int i, .int j=>decide (i=j)
 | .str x, .str y=>AH x y
 | .list xs, .list ys=>eqVs xs ys
 |_,_=>false
noncomputable def eqVs:List V->List V->Bool
 |[],[]=>true
 |x::xs,y::ys=>DI x y&&eqVs xs ys
 |_,_=>false
end
noncomputable def sS(f:List Nat->R):V->R
 | .str s=>f s
 |_=>bad
noncomputable def A7(f:List V->R):V->R
 | .list l=>f l
 |_=>bad
noncomputable def js(f:Int->R):V->R
 | .int i=>f i
 |_=>bad
noncomputable def aa:V->Bool×Bool
 | .bool b=>(true,b)
 | .int i=>(true, !decide (i=0))
 | .str s=>(decide (s.length<=cap), !s.isEmpty)
 |_=>(false,false)
noncomputable def ei{α:Type}(l:List α)(n:Int):List α:=(List.replicate n.toNat l).flatten
noncomputable def A8(a b:Int):Operator->R
 | .Add=>(true, .int (a+b))
 | .Sub=>(true, .int (a-b))
 | .Mult=>(small a||small b, .int (a*b))
 | .FloorDiv=>(!decide (b=0)&&small b, .int (a.fdiv b))
 | .Mod=>(!decide (b=0), .int (a.fmod b))
 | .Pow=>(decide (0<=b)&&decide (b<=100)&&(decide (-100<=a)&&decide (a<=100)), .int (a^b.toNat))
 |_=>bad
noncomputable def uq(n:Int)(k:Nat):Bool:=decide (-1000<=n)&&decide (n<=1000)&&decide (k<=1000)
noncomputable def D2(a:List Nat)(y:V):Operator->R
 | .Add=>sS (λb=>(decide (a.length+b.length<=cap), .str (a++b))) y
 | .Mult=>js (λn=>(uq n a.length, .str (ei a n))) y
 |_=>bad
noncomputable def D3(a:List V)(y:V):Operator->R
 | .Add=>A7 (λb=>(decide (a.length+b.length<=cap), .list (a++b))) y
 | .Mult=>js (λn=>(uq n a.length, .list (ei a n))) y
 |_=>bad
noncomputable def bW(op:Operator)(a b:V):R:=match a with
 | .int a=>js (λb=>A8 a b op) b
 | .str a=>D2 a b op
 | .list a=>D3 a b op
 |_=>bad
noncomputable def A9:V->V->Bool×Bool
 | .none, .none=>(true,true)
 | .bool a, .bool b=>(true,a==b)
 | .str _, .none=>(true,false)
 |_,_=>(false,false)
noncomputable def Ba(i j:Int):CmpOp->Bool×Bool
 | .Lt=>(true,decide (i<j))
 | .LtE=>(true,decide (i<=j))
 | .Gt=>(true,decide (j<i))
 | .GtE=>(true,decide (j<=i))
 | .Eq=>(true,decide (i=j))
 | .NotEq=>(true, !decide (i=j))
 |_=>(false,false)
noncomputable def sT(ok c:Bool):CmpOp->Bool×Bool
 | .Eq=>(ok,c)
 | .NotEq=>(ok, !c)
 |_=>(false,false)
noncomputable def Bb(op:CmpOp)(a b:V):Bool×Bool:=match a with
 | .int i=>match b with
   | .int j=>Ba i j op
   |_=>(false,false)
 | .str x=>match b with
   | .str y=>sT true (AH x y) op
   |_=>(false,false)
 | .bool x=>match b with
   | .bool y=>sT true (x==y) op
   |_=>(false,false)
 | .list x=>match b with
   | .list y=>sT (dL 9 (.list x)&&dL 9 (.list y)) (eqVs x y) op
   |_=>(false,false)
 |_=>(false,false)
noncomputable def pK(op:CmpOp)(a b:V):Bool×Bool:=match op with
 | .Is=>A9 a b
 | .IsNot=>((A9 a b).1, !(A9 a b).2)
 |op=>Bb op a b
noncomputable def getI:V->Int
 | .int i=>i
 |_=>0
noncomputable def ky:V->List Nat
 | .str s=>s
 |_=>[]
noncomputable def CH:V->Bool
 | .bool b=>b
 |_=>false
noncomputable def CI:V->List V
 | .list l=>l
 |_=>[]
noncomputable def Bc:V->List V
 | .tup l=>l
 |_=>[]
noncomputable def mV:V->Bool
 | .int _=>true
 |_=>false
noncomputable def y3:V->Bool
 | .str _=>true
 |_=>false
noncomputable def D4:V->Bool
 | .bool _=>true
 |_=>false
noncomputable def CJ:V->Bool
 | .list _=>true
 |_=>false
noncomputable def DJ:V->Bool
 | .tup _=>true
 |_=>false
noncomputable def place(n:Nat)(i:Int):Nat:=(bif decide (i<0)then i+n else i).toNat
noncomputable def aL(n:Nat)(i:Int):Bool:=decide (-(n:Int)<=i)&&decide (i<n)
noncomputable def nu(l:List V)(k:Nat):V:=
 bif l.all mV then .int (getI (l.getD k .none))else
 bif l.all y3 then .str (ky (l.getD k .none))else
 bif l.all D4 then .bool (CH (l.getD k .none))else
 bif l.all CJ then .list (CI (l.getD k .none))else
 bif l.all DJ then .tup (Bc (l.getD k .none))else l.getD k .none
noncomputable def CK(ty:Nat)(l:List V)(i:Int):R:=
 bif Nat.beq ty 1 then(aL l.length i&&decide (l.length<=cap)&&mV (l.getD (place l.length i) .none), .int (getI (l.getD (place l.length i) .none)))
 else bif Nat.beq ty 2 then(aL l.length i&&decide (l.length<=cap)&&y3 (l.getD (place l.length i) .none), .str (ky (l.getD (place l.length i) .none)))
 else(aL l.length i&&decide (l.length<=cap),nu l (place l.length i))
noncomputable def gR(ty:Nat)(o i:V):R:=match o with
 | .list l=>js (CK ty l) i
 | .tup l=>js (CK ty l) i
 | .str s=>js (λi=>(aL s.length i&&decide (s.length<=cap), .str [s.getD (place s.length i) 0])) i
 |_=>bad
noncomputable def ur(f:Option Int->R):V->R
 | .none=>f none
 | .int i=>f (some i)
 |_=>bad
noncomputable def bound(n:Nat)(i:Int):Nat:=bif decide (i<0)then(i+n).toNat else Nat.min i.toNat n
noncomputable def jY{α:Type}(l:List α)(lo hi:Option Int):List α:=
 let a:=match lo with|none=>0|some i=>bound l.length i
 let b:=match hi with|none=>l.length|some i=>bound l.length i
 (l.drop a).take (b-a)
noncomputable def bx{α:Type}(k a:Int)(l:List α):List α:=(sliceRange (max 0 (min a l.length)) l.length k).filterMap (l[·]?)
noncomputable def sU:V->Bool
 | .none=>true
 |_=>false
noncomputable def df(o lo hi st:V):R:=match o with
 | .str s=>match st with
   | .none=>ur (λa=>ur (λb=>(decide (s.length<=cap), .str (jY s a b))) hi) lo
   |st=>js (λk=>(sU lo&&sU hi&&(decide (s.length<=cap)&&decide (k = -1)), .str s.reverse)) st
 | .list l=>match st with
   | .none=>ur (λa=>ur (λb=>(decide (l.length<=cap), .list (jY l a b))) hi) lo
   |st=>js (λk=>js (λa=>(sU hi&&(decide (l.length<=cap)&&decide (0<=a)&&decide (1<=k)), .list (bx k a l))) lo) st
 |_=>bad
noncomputable def DK(op:UnaryOp)(a:V):R:=match op with
 | .Not=>((aa a).1, .bool (!(aa a).2))
 | .USub=>js (λa=>(true, .int (-a))) a
 |_=>bad
noncomputable def mW(l:List V):Int:=(l.map getI).foldl (· + ·) 0
noncomputable def CL:List Int->Int
 |[]=>0
 |x::l=>l.foldl (λa b=>bif decide (a<b)then b else a) x
noncomputable def CM:List Int->Int
 |[]=>0
 |x::l=>l.foldl (λa b=>bif decide (b<a)then b else a) x
noncomputable def dM(sep:List Nat):List (List Nat)->List Nat
 |[]=>[]
 |[x]=>x
 |x::y::l=>x++sep++dM sep (y::l)
theorem za{sep x:List Nat}:dM sep [x]=x:=rfl
theorem zb{sep x y:List Nat}{l:List (List Nat)}:dM sep (x::y::l)=x++sep++dM sep (y::l):=rfl
noncomputable def fk(a k:Int):Nat->List Int
 |0=>[]
 |n+1=>a::fk (a+k) k n
theorem fV{a k:Int}{n:Nat}:fk a k (n+1)=a::fk (a+k) k n:=rfl
noncomputable def cA(a b k:Int):List Int:=fk a k (Builtin.Range.rangeSize a b k).toNat
noncomputable def nv(s:List Nat):List V:=s.map λc => .str [c]
end
section
open PySem PySem.W PySem.Calls PyProof.Rows
noncomputable def tx(s:List Nat):Str:=⟨s.toArray⟩
noncomputable def bR(s:List Nat):List Nat:=(Txt.lower (tx s)).cps.toList
noncomputable def pL(s:List Nat):List Nat:=(Txt.upper (tx s)).cps.toList
noncomputable def vj(c:Nat):List Nat->List Nat
 |[]=>[c]
 |d::l=>bif Nat.ble c d then c::d::l else d::vj c l
noncomputable def nA(s:List Nat):List Nat:=s.foldr vj []
noncomputable def eH(s y:List Nat):List (List Nat):=(Txt.split (tx s) (tx y)).map λx=>x.cps.toList
noncomputable def pM(s y:List Nat):Int:=Txt.count (tx s) (tx y)
structure Fns where
 glob:List (Nm×V)
 fn:List (Nm×(List V->R))
 meth:List (Nm×(List V->R))
noncomputable def kK{α:Type}:List (Nm×α)->Nm->Option α
 |[],_=>none
 |(y,s)::r,x=>bif af x y then some s else kK r x
noncomputable def cy(ev:Expr->R):List Expr->Bool×List V
 |[]=>(true,[])
 |e::es=>
  let x:=ev e;let r:=cy ev es
  (x.1&&r.1,x.2::r.2)
theorem CN{E:Expr->R}{e:Expr}{es:List Expr}:cy E (e::es)=((E e).1&&(cy E es).1,(E e).2::(cy E es).2):=rfl
noncomputable def eS(ev:Expr->R):List Expr->R
 |[]=>bad
 |[e]=>ev e
 |e::es=>
  let x:=ev e;let c:=aa x.2;let r:=eS ev es
  (x.1&&c.1&&(bif c.2 then r.1 else true),cQ c.2 r.2 x.2)
noncomputable def mX(ev:Expr->R):List Expr->R
 |[]=>bad
 |[e]=>ev e
 |e::es=>
  let x:=ev e;let c:=aa x.2;let r:=mX ev es
  (x.1&&c.1&&(bif c.2 then true else r.1),cQ c.2 x.2 r.2)
noncomputable def kd(κ:List (Str×NameKind))(x:Nm):Option NameKind:=match κ with
 |[]=>none
 |(y,k)::r=>bif af x (nm y)then some k else kd r x
theorem D5{y:Str}{k:NameKind}{r:List (Str×NameKind)}{x:Nm}:kd ((y,k)::r) x=bif af x (nm y)then some k else kd r x:=rfl
noncomputable def ae(k:Option NameKind):Bool:=match k with
 |some .local|some .cell|some .free=>true
 |_=>false
noncomputable def aN(k:Option NameKind):Bool:=match k with
 |some .globalImplicit=>true
 |_=>false
noncomputable def ij(k:Option NameKind):Bool:=match k with
 |some .cell|some .free=>true
 |_=>false
noncomputable def fm(f:V->R):List V->R
 |[x]=>f x
 |_=>bad
noncomputable def qN(f:V->V->R):List V->R
 |[x,y]=>f x y
 |_=>bad
noncomputable def D6(f:List Nat->Int->Int->List Int->Int->Bool->R):V->R
 | .ws a b c d e g=>f a b c d e g
 |_=>bad
noncomputable def DL(f:Nat->R):V->R
 | .str [c]=>f c
 |_=>bad
theorem kL(P:List V->R->Prop){f:V->R}{as:List V}(ok:(fm f as).1=true)(k:∀x,(f x).1=true->P [x] (f x)):P as (fm f as):=by
 induction as using List.casesOn with
 |nil=>exact ab ok
 |cons x as=>induction as using List.casesOn with
  |nil=>exact k x ok
  |cons=>exact ab ok
theorem zc(P:List V->R->Prop){f:V->V->R}{as:List V}(ok:(qN f as).1=true)(k:∀x y,(f x y).1=true->P [x,y] (f x y)):P as (qN f as):=by
 induction as using List.casesOn with
 |nil=>exact ab ok
 |cons x as=>induction as using List.casesOn with
  |nil=>exact ab ok
  |cons y as=>induction as using List.casesOn with
   |nil=>exact k x y ok
   |cons=>exact ab ok
theorem wV(P:V->R->Prop){f:List Nat->R}{v:V}(ok:(sS f v).1=true)(k:∀x,(f x).1=true->P (.str x) (f x)):P v (sS f v):=by
 induction v using V.casesOn with
 |str x=>exact k x ok
 |_=>exact ab ok
theorem Bd(P:V->R->Prop){f:Int->R}{v:V}(ok:(js f v).1=true)(k:∀x,(f x).1=true->P (.int x) (f x)):P v (js f v):=by
 induction v using V.casesOn with
 |int x=>exact k x ok
 |_=>exact ab ok
theorem Be(P:V->R->Prop){f:List Nat->Int->Int->List Int->Int->Bool->R}{v:V}(ok:(D6 f v).1=true)(k:∀a b c d e g,(f a b c d e g).1=true->P (.ws a b c d e g) (f a b c d e g)):P v (D6 f v):=by
 induction v using V.casesOn with
 |ws a b c d e g=>exact k a b c d e g ok
 |_=>exact ab ok
theorem wW(P:V->R->Prop){f:Nat->R}{v:V}(ok:(DL f v).1=true)(k:∀c,(f c).1=true->P (.str [c]) (f c)):P v (DL f v):=by
 induction v using V.casesOn with
 |str x=>induction x using List.casesOn with
  |nil=>exact ab ok
  |cons c x=>induction x using List.casesOn with
   |nil=>exact k c ok
   |cons=>exact ab ok
 |_=>exact ab ok
noncomputable def CO(s:List Nat):List V->R:=fm (A7 λl=>(l.all y3&&decide (l.length<=cap)&&decide (((l.map ky).map List.length).sum+l.length*s.length<=cap), .str (dM s (l.map ky))))
noncomputable def Bf(s:List Nat)(as:List V):R:=(as.isEmpty&&decide (s.length<=cap), .str (bR s))
noncomputable def Bg(s:List Nat)(as:List V):R:=(as.isEmpty&&decide (s.length<=cap), .str (pL s))
noncomputable def Bh(s:List Nat):List V->R:=fm (sS λy=>(decide (s.length<=cap) && !y.isEmpty, .list ((eH s y).map .str)))
noncomputable def Bi(s:List Nat):List V->R:=fm (sS λy=>(decide (s.length<=cap) && !y.isEmpty, .int (pM s y)))
noncomputable def CP:List (Str×(List Nat->List V->R)):=[("join",CO),("lower",Bf),("upper",Bg),("split",Bh),("count",Bi)]
noncomputable def CQ{α:Type}:List (Str×α)->Nm->Option α
 |[],_=>none
 |(y,s)::r,x=>bif af x (nm y)then some s else CQ r x
noncomputable def D7(o:Option (List V->R))(as:List V):R:=match o with
 |some F=>F as
 |none=>bad
noncomputable def vk(m:Nm)(s:List Nat)(as:List V):R:=D7 ((CQ CP m).map (· s)) as
noncomputable def kz:V->R
 | .str s=>(decide (s.length<=cap), .int s.length)
 | .list l=>(decide (l.length<=cap), .int l.length)
 | .tup l=>(decide (l.length<=cap), .int l.length)
 |_=>bad
noncomputable def D8:List V->R:=fm (sS λs=>(Nat.beq s.length 1, .int (s.getD 0 0)))
noncomputable def D9:List V->R:=fm (js λi=>(decide (0<=i)&&decide (i<1114112), .str [i.toNat]))
noncomputable def ut(g:List Int->Int)(h:Int->Int->Int):List V->R
 |[x]=>A7 (λl=>(l.all mV && !l.isEmpty&&decide (l.length<=cap), .int (g (l.map getI)))) x
 |as=>qN (λx y=>js (λa=>js (λb=>(true, .int (h a b))) y) x) as
noncomputable def Bj(a b:Int):Int:=bif decide (b<a)then b else a
noncomputable def Bk(a b:Int):Int:=bif decide (a<b)then b else a
noncomputable def Ea:List V->R:=ut CM Bj
noncomputable def Eb:List V->R:=ut CL Bk
noncomputable def Ec:List V->R:=fm (A7 λl=>(l.all mV&&decide (l.length<=cap), .int (mW l)))
noncomputable def Ed:List V->R:=fm (A7 λl=>(decide (l.length<=cap), .tup l))
noncomputable def CR:List V->R:=fm (sS λs=>(decide (s.length<64), .list (nv (nA s))))
noncomputable def Bl:List V->R:=fm (sS λs=>(decide (s.length<=cap), .list (nv s)))
noncomputable def EC:List (Str×(List V->R)):=[("len",fm kz),("ord",D8),("chr",D9),("min",Ea),("max",Eb),("sum",Ec),("tuple",Ed),("sorted",CR),("list",Bl)]
noncomputable def eJ(f:Nm)(as:List V):R:=D7 (CQ EC f) as
noncomputable def bC(a b k:Int):Bool:=Builtin.Range.small a b k&&decide (Builtin.Range.rangeSize a b k<=10000) && !decide (k=0)&&decide (-1000<=k)&&decide (k<=1000)
noncomputable def pN:List Int->Bool×List V
 |[b]=>(bC 0 b 1,(cA 0 b 1).map .int)
 |[a,b]=>(bC a b 1,(cA a b 1).map .int)
 |[a,b,k]=>(bC a b k,(cA a b k).map .int)
 |_=>(false,[])
noncomputable def dN(as:List V):Bool×List V:=bif as.all mV then pN (as.map getI)else(false,[])
noncomputable def li:V->Bool×List V
 | .list l=>(decide (l.length<=cap),l)
 | .str s=>(decide (s.length<=cap),nv s)
 | .tup l=>(decide (l.length<=cap),l)
 |_=>(false,[])
noncomputable def lj(k:Int):List V->List V
 |[]=>[]
 |x::l => .tup [.int k,x]::lj (k+1) l
theorem pO{k:Int}{x:V}{l:List V}:lj k (x::l) = .tup [.int k,x]::lj (k+1) l:=rfl
noncomputable def fo:Expr->Option (Str×List Expr)
 | .Call f as kw _=>match f with
   | .Name f _=>match kw with
     |[]=>some (f,as)
     |_=>none
   |_=>none
 |_=>none
noncomputable def uu(o:Option (Str×List Expr)):Option (List Expr):=match o with
 |some (g,bs)=>bif af (nm g) (nm "range")then some bs else none
 |none=>none
noncomputable def iN:List Expr->Option (List Expr)
 |[a]=>uu (fo a)
 |_=>none
noncomputable def cC:Expr->Bool
 | .Name _ _=>true
 |_=>false
noncomputable def fq:Expr->Bool
 | .Tuple _ _ _=>true
 |_=>false
noncomputable def jZ(κ:List (Str×NameKind))(ev:Expr->R)(t:Expr)(e:Expr):Bool×List V:=
 let x:=ev e;let r:=li x.2
 (x.1&&r.1&&(cC t||(fq t&&CJ x.2)),r.2)
noncomputable def wX(κ:List (Str×NameKind))(ev:Expr->R)(t:Expr)(f:Nm)(as:List Expr):Bool×List V:=
 let x:=cy ev as;let r:=dN x.2
 (aN (kd κ f)&&x.1&&r.1&&cC t,r.2)
noncomputable def wY(κ:List (Str×NameKind))(ev:Expr->R)(t:Expr)(f:Nm)(as:List Expr):Bool×List V:=
 let x:=cy ev as;let l:=Bc (x.2.getD 0 .none)
 (aN (kd κ f)&&x.1&&Nat.beq x.2.length 1&&DJ (x.2.getD 0 .none)&&fq t,lj 0 l)
noncomputable def uv(κ:List (Str×NameKind))(ev:Expr->R)(t:Expr)(whole:Expr)(f:Nm)(as:List Expr):Bool×List V:=
 bif af f (nm "range")then wX κ ev t f as
 else bif af f (nm "enumerate")then wY κ ev t f as
 else jZ κ ev t whole
noncomputable def aQ(κ:List (Str×NameKind))(ev:Expr->R)(t:Expr)(e:Expr):Bool×List V:=match fo e with
 |some (f,as)=>uv κ ev t e (nm f) as
 |none=>jZ κ ev t e
noncomputable def jx:List Expr->List V->Rho->Bool×Rho
 |[],[],ρ=>(true,ρ)
 | .Name x _::ts,v::vs,ρ=>jx ts vs (put ρ (nm x) (.val v))
 |_,_,ρ=>(false,ρ)
noncomputable def aT(t:Expr)(v:V)(ρ:Rho):Bool×Rho:=match t with
 | .Name x _=>(true,put ρ (nm x) (.val v))
 | .Tuple ts _ _=>match v with
   | .tup vs=>jx ts vs ρ
   |_=>(false,ρ)
 |_=>(false,ρ)
noncomputable def nmT(t:Expr):Option Nm:=match t with
 | .Name x _=>some (nm x)
 |_=>none
theorem iO{x:Str}{p:Pos}{ts:List Expr}:(Expr.Name x p::ts).filterMap nmT=nm x::ts.filterMap nmT:=rfl
theorem Bm{t:Expr}{x:Nm}(h:nmT t=some x):∃y:Str,x=nm y:=by
 induction t using Expr.casesOn with
 |Name y p=>exact⟨y,(Option.some.inj h).symm⟩
 |_=>exact ao h
noncomputable def Ee:Option NameKind->Bool
 |some .local|some .cell=>true
 |_=>false
noncomputable def az:Expr->List Nm
 | .Name x _=>[nm x]
 | .Tuple ts _ _=>ts.filterMap nmT
 |_=>[]
noncomputable def mY(κ:List (Str×NameKind))(t:Expr):Bool:=(az t).all λx=>Ee (kd κ x)
noncomputable def uw:Slot->Slot
 | .val v => .val v
 |_ => .un
noncomputable def bD(scope:Scope)(ρ:Rho):Rho:=scope.names.map λ(x,k)=>(nm x,match k with| .free=>uw (lk ρ (nm x))|_ => .un)
noncomputable def dP(ev:Expr->R):List Expr->Bool×Bool
 |[]=>(true,true)
 |e::es=>
  let x:=ev e;let c:=aa x.2;let r:=dP ev es
  (x.1&&c.1&&(bif c.2 then r.1 else true),c.2&&r.2)
theorem wZ{E:Expr->R}{e:Expr}{es:List Expr}:dP E (e::es)=((E e).1&&(aa (E e).2).1&&(bif (aa (E e).2).2 then(dP E es).1 else true),(aa (E e).2).2&&(dP E es).2):=rfl
noncomputable def dQ:List Nm->Bool
 |[]=>true
 |x::r => !iM x r&&dQ r
theorem w5{x:Nm}{r:List Nm}:dQ (x::r)=(!iM x r&&dQ r):=rfl
noncomputable def sV:ScopeKind->Bool
 | .function=>true
 |_=>false
noncomputable def ew(κ:List (Str×NameKind))(scope:Scope):Bool:=sV scope.kind&&dQ (scope.names.map λx=>nm x.1)&&scope.names.all (λx => !af (nm x.1) (nm "__debug__") && !af (nm x.1) (nm "__classdict__"))&&scope.names.all λ(x,k)=>match k with
 | .free=>ij (kd κ (nm x))
 | .local| .cell=>true
 | .globalImplicit=>true
 |_=>false
noncomputable def a9(f:V->Bool×Bool×R):List V->Bool×List V
 |[]=>(true,[])
 |x::xs=>
  let y:=f x;let r:=a9 f xs
  (y.1&&(bif y.2.1 then y.2.2.1 else true)&&r.1,bif y.2.1 then y.2.2.2::r.2 else r.2)
theorem zd{f:V->Bool×Bool×R}{x:V}{xs:List V}:a9 f (x::xs)=((f x).1&&(bif (f x).2.1 then(f x).2.2.1 else true)&&(a9 f xs).1,bif (f x).2.1 then(f x).2.2.2::(a9 f xs).2 else(a9 f xs).2):=rfl
noncomputable def dq(f:V->Bool×Bool×List V):List V->Bool×List V
 |[]=>(true,[])
 |x::xs=>
  let y:=f x;let r:=dq f xs
  (y.1&&y.2.1&&r.1,y.2.2++r.2)
theorem DM{f:V->Bool×Bool×List V}{x:V}{xs:List V}:dq f (x::xs)=((f x).1&&(f x).2.1&&(dq f xs).1,(f x).2.2++(dq f xs).2):=rfl
noncomputable abbrev Tau:=List (Nm×Nat)
noncomputable def CS(τ:Tau)(x:Nm):Nat:=(kK τ x).getD 0
noncomputable def Ef:Slot->R
 | .val v=>(true,v)
 |_=>bad
noncomputable def Eg:Option V->R
 |some v=>(true,v)
 |none=>bad
noncomputable def qO(k:Bool)(e:R):Slot->R
 | .own l=>(k, .list l)
 |_=>e
noncomputable def rd(κ:List (Str×NameKind))(Φ:Fns)(ρ:Rho)(x:Nm):R:=
 bif ae (kd κ x)then Ef (lk ρ x)else bif aN (kd κ x)then Eg (kK Φ.glob x)else bad
noncomputable def look(κ:List (Str×NameKind))(ρ:Rho)(ev:Expr->R):Expr->R
 | .Name x p=>qO (ae (kd κ (nm x))) (ev (.Name x p)) (lk ρ (nm x))
 |e=>ev e
noncomputable def w6(a:Nm):V->R
 | .ws raw n nt cnt b sm=>
   bif af a (nm "n")then(true, .int n)
   else bif af a (nm "nt")then(true, .int nt)
   else bif af a (nm "norm")then(true, .tup [.tup (cnt.map .int), .int b])
   else bif af a (nm "is_simple")then(true, .bool sm)
   else bad
 | .obj _ raw=>bif af a (nm "raw")then(true, .str raw)else bad
 | .cls=>bif af a (nm "S")then(true, .str [32])else bif af a (nm "T")then(true, .str [9])else bad
 |_=>bad
noncomputable abbrev Ev:=List (Str×NameKind)->Rho->Expr->R
noncomputable def fG(E:Expr->R):Option Expr->R
 |none=>(true, .none)
 |some e=>E e
noncomputable def nB(E:Ev)(κ:List (Str×NameKind))(ρ:Rho)(a:Expr)(op:Operator)(b:Expr):R:=
 let x:=(match op with| .Add=>look κ ρ (E κ ρ) a|_=>E κ ρ a);let y:=E κ ρ b;let r:=bW op x.2 y.2
 (x.1&&y.1&&r.1,r.2)
noncomputable def ze(E:Expr->R)(op:UnaryOp)(a:Expr):R:=
 let x:=E a;let r:=DK op x.2
 (x.1&&r.1,r.2)
noncomputable def mZ(E:Expr->R)(t a b:Expr):R:=
 let z:=E t;let c:=aa z.2;let x:=E a;let y:=E b
 (z.1&&c.1&&(bif c.2 then x.1 else y.1),cQ c.2 x.2 y.2)
noncomputable def ft(E:Expr->R)(a:Expr)(op:CmpOp)(b:Expr):R:=
 let x:=E a;let y:=E b;let r:=pK op x.2 y.2
 (x.1&&y.1&&r.1, .bool r.2)
noncomputable def ux(E:Expr->R)(a:Expr)(ops:List CmpOp)(bs:List Expr):R:=match ops with
 |[op]=>match bs with
  |[b]=>ft E a op b
  |_=>bad
 |_=>bad
noncomputable def kM(E:Expr->R)(o:Expr)(lo hi st:Option Expr):R:=
 let x:=E o;let a:=fG E lo;let b:=fG E hi;let c:=fG E st;let r:=df x.2 a.2 b.2 c.2
 (x.1&&a.1&&b.1&&c.1&&r.1,r.2)
noncomputable def ll(E:Ev)(τ:Tau)(κ:List (Str×NameKind))(ρ:Rho)(o i:Expr):R:=
 let x:=look κ ρ (E κ ρ) o;let y:=E κ ρ i;let r:=gR (match o with| .Name x _=>CS τ (nm x)|_=>0) x.2 y.2
 (x.1&&y.1&&r.1,r.2)
noncomputable def uy(E:Ev)(τ:Tau)(κ:List (Str×NameKind))(ρ:Rho)(o i:Expr):R:=match i with
 | .Slice lo hi st _=>kM (E κ ρ) o lo hi st
 |i=>ll E τ κ ρ o i
noncomputable def dR:Expr->Bool
 | .Call _ as _ _ => !as.isEmpty
 |_=>true
noncomputable def gE(E:Expr->R)(o:Expr)(a:Nm):R:=
 let x:=E o;let r:=w6 a x.2
 (x.1&&r.1&&dR o,r.2)
noncomputable def cK(E:Ev)(elt t:Expr)(ifs:List Expr)(scope:Scope)(ρ':Rho)(v:V):Bool×Bool×R:=
 let q:=aT t v ρ';let c:=dP (E scope.names q.2) ifs
 (q.1&&c.1,c.2,E scope.names q.2 elt)
noncomputable def g7(E:Ev)(elt t t' it':Expr)(ifs:List Expr)(scope:Scope)(ρ':Rho)(v:V):Bool×Bool×List V:=
 let q:=aT t v ρ';let ys:=aQ scope.names (E scope.names q.2) t' it'
 (q.1&&ys.1,a9 (cK E elt t' ifs scope q.2) ys.2)
noncomputable def Eh(E:Ev)(κ:List (Str×NameKind))(ρ:Rho)(elt:Expr)(scope:Scope)(g:Comprehension):R:=
 let xs:=aQ κ (E κ ρ) g.target g.iter;let r:=a9 (cK E elt g.target g.ifs scope (bD scope ρ)) xs.2
 (decide (g.is_async=0)&&ew κ scope&&mY scope.names g.target&&xs.1&&r.1&&decide (xs.2.length<=cap), .list r.2)
noncomputable def Ei(E:Ev)(κ:List (Str×NameKind))(ρ:Rho)(elt:Expr)(scope:Scope)(g g':Comprehension):R:=
 let xs:=aQ κ (E κ ρ) g.target g.iter;let r:=dq (g7 E elt g.target g'.target g'.iter g'.ifs scope (bD scope ρ)) xs.2
 (decide (g.is_async=0)&&decide (g'.is_async=0)&&g.ifs.isEmpty&&ew κ scope&&mY scope.names g.target&&mY scope.names g'.target&&(az g'.target).all (λx => !iM x (az g.target))&&xs.1&&r.1&&decide (r.2.length<=cap), .list r.2)
noncomputable def ik(E:Ev)(κ:List (Str×NameKind))(ρ:Rho)(elt:Expr)(gs:List Comprehension)(scope:Scope):R:=match gs with
 |[g]=>Eh E κ ρ elt scope g
 |[g,g']=>Ei E κ ρ elt scope g g'
 |_=>bad
noncomputable def eU(Φ:Fns)(m:Nm)(x:V)(ys:List V):R:=match x with
 | .str s=>vk m s ys
 | .ws raw k nt cnt b sm=>match kK Φ.meth m with
   |some f=>f (.ws raw k nt cnt b sm::ys)
   |none=>bad
 |_=>bad
noncomputable def lm(Φ:Fns)(f:Nm)(ys:List V):R:=match kK Φ.fn f with
 |some h=>h ys
 |none=>eJ f ys
noncomputable def eA(Φ:Fns)(E:Expr->R)(κ:List (Str×NameKind))(f:Nm)(as:List Expr):R:=
 let ys:=cy E as;let r:=lm Φ f ys.2
 (aN (kd κ f)&&ys.1&&r.1,r.2)
noncomputable def nC(E:Ev)(κ:List (Str×NameKind))(ρ:Rho)(f:Nm)(a:Expr):R:=
 let x:=look κ ρ (E κ ρ) a;let r:=kz x.2
 (aN (kd κ f)&&x.1&&r.1,r.2)
noncomputable def jy(Φ:Fns)(E:Expr->R)(o:Expr)(m:Nm)(as:List Expr):R:=
 let x:=E o;let ys:=cy E as;let r:=eU Φ m x.2 ys.2
 (x.1&&ys.1&&r.1&&dR o,r.2)
noncomputable def bt(E:Expr->R)(κ:List (Str×NameKind))(f g:Nm)(bs:List Expr):R:=
 let xs:=cy E bs;let r:=dN xs.2
 (aN (kd κ f)&&aN (kd κ g)&&xs.1&&r.1, .list r.2)
noncomputable def kN(o:Option (List Expr))(f:List Expr->R)(g:R):R:=match o with
 |some bs=>f bs
 |none=>g
noncomputable def jz(Φ:Fns)(E:Ev)(κ:List (Str×NameKind))(ρ:Rho)(f:Expr)(as:List Expr)(pos:Pos):R:=match f with
 | .Attribute o m q=>bif q.endLine==pos.line&&decide (as.length<30)then jy Φ (E κ ρ) o (nm m) as else bad
 | .Name f _=>
   bif af (nm f) (nm "len")then match as with
    |[a]=>nC E κ ρ (nm f) a
    |_=>bad
   else kN (bif af (nm f) (nm "list")then iN as else none) (bt (E κ ρ) κ (nm f) (nm "range")) (eA Φ (E κ ρ) κ (nm f) as)
 |_=>bad
noncomputable def pP:Const->R
 | .none=>(true, .none)
 | .bool b=>(true, .bool b)
 | .int i=>(true, .int i)
 | .str s=>(true, .str (nm s))
 |_=>bad
noncomputable def il(xs:Bool×List V):Bool:=xs.1&&decide (xs.2.length<=cap)
noncomputable def ev(Φ:Fns)(τ:Tau):Nat->List (Str×NameKind)->Rho->Expr->R
 |0,_,_,_=>bad
 |n+1,κ,ρ,e=>match e with
  | .Constant c _ _=>pP c
  | .Name x _=>rd κ Φ ρ (nm x)
  | .BinOp a op b _=>nB (ev Φ τ n) κ ρ a op b
  | .BoolOp op es _=>match op with
    | .And=>eS (ev Φ τ n κ ρ) es
    | .Or=>mX (ev Φ τ n κ ρ) es
  | .UnaryOp op a _=>ze (ev Φ τ n κ ρ) op a
  | .IfExp t a b _=>mZ (ev Φ τ n κ ρ) t a b
  | .Compare a ops bs _=>ux (ev Φ τ n κ ρ) a ops bs
  | .Subscript o i _=>uy (ev Φ τ n) τ κ ρ o i
  | .Attribute o a _=>gE (ev Φ τ n κ ρ) o (nm a)
  | .List es _=>let xs:=cy (ev Φ τ n κ ρ) es;(il xs, .list xs.2)
  | .Tuple es _ _=>let xs:=cy (ev Φ τ n κ ρ) es;(il xs, .tup xs.2)
  | .ListComp elt gs scope _=>ik (ev Φ τ n) κ ρ elt gs scope
  | .Call f as kw pos=>match kw with
    |[]=>jz Φ (ev Φ τ n) κ ρ f as pos
    |_=>bad
  |_=>bad
inductive em where
 |next (ρ:Rho)|brk (ρ:Rho)|ret (v:V)|bad
noncomputable abbrev Res:=Bool×em
noncomputable def seq(r:Res)(k:Rho->Res):Res:=match r.2 with
 | .next ρ=>let q:=k ρ;(r.1&&q.1,q.2)
 |o=>(r.1,o)
noncomputable def fu(f:Expr->List Nm):List Expr->List Nm
 |[]=>[]
 |e::es=>f e++fu f es
noncomputable def Bo(f:Expr->List Nm):Option Expr->List Nm
 |none=>[]
 |some e=>f e
noncomputable def pQ(f:Expr->List Nm):Expr->List Nm
 | .Name _ _=>[]
 |e=>f e
noncomputable def CT:Expr->Bool
 | .Name x _=>af (nm x) (nm "len")
 |_=>false
noncomputable def zf(scope:Scope):List Nm:=scope.names.filterMap λ(x,k)=>match k with| .free=>some (nm x)|_=>none
noncomputable def aB:Nat->Expr->List Nm
 |0,_=>[]
 |n+1,e=>match e with
  | .Name x _=>[nm x]
  | .BinOp a op b _=>(match op with| .Add=>pQ (aB n) a|_=>aB n a)++aB n b
  | .BoolOp _ es _=>fu (aB n) es
  | .UnaryOp _ a _=>aB n a
  | .IfExp t a b _=>aB n t++aB n a++aB n b
  | .Compare a _ bs _=>aB n a++fu (aB n) bs
  | .Subscript o i _=>match i with
    | .Slice lo hi st _=>aB n o++Bo (aB n) lo++Bo (aB n) hi++Bo (aB n) st
    |i=>pQ (aB n) o++aB n i
  | .Attribute o _ _=>aB n o
  | .List es _=>fu (aB n) es
  | .Tuple es _ _=>fu (aB n) es
  | .ListComp _ gs scope _=>zf scope++gs.flatMap λg=>aB n g.iter
  | .Call f as _ _=>match f with
    | .Attribute o _ _=>aB n o++fu (aB n) as
    |f=>bif CT f then fu (pQ (aB n)) as else fu (aB n) as
  |_=>[]
noncomputable def qP:Expr->Option (Str×Expr)
 | .Call f as kw pos=>match f with
   | .Attribute o m q=>match o with
     | .Name x _=>match as with
       |[]=>none
       |a::as=>bif af (nm m) (nm "append")&&(q.endLine==pos.line)&&as.isEmpty&&kw.isEmpty then some (x,a)else none
     |_=>none
   |_=>none
 |_=>none
noncomputable def zg(e:Expr):List Nm:=match qP e with
 |some (x,_)=>[nm x]
 |none=>[]
noncomputable def lq:Expr->List Nm
 | .Name x _=>[nm x]
 | .Tuple ts _ _=>ts.filterMap nmT
 | .Subscript (.Name x _) _ _=>[nm x]
 |_=>[]
noncomputable def aC(f:Stmt->List Nm):List Stmt->List Nm
 |[]=>[]
 |s::r=>f s++aC f r
theorem jA{f:Stmt->List Nm}{s:Stmt}{r:List Stmt}:aC f (s::r)=f s++aC f r:=rfl
noncomputable def c9:Nat->Stmt->List Nm
 |0,_=>[]
 |n+1,s=>match s with
  | .Assign ts _ _=>ts.flatMap lq
  | .AugAssign t _ _ _=>lq t
  | .For t _ b _ _=>lq t++aC (c9 n) b
  | .While _ b _ _=>aC (c9 n) b
  | .If _ a b _=>aC (c9 n) a++aC (c9 n) b
  | .Expr e _=>zg e
  |_=>[]
noncomputable def nD(f:Stmt->Bool):List Stmt->Bool
 |[]=>false
 |s::r=>f s||nD f r
noncomputable def w7:Nat->Stmt->Bool
 |0,_=>true
 |n+1,s=>match s with
  | .Return _ _=>true
  | .Break _=>true
  | .Continue _=>true
  | .For _ _ b _ _=>nD (w7 n) b
  | .While _ b _ _=>nD (w7 n) b
  | .If _ a b _=>nD (w7 n) a||nD (w7 n) b
  |_=>false
noncomputable def aq(f:Stmt->Bool):List Stmt->Bool
 |[]=>true
 |s::r=>f s&&aq f r
theorem uz{f:Stmt->Bool}{s:Stmt}{r:List Stmt}:aq f (s::r)=(f s&&aq f r):=rfl
noncomputable def fits:Nat->Stmt->Bool
 |0,_=>false
 |n+1,s=>match s with
  | .For _ _ b _ _=>aq (fits n) b
  | .While _ b _ _=>aq (fits n) b
  | .If _ a b _=>aq (fits n) a&&aq (fits n) b
  |_=>true
noncomputable def uA:Expr->Bool
 | .List _ _=>true
 |_=>false
noncomputable def w8(o:Option (Str×List Expr)):Bool:=match o with
 |some (f,as)=>af (nm f) (nm "list")&&(iN as).isSome
 |none=>false
noncomputable def fW(e:Expr):Bool:=match e with
 | .List _ _=>true
 | .BinOp a op _ _=>match op with
   | .Add=>true
   | .Mult=>uA a
   |_=>false
 |e=>w8 (fo e)
noncomputable def fX(μ:List Nm)(x:Nm)(e:Expr)(v:V):Slot:=match v with
 | .list l=>bif iM x μ&&fW e then .own l else .val (.list l)
 |v => .val v
noncomputable def cE(es:List Expr):Bool:=es.all (constantsAlone 8) && !es.all (foldedForSure 8)
noncomputable def w9(μ:List Nm)(x:Nm):Expr->Bool
 | .List es _=>es.isEmpty&&iM x μ
 |_=>false
noncomputable def xa(o:Bool)(v:V):Slot:=bif o then .own []else .val v
noncomputable def dG(μ:List Nm):List Expr->List Expr->List V->Rho->Bool×Rho
 |[],[],[],ρ=>(true,ρ)
 | .Name x _::ts,e::es,v::vs,ρ=>dG μ ts es vs (put ρ (nm x) (xa (w9 μ (nm x) e) v))
 |_,_,_,ρ=>(false,ρ)
noncomputable def qQ(v:V):List Expr->Rho->Bool×Rho
 |[],ρ=>(true,ρ)
 | .Name x _::ts,ρ=>qQ v ts (put ρ (nm x) (.val v))
 |_,ρ=>(false,ρ)
noncomputable def gS(l:List V)(k:Nat)(v:V):List V:=l.set k v
noncomputable def j0:Expr->Option (List Expr)
 | .Tuple es _ _=>some es
 |_=>none
noncomputable def fH(κ:List (Str×NameKind))(ns:List Nm):Bool:=ns.all λx=>ae (kd κ x)
noncomputable def Bp(ok:Bool)(ρ:Rho)(x:Nm)(l:List V)(v:R):V->Res
 | .int j=>(v.1&&ok&&(decide (0<=j)&&decide (j<l.length)&&decide (l.length<=cap)), .next (put ρ x (.own (gS l j.toNat v.2))))
 |_=>(false, .bad)
noncomputable def zh(ok:Bool)(ρ:Rho)(x:Nm)(k v:R):Slot->Res
 | .own l=>Bp (ok&&k.1) ρ x l v k.2
 |_=>(false, .bad)
noncomputable def Ej(E:Expr->R)(κ:List (Str×NameKind))(ρ:Rho)(o i e:Expr):Res:=match o with
 | .Name x _=>zh (ae (kd κ (nm x))) ρ (nm x) (E i) (E e) (lk ρ (nm x))
 |_=>(false, .bad)
noncomputable def zi(E:Expr->R)(κ:List (Str×NameKind))(μ:List Nm)(ρ:Rho)(ts:List Expr)(e:Expr):Option (List Expr)->Res
 |some es=>let xs:=cy E es;let q:=dG μ ts es xs.2 ρ;(il xs&&q.1&&((!cE es)&&dQ (az (.Tuple ts 0 default))&&fH κ (az (.Tuple ts 0 default))), .next q.2)
 |none=>let v:=E e;let q:=aT (.Tuple ts 0 default) v.2 ρ;(v.1&&q.1&&fH κ (az (.Tuple ts 0 default)), .next q.2)
noncomputable def zj(E:Expr->R)(κ:List (Str×NameKind))(μ:List Nm)(ρ:Rho)(t e:Expr):Res:=match t with
 | .Name x _=>let v:=E e;(v.1&&ae (kd κ (nm x)), .next (put ρ (nm x) (fX μ (nm x) e v.2)))
 | .Tuple ts _ _=>zi E κ μ ρ ts e (j0 e)
 | .Subscript o i _=>Ej E κ ρ o i e
 |_=>(false, .bad)
noncomputable def AI(E:Expr->R)(κ:List (Str×NameKind))(ρ:Rho)(ts:List Expr)(e:Expr):Res:=
 let v:=E e;let q:=qQ v.2 ts ρ
 (v.1&&q.1&&fH κ (ts.flatMap az), .next q.2)
noncomputable def ds(E:Expr->R)(κ:List (Str×NameKind))(μ:List Nm)(ρ:Rho)(ts:List Expr)(e:Expr):Res:=match ts with
 |[]=>(false, .bad)
 |t::ts=>match ts with
  |[]=>zj E κ μ ρ t e
  |t2::ts=>match ts with
   |[]=>AI E κ ρ [t,t2] e
   |t3::ts=>match ts with
    |[]=>AI E κ ρ [t,t2,t3] e
    |_::_=>(false, .bad)
noncomputable def Bq:Operator->Bool
 | .Add=>true
 | .Sub=>true
 |_=>false
noncomputable def CU:Operator->Bool
 | .Add=>true
 |_=>false
noncomputable def nE(op:Operator):V->Bool
 | .int _=>Bq op
 | .str _=>CU op
 |_=>false
noncomputable def nF(E:Expr->R)(κ:List (Str×NameKind))(Φ:Fns)(ρ:Rho)(t:Expr)(op:Operator)(e:Expr):Res:=match t with
 | .Name x _=>
   let old:=rd κ Φ ρ (nm x);let v:=E e;let r:=bW op old.2 v.2
   (ae (kd κ (nm x))&&old.1&&v.1&&r.1&&nE op old.2, .next (put ρ (nm x) (.val r.2)))
 |_=>(false, .bad)
noncomputable def zk(ok:Bool)(ρ:Rho)(x:Nm)(v:R):Slot->Res
 | .own l=>(v.1&&ok&&decide (l.length<=cap), .next (put ρ x (.own (l++[v.2]))))
 |_=>(false, .bad)
noncomputable def CV(E:Expr->R)(κ:List (Str×NameKind))(ρ:Rho):Option (Str×Expr)->Res
 |some (x,a)=>zk (ae (kd κ (nm x))) ρ (nm x) (E a) (lk ρ (nm x))
 |none=>(false, .bad)
noncomputable def lr(E:Expr->R)(κ:List (Str×NameKind))(ρ:Rho)(e:Expr):Res:=CV E κ ρ (qP e)
noncomputable def bK(f:V->Rho->Res)(ρ₀:Rho):List V->Rho->Res
 |[],ρ=>(true, .next ρ)
 |x::xs,ρ=>
  let q:=f x ρ
  match q.2 with
  | .next ρ'=>let r:=bK f ρ₀ xs (mask ρ₀ ρ');(q.1&&r.1,r.2)
  | .brk ρ'=>(q.1, .next (mask ρ₀ ρ'))
  |o=>(q.1,o)
noncomputable def bE(t:Rho->R)(f:Rho->Res):Nat->Rho->Res
 |0,_=>(false, .bad)
 |n+1,ρ=>
  let z:=t ρ;let c:=aa z.2
  bif c.2 then
   let q:=f ρ
   match q.2 with
   | .next ρ'=>let r:=bE t f n ρ';(z.1&&c.1&&q.1&&r.1,r.2)
   | .brk ρ'=>(z.1&&c.1&&q.1, .next ρ')
   |o=>(z.1&&c.1&&q.1,o)
  else(z.1&&c.1, .next ρ)
theorem iP{t:Rho->R}{f:Rho->Res}{n:Nat}{ρ:Rho}:bE t f (n+1) ρ=bif (aa (t ρ).2).2 then em.casesOn (f ρ).2 (λρ'=>((t ρ).1&&(aa (t ρ).2).1&&(f ρ).1&&(bE t f n ρ').1,(bE t f n ρ').2)) (λρ'=>((t ρ).1&&(aa (t ρ).2).1&&(f ρ).1, .next ρ')) (λv=>((t ρ).1&&(aa (t ρ).2).1&&(f ρ).1, .ret v)) ((t ρ).1&&(aa (t ρ).2).1&&(f ρ).1, .bad)else((t ρ).1&&(aa (t ρ).2).1, .next ρ):=by
 show(bif _ then(match(f ρ).2 with| .next ρ'=>_| .brk ρ'=>_|o=>_)else _)=_;generalize (f ρ).2=o
 induction o using em.casesOn<;>rfl
theorem fY{f:V->Rho->Res}{ρ₀ ρ:Rho}{x:V}{xs:List V}:bK f ρ₀ (x::xs) ρ=em.casesOn (f x ρ).2 (λρ'=>((f x ρ).1&&(bK f ρ₀ xs (mask ρ₀ ρ')).1,(bK f ρ₀ xs (mask ρ₀ ρ')).2)) (λρ'=>((f x ρ).1, .next (mask ρ₀ ρ'))) (λv=>((f x ρ).1, .ret v)) ((f x ρ).1, .bad):=by
 show(match(f x ρ).2 with| .next ρ'=>_| .brk ρ'=>_|o=>_)=_;generalize (f x ρ).2=o
 induction o using em.casesOn<;>rfl
noncomputable def nG(ns:List Nm)(okc c:Bool)(a b:Res):Res:=match a.2,b.2 with
 | .next ρ, .next ρ'=>(okc&&(bif c then a.1 else b.1), .next (et ns c ρ ρ'))
 |_,_=>(false, .bad)
noncomputable def iQ(okc c:Bool)(a b:Res):Res:=(okc&&(bif c then a.1 else b.1),bif c then a.2 else b.2)
noncomputable def aI(s:List Stmt):Bool := !nD (w7 20) s
noncomputable def ex(Φ:Fns)(τ:Tau)(μ:List Nm)(W:Nat)(κ:List (Str×NameKind)):Nat->List Stmt->Rho->Res
 |0,_,_=>(false, .bad)
 |n+1,ss,ρ=>match ss with
  |[]=>(true, .next ρ)
  |s::rest=>match s with
   | .Assign ts e _=>let ρ:=freeze (aB 40 e) ρ
     seq (ds (ev Φ τ 40 κ ρ) κ μ ρ ts e) (ex Φ τ μ W κ n rest)
   | .AugAssign t op e _=>let ρ:=freeze (aB 40 e) ρ
     seq (nF (ev Φ τ 40 κ ρ) κ Φ ρ t op e) (ex Φ τ μ W κ n rest)
   | .Expr e _=>let ρ:=freeze (match e with| .Call _ as _ _=>fu (aB 40) as|_=>[]) ρ
     seq (lr (ev Φ τ 40 κ ρ) κ ρ e) (ex Φ τ μ W κ n rest)
   | .Pass _=>ex Φ τ μ W κ n rest ρ
   | .Break _=>(true, .brk ρ)
   | .Return v _=>match v with
     |some e=>let ρ:=freeze (aB 40 e) ρ
      let x:=ev Φ τ 40 κ ρ e
      (x.1, .ret x.2)
     |none=>(true, .ret .none)
   | .If t a b _=>let ρ:=freeze (aB 40 t) ρ
     let c:=ev Φ τ 40 κ ρ t
     bif aI a&&aI b&&aq (fits 20) a&&aq (fits 20) b then
      seq (nG (aC (c9 20) a++aC (c9 20) b) (c.1&&(aa c.2).1) (aa c.2).2 (ex Φ τ μ W κ n a ρ) (ex Φ τ μ W κ n b ρ)) (ex Φ τ μ W κ n rest)
     else iQ (c.1&&(aa c.2).1) (aa c.2).2 (ex Φ τ μ W κ n (a++rest) ρ) (ex Φ τ μ W κ n (b++rest) ρ)
   | .For t it b els _=>match els with
     |[]=>let ρ:=freeze (aB 40 it) ρ
      let xs:=aQ κ (ev Φ τ 40 κ ρ) t it
      seq (let r:=bK (λv ρ=>let q:=aT t v ρ
       let r:=ex Φ τ μ W κ n b q.2
       (q.1&&r.1,r.2)) ρ xs.2 ρ
       (xs.1&&fH κ (az t)&&r.1,r.2)) (ex Φ τ μ W κ n rest)
     |_=>(false, .bad)
   | .While t b els _=>match els with
     |[]=>let ρ:=freeze (aB 40 t) ρ
      seq (bE (λρ=>ev Φ τ 40 κ ρ t) (ex Φ τ μ W κ n b) W ρ) (ex Φ τ μ W κ n rest)
     |_=>(false, .bad)
   |_=>(false, .bad)
noncomputable def bX(κ:List (Str×NameKind)):List (Nm×V)->Rho
 |bs=>κ.filterMap λ(x,k)=>bif ae (some k)then some (nm x,match kK bs (nm x)with|some v => .val v|none => .un)else none
noncomputable def iR(r:Res):R:=match r.2 with
 | .ret v=>(r.1,v)
 | .next _=>(r.1, .none)
 |_=>bad
noncomputable def Ek:List Expr->List Nm
 |[.Subscript (.Name x _) _ _]=>[nm x]
 |_=>[]
noncomputable def El:Stmt->List Nm
 | .Assign ts _ _=>Ek ts
 | .Expr e _=>zg e
 |_=>[]
noncomputable def gT:Nat->Stmt->List Nm
 |0,_=>[]
 |n+1,s=>match s with
  | .For _ _ b _ _=>aC (gT n) b
  | .While _ b _ _=>aC (gT n) b
  | .If _ a b _=>aC (gT n) a++aC (gT n) b
  |s=>El s
structure Def where
 params:List Nm
 body:List Stmt
 κ:List (Str×NameKind)
noncomputable def kB:List Nm->List V->List (Nm×V)
 |x::l,v::r=>(x,v)::kB l r
 |_,_=>[]
noncomputable def bY(Φ:Fns)(τ:Tau)(W:Nat)(d:Def)(as:List V):R:=
 let r:=iR (ex Φ τ (aC (gT 20) d.body) W d.κ 200 d.body (bX d.κ (kB d.params as)))
 (Nat.beq d.params.length as.length&&r.1,r.2)
structure Cfg where
 p:Program
 w:World
 C:Addr
 h0:Heap
noncomputable abbrev zl(u:Value)(i:Int):Prop:=∃t,u = .int i t
inductive jB{α β:Type}(F:α->β->Prop):List α->List β->Prop
 |nil:jB F [] []
 |cons {a b l r}:F a b->jB F l r->jB F (a::l) (b::r)
inductive pR(G:Cfg)(X:Addr->Prop)(h:Heap)(a:Addr)(raw:List Nat)(n nt:Int)(cnt:List Int)(b:Int)(sm:Bool):Prop
 |mk (o:Obj) (d:Addr) (m:Str->Option Value) (T T2:Addr) (t:Tok) (vs:Array Value) (_:h.get? a=some o) (_:o.cls = .ref G.C) (_:o.dict=some d) (_:∀c,o.data ≠ .cls c) (_:d≠a) (_:¬X d) (_:h.Ns1 d m)
  (_:∀x:Str,x≠"raw"->x≠"n"->x≠"nt"->x≠"norm"->x≠"is_simple"->m x=none)
  (_:∃t,m "raw"=some (.str (tx raw) t)) (_:∃t,m "n"=some (.int n t)) (_:∃t,m "nt"=some (.int nt t)) (_:m "norm"=some (.ref T)) (_:m "is_simple"=some (.bool sm))
  (_:¬X T) (_:h.IsTuple T #[.ref T2, .int b t]) (_:¬X T2) (_:h.IsTuple T2 vs) (_:jB zl vs.toList cnt)
inductive uB(G:Cfg)(X:Addr->Prop)(h:Heap)(a:Addr)(raw:List Nat):Prop
 |mk (o:Obj) (d:Addr) (m:Str->Option Value) (t:Tok) (_:h.get? a=some o) (_:o.cls = .ref G.C) (_:o.dict=some d) (_:∀c,o.data ≠ .cls c) (_:d≠a) (_:¬X d) (_:h.Ns1 d m)
  (_:m "raw"=some (.str (tx raw) t)) (_:∀x:Str,x≠"raw"->m x=none)
mutual
noncomputable def ah(G:Cfg)(X:Addr->Prop)(h:Heap):V->Value->Prop
 | .none,u=>u = .none
 | .bool b,u=>u = .bool b
 | .int i,u=>∃t,u = .int i t
 | .str s,u=>∃t,u = .str (tx s) t
 | .list l,u=>∃a vs,u = .ref a/\¬X a/\h.IsList a vs/\Reps G X h l vs.toList
 | .tup l,u=>∃a vs,u = .ref a/\¬X a/\h.IsTuple a vs/\Reps G X h l vs.toList
 | .ws raw n nt cnt b sm,u=>∃a,u = .ref a/\¬X a/\pR G X h a raw n nt cnt b sm
 | .obj a raw,u=>u = .ref a/\¬X a/\uB G X h a raw
 | .cls,u=>u = .ref G.C
noncomputable def Reps(G:Cfg)(X:Addr->Prop)(h:Heap):List V->List Value->Prop
 |[],vs=>vs=[]
 |x::l,vs=>∃v r,vs=v::r/\ah G X h x v/\Reps G X h l r
end
section
variable {G:Cfg} {X X':Addr->Prop} {h h':Heap}
structure On(X X':Addr->Prop)(h h':Heap):Prop where
 keep:∀b o,¬X b->h.get? b=some o->h'.get? b=some o
 off:∀b o,h.get? b=some o->X' b->X b
theorem On.nx{b:Addr}{o:Obj}(e:On X X' h h')(n:¬X b)(g:h.get? b=some o):¬X' b:=λx=>n (e.off b o g x)
theorem On.list{a:Addr}{vs:Array Value}(e:On X X' h h')(n:¬X a)(x:h.IsList a vs):¬X' a/\h'.IsList a vs:=
 let⟨o,g,r⟩:=x;⟨e.nx n g,o,e.keep a o n g,r⟩
theorem On.tuple{a:Addr}{vs:Array Value}(e:On X X' h h')(n:¬X a)(x:h.IsTuple a vs):¬X' a/\h'.IsTuple a vs:=
 let⟨o,g,r⟩:=x;⟨e.nx n g,o,e.keep a o n g,r⟩
theorem On.ws{a:Addr}{raw n nt cnt b sm}(e:On X X' h h')(q:¬X a)(x:pR G X h a raw n nt cnt b sm):¬X' a/\pR G X' h' a raw n nt cnt b sm:=by
 obtain⟨o,d,m,T,T2,t,vs,g,h1,h2,h3,h4,h5,h6,h60,h7,h8,h9,h10,h11,h12,h13,h14,h15,h16⟩:=x;have t1:=e.tuple h12 h13;have t2:=e.tuple h14 h15;obtain⟨od,es,ep,gd,rd⟩:=h6;exact⟨e.nx q g,⟨o,d,m,T,T2,t,vs,e.keep a o q g,h1,h2,h3,h4,e.nx h5 gd,⟨od,es,ep,e.keep d od h5 gd,rd⟩,h60,h7,h8,h9,h10,h11,t1.1,t1.2,t2.1,t2.2,h16⟩⟩
theorem On.obj{a:Addr}{raw}(e:On X X' h h')(q:¬X a)(x:uB G X h a raw):¬X' a/\uB G X' h' a raw:=by
 obtain⟨o,d,m,t,g,h1,h2,h3,h4,h5,h6,h7,h8⟩:=x;obtain⟨od,es,ep,gd,rd⟩:=h6;exact⟨e.nx q g,⟨o,d,m,t,e.keep a o q g,h1,h2,h3,h4,e.nx h5 gd,⟨od,es,ep,e.keep d od h5 gd,rd⟩,h7,h8⟩⟩
theorem ah.none_iff{u}:ah G X h .none u↔u = .none:=Iff.rfl
theorem ah.bool_iff{b u}:ah G X h (.bool b) u↔u = .bool b:=Iff.rfl
theorem ah.int_iff{i u}:ah G X h (.int i) u ↔ ∃t,u = .int i t:=Iff.rfl
theorem ah.str_iff{s u}:ah G X h (.str s) u ↔ ∃t,u = .str (tx s) t:=Iff.rfl
theorem ah.list_iff{l u}:ah G X h (.list l) u ↔ ∃a vs,u = .ref a/\¬X a/\h.IsList a vs/\Reps G X h l vs.toList:=Iff.rfl
theorem ah.tup_iff{l u}:ah G X h (.tup l) u ↔ ∃a vs,u = .ref a/\¬X a/\h.IsTuple a vs/\Reps G X h l vs.toList:=Iff.rfl
theorem ah.ws_iff{raw n nt cnt b sm u}:ah G X h (.ws raw n nt cnt b sm) u ↔ ∃a,u = .ref a/\¬X a/\pR G X h a raw n nt cnt b sm:=Iff.rfl
theorem ah.obj_iff{a raw u}:ah G X h (.obj a raw) u↔u = .ref a/\¬X a/\uB G X h a raw:=Iff.rfl
theorem ah.cls_iff{u}:ah G X h .cls u↔u = .ref G.C:=Iff.rfl
theorem Reps.nil_iff{vs}:Reps G X h [] vs↔vs=[]:=Iff.rfl
theorem Reps.cons_iff{x l vs}:Reps G X h (x::l) vs ↔ ∃v r,vs=v::r/\ah G X h x v/\Reps G X h l r:=Iff.rfl
mutual
theorem ah.on(e:On X X' h h'):∀{v:V} {u:Value},ah G X h v u->ah G X' h' v u
 | .none,u,x=>x
 | .bool b,u,x=>x
 | .int i,u,x=>x
 | .str s,u,x=>x
 | .list l,u,x=>by
   obtain⟨a,vs,e1,n,hl,r⟩:=ah.list_iff.mp x;exact ah.list_iff.mpr ⟨a,vs,e1,(e.list n hl).1,(e.list n hl).2,Reps.on e r⟩
 | .tup l,u,x=>by
   obtain⟨a,vs,e1,n,hl,r⟩:=ah.tup_iff.mp x;exact ah.tup_iff.mpr ⟨a,vs,e1,(e.tuple n hl).1,(e.tuple n hl).2,Reps.on e r⟩
 | .ws raw k nt cnt b sm,u,x=>by
   obtain⟨a,e1,n,y⟩:=ah.ws_iff.mp x;exact ah.ws_iff.mpr ⟨a,e1,e.ws n y⟩
 | .obj a raw,u,x=>ah.obj_iff.mpr ⟨(ah.obj_iff.mp x).1,e.obj (ah.obj_iff.mp x).2.1 (ah.obj_iff.mp x).2.2⟩
 | .cls,u,x=>x
theorem Reps.on(e:On X X' h h'):∀{l:List V} {vs:List Value},Reps G X h l vs->Reps G X' h' l vs
 |[],vs,x=>x
 |y::l,vs,x=>by
  obtain⟨v,r,e1,h1,h2⟩:=Reps.cons_iff.mp x;exact Reps.cons_iff.mpr ⟨v,r,e1,ah.on e h1,Reps.on e h2⟩
end
theorem On.of_keeps(k:∀b o,h.get? b=some o->h'.get? b=some o):On X X h h':=⟨λb o _ g=>k b o g,λ_ _ _ x=>x⟩
theorem On.trans{X'':Addr->Prop}{h'':Heap}(a:On X X' h h')(b:On X' X'' h' h''):On X X'' h h'':=
 ⟨λq o n g=>b.keep q o (a.nx n g) (a.keep q o n g),λq o g x=>by
   by_cases n:X q
   ·exact n
   ·exact absurd (b.off q o (a.keep q o n g) x) (a.nx n g)⟩
theorem Reps.cons{x:V}{l:List V}{v:Value}{r:List Value}(a:ah G X h x v)(b:Reps G X h l r):Reps G X h (x::l) (v::r):=Reps.cons_iff.mpr ⟨v,r,rfl,a,b⟩
theorem Reps.nil:Reps G X h [] []:=Reps.nil_iff.mpr rfl
theorem Reps.length:∀{l:List V} {vs:List Value},Reps G X h l vs->l.length=vs.length
 |[],vs,x=>by rw[Reps.nil_iff.mp x];rfl
 |y::l,vs,x=>by
  obtain⟨v,r,rfl,_,h2⟩:=Reps.cons_iff.mp x;simp[Reps.length h2]
theorem Reps.append:∀{l:List V} {vs:List Value} {l':List V} {vs':List Value},Reps G X h l vs->Reps G X h l' vs'->Reps G X h (l++l') (vs++vs')
 |[],vs,l',vs',x,y=>by rw[Reps.nil_iff.mp x];exact y
 |z::l,vs,l',vs',x,y=>by
  obtain⟨v,r,rfl,h1,h2⟩:=Reps.cons_iff.mp x;exact Reps.cons h1 (Reps.append h2 y)
theorem Reps.at:∀{l:List V} {vs:List Value} {k:Nat},Reps G X h l vs->k<l.length->∃u,vs[k]? = some u/\ah G X h (l.getD k .none) u
 |[],vs,k,x,hk=>by simp at hk
 |z::l,vs,k,x,hk=>by
  obtain⟨v,r,rfl,h1,h2⟩:=Reps.cons_iff.mp x
  induction k using Nat.casesOn with
  |zero=>exact⟨v,rfl,h1⟩
  |succ k=>
   obtain⟨u,e,q⟩:=Reps.at (k:=k) h2 (by simpa using hk);exact⟨u,by simpa using e,by simpa using q⟩
theorem Reps.set:∀{l:List V} {vs:List Value} {k:Nat} {x:V} {u:Value},Reps G X h l vs->ah G X h x u->Reps G X h (l.set k x) (vs.set k u)
 |[],vs,k,x,u,q,_=>by rw[Reps.nil_iff.mp q];simpa using Reps.nil
 |z::l,vs,k,x,u,q,p=>by
  obtain⟨v,r,rfl,h1,h2⟩:=Reps.cons_iff.mp q
  induction k using Nat.casesOn with
  |zero=>exact Reps.cons p h2
  |succ k=>exact Reps.cons h1 (Reps.set h2 p)
theorem Reps.drop:∀{l:List V} {vs:List Value} (k:Nat),Reps G X h l vs->Reps G X h (l.drop k) (vs.drop k)
 |l,vs,0,q=>q
 |[],vs,k+1,q=>by rw[Reps.nil_iff.mp q];exact Reps.nil
 |z::l,vs,k+1,q=>by
  obtain⟨v,r,rfl,h1,h2⟩:=Reps.cons_iff.mp q;exact Reps.drop k h2
theorem Reps.take:∀{l:List V} {vs:List Value} (k:Nat),Reps G X h l vs->Reps G X h (l.take k) (vs.take k)
 |l,vs,0,q=>by simpa using Reps.nil
 |[],vs,k+1,q=>by rw[Reps.nil_iff.mp q];exact Reps.nil
 |z::l,vs,k+1,q=>by
  obtain⟨v,r,rfl,h1,h2⟩:=Reps.cons_iff.mp q;exact Reps.cons h1 (Reps.take k h2)
end
end
section
open PySem PySem.W PySem.Calls PyProof.Rows
structure bU(env:Env)(h:Heap)(g:Str->Option Value):Prop where
 ns:∃m,h.Ns env.locals m/\∀x,env.kindOf x=some .local->g x=m x
 cell:∀x,ij (env.kindOf x)=true->∃c,env.cells.lookup x=some c/\h.IsCell c (g x)
 apart:env.cells.Pairwise λx y=>x.2≠y.2
noncomputable def du(env:Env)(b:Addr):Prop:=b=env.locals\/∃x,(x,b)∈env.cells
noncomputable def ag(env:Env)(X:Addr->Prop)(O:Nm->Option Addr)(b:Addr):Prop:=X b\/du env b\/∃x,O x=some b
theorem j1{h:Heap}{a:Addr}{m v}(x:h.Ns a m)(y:h.IsCell a v):False:=by
 obtain⟨o,es,ep,g,d,_⟩:=x;obtain⟨o',g',d'⟩:=y;rw[g]at g';cases g';rw[d]at d';cases d'
section
variable {M:Model} {A:Around} {E:Value->Shared->Prop} {s:Shared} {env:Env} {g:Str->Option Value}
theorem lu{k:Option NameKind}(h:ae k=true):k=some .local\/k=some .cell\/k=some .free:=by
 induction k using Option.casesOn with
 |none=>injections h
 |some k=>induction k using NameKind.casesOn<;>first|exact .inl rfl|exact .inr (.inl rfl)|exact .inr (.inr rfl)|injections h
theorem bZ {x:Str} {u:Value} {Q:Value->Shared->Prop} (hk:env.scope.kind = .function) (F:bU env s.heap g) (hx:ae (env.kindOf x)=true) (hn:(x==("__classdict__":Str))=false)
 (e:g x=some u) (h:Q u s):wpAny M A (loadName env x) Q E s:=by
 rcases lu hx with k|k|k
 ·obtain⟨m,hm,hg⟩:=F.ns
  exact wpAny_loadName_local hk k hm ((hg x k).symm.trans e) h
 ·obtain⟨c,hc,hv⟩:=F.cell x (by rw[k];rfl)
  exact wpAny_loadName_cell hk k hc (e▸hv) h
 ·obtain⟨c,hc,hv⟩:=F.cell x (by rw[k];rfl)
  exact wpAny_loadName_free hk k hc (e▸hv) h hn
theorem lw {name:Str} {c:Addr} {v₀:Option Value} {v:Value} {Q:Unit->Shared->Prop} (hk:env.scope.kind = .function) (hl:env.kindOf name=some .free)
 (hc:env.cells.lookup name=some c) (hv:s.heap.IsCell c v₀)
 (h:∀h',h'.IsCell c (some v)->Heap.SameBut c s.heap h'->Q () { s with heap:=h' }):wpAny M A (storeName env name v) Q E s:=by
 unfold storeName;rw[hl,hk];exact wpAny_bind (wpAny_cellOf hc (wpAny_cellSet hv h))
noncomputable def eB(env:Env)(x:Str)(c:Addr):Prop:=(c=env.locals/\env.kindOf x=some .local)\/(env.kindOf x≠some .local/\env.cells.lookup x=some c)
theorem eB.own{x:Str}{c:Addr}(p:eB env x c):du env c:=by
 rcases p with⟨e,_⟩|⟨_,e⟩
 ·exact .inl e
 ·exact .inr ⟨x,mem_of_lookup e⟩
theorem j2 {x:Str} {v:Value} {Q:Unit->Shared->Prop} (hk:env.scope.kind = .function) (F:bU env s.heap g) (hx:ae (env.kindOf x)=true)
 (h:∀h' tk c,eB env x c->bU env h' (λy=>if y=x then some v else g y)->(∀b o,b≠c->s.heap.get? b=some o->h'.get? b=some o)->(∀b o,s.heap.get? b=some o->∃o',h'.get? b=some o') ->
   Q () { s with heap:=h',toks:=tk }):wpAny M A (storeName env x v) Q E s:=by
 obtain⟨m,hm,hg⟩:=F.ns;have cellCase:∀c,env.kindOf x≠some .local->env.cells.lookup x=some c->∀h',h'.IsCell c (some v)->Heap.SameBut c s.heap h'->Q () { s with heap:=h' }:=by
  intro c hnl hc h' hv hs;have hL:env.locals≠c:=λe=>by
   obtain⟨c',hc',hcv⟩:=F.cell x (by rcases lu hx with k|k|k<;>first|exact absurd k hnl|(rw[k];rfl));rw[hc]at hc';cases hc';exact j1 (e▸hm) hcv
  refine h h' s.toks c (.inr ⟨hnl,hc⟩) ⟨⟨m,hm.sameBut hs hL,λy hy => ?_⟩,λy hy => ?_,F.apart⟩ (λb o hb e=>(hs.2 b hb).trans e) (λb o e => ?_)
  ·have:y≠x:=λe=>hnl (e▸hy)
   rw[if_neg this];exact hg y hy
  ·obtain⟨c',hc',hcv⟩:=F.cell y hy
   refine⟨c',hc', ?_⟩
   by_cases e:y=x
   ·subst e;rw[hc]at hc';cases hc';rw[if_pos rfl];exact hv
   ·rw[if_neg e]
    exact hcv.sameBut hs λq=>e (name_of_addr F.apart (mem_of_lookup hc') (q▸mem_of_lookup hc))
  ·by_cases q:b=c
   ·subst q;obtain⟨o',e',_⟩:=hv;exact⟨o',e'⟩
   ·exact⟨o,(hs.2 b q).trans e⟩
 rcases lu hx with k|k|k
 ·refine wpAny_storeName_local k hm (λh' hn' hs' => ?_) (by rw[hk];rfl)
  refine h h' _ env.locals (.inl ⟨rfl,k⟩) ⟨⟨_,hn',λy hy => ?_⟩,λy hy => ?_,F.apart⟩ (λb o hb e=>(hs'.2 b hb).trans e) (λb o e => ?_)
  ·by_cases e:y=x
   ·simp[e]
   ·simp only[if_neg e];exact hg y hy
  ·obtain⟨c,hc,hcv⟩:=F.cell y hy
   have e:y≠x:=λe=>by subst e;rw[k]at hy;injections hy
   refine⟨c,hc, ?_⟩;rw[if_neg e];exact hcv.sameBut hs' λq=>j1 (q▸hm) hcv
  ·by_cases q:b=env.locals
   ·subst q;obtain⟨o',es,ep,e',_⟩:=hn';exact⟨o',e'⟩
   ·exact⟨o,(hs'.2 b q).trans e⟩
 ·obtain⟨c,hc,hv⟩:=F.cell x (by rw[k];rfl)
  exact wpAny_storeName_cell hk k hc hv (cellCase c (by rw[k];decide) hc)
 ·obtain⟨c,hc,hv⟩:=F.cell x (by rw[k];rfl)
  exact lw hk k hc hv (cellCase c (by rw[k];decide) hc)
end
noncomputable def fJ(G:Cfg)(X:Addr->Prop)(h:Heap)(O:Option Addr):Slot->Option Value->Prop
 | .un,_=>True
 | .val v,w=>∃u,w=some u/\ah G X h v u
 | .own l,w=>∃a vs,w=some (.ref a)/\O=some a/\(∃n,h.get? a=some { cls := .type "list",data := .seq vs n })/\Reps G X h l vs.toList
structure am(env:Env)(κ:List (Str×NameKind)):Prop where
 kind:env.scope.kind = .function
 names:∀x,ae (env.kindOf x)=ae (kd κ (nm x))
 free:∀x,ij (env.kindOf x)=ij (kd κ (nm x))
 glob:∀x,aN (env.kindOf x)=aN (kd κ (nm x))
 plain:∀x,(ae (env.kindOf x)||aN (env.kindOf x))=true->(x==("__debug__":Str))=false/\(x==("__classdict__":Str))=false
 globals:env.globals=mainGlobals
 builtins:env.builtins=builtinsNs
structure bJ(G:Cfg)(env:Env)(X:Addr->Prop)(O:Nm->Option Addr)(ρ:Rho)(h:Heap):Prop where
 old:∀b o,G.h0.get? b=some o->h.get? b=some o
 new:∀b,ag env X O b->G.h0.get? b=none
 alive:∀b,ag env X O b->∃o,h.get? b=some o
 look:∃g,bU env h g/\∀x,ae (env.kindOf x)=true->fJ G (ag env X O) h (O (nm x)) (lk ρ (nm x)) (g x)
 inj:∀x y a,O x=some a->O y=some a->x=y
 apart:∀x a,O x=some a->¬X a/\¬du env a
theorem fJ.on{G:Cfg}{X X':Addr->Prop}{h h':Heap}{O:Option Addr}(e:On X X' h h')(k:∀a,O=some a->∀o,h.get? a=some o->h'.get? a=some o):∀{t:Slot} {w:Option Value},fJ G X h O t w->fJ G X' h' O t w
 | .un,_,_=>trivial
 | .val v,_,⟨u,e1,r⟩=>⟨u,e1,r.on e⟩
 | .own l,_,⟨a,vs,e1,e2,⟨n,e3⟩,r⟩=>⟨a,vs,e1,e2,⟨n,k a e2 _ e3⟩,Reps.on e r⟩
theorem bU.keeps{env:Env}{h h':Heap}{g}(F:bU env h g)(k:∀b o,h.get? b=some o->h'.get? b=some o):bU env h' g:=
 ⟨let⟨m,hm,e⟩:=F.ns;⟨m,hm.keeps k,e⟩,λx hx=>let⟨c,hc,hv⟩:=F.cell x hx;⟨c,hc,hv.keeps k⟩,F.apart⟩
theorem bJ.keeps{G:Cfg}{env:Env}{X O ρ}{h h':Heap}(S:bJ G env X O ρ h)(k:∀b o,h.get? b=some o->h'.get? b=some o):bJ G env X O ρ h' where
 old:=λb o e=>k b o (S.old b o e)
 new:=S.new
 alive:=λb hb=>let⟨o,e⟩:=S.alive b hb;⟨o,k b o e⟩
 look:=let⟨g,F,r⟩:=S.look;⟨g,F.keeps k,λx hx=>(r x hx).on (On.of_keeps k) λa _ o e=>k a o e⟩
 inj:=S.inj
 apart:=S.apart
theorem Kp.refl(s:Shared):Keeps s s:=⟨s.heap,s.toks,rfl,λ_ _ e=>e⟩
theorem Kp.trans{a b c:Shared}(x:Keeps a b)(y:Keeps b c):Keeps a c:=by
 obtain⟨h,t,rfl,k⟩:=x;obtain⟨h',t',rfl,k'⟩:=y;exact⟨h',t',rfl,λb o e=>k' b o (k b o e)⟩
theorem Kp.keep{a b:Shared}(x:Keeps a b):∀q o,a.heap.get? q=some o->b.heap.get? q=some o:=by
 obtain⟨h,t,rfl,k⟩:=x;exact k
theorem Kp.toks(s:Shared)(t:Nat):Keeps s { s with toks:=t }:=⟨s.heap,t,rfl,λ_ _ e=>e⟩
theorem Kp.push(s:Shared)(o:Obj)(t:Nat):Keeps s { s with heap:=s.heap.push o,toks:=t }:=⟨_,t,rfl,λ_ _ e=>Heap.get?_push_of_some _ e⟩
theorem Kp.heap{s:Shared}{h':Heap}(t:Nat)(k:∀b o,s.heap.get? b=some o->h'.get? b=some o):Keeps s { s with heap:=h',toks:=t }:=⟨h',t,rfl,k⟩
noncomputable def gF(G:Cfg)(A:Around)(env:Env)(X:Addr->Prop)(ρ:Rho)(t:Sem Value)(v:V):Prop:=
 ∀O s,bJ G env X O ρ s.heap->∀(E:Value->Shared->Prop) (Q:Value->Shared->Prop),(∀u s',Keeps s s'->ah G (ag env X O) s'.heap v u->Q u s')->wpAny (model G.p G.w) A t Q E s
structure fv(n:Nat)(A:Around):Prop where
 none:A.handled=none
 depth:A.depth+n<recursionLimit
 units:A.units+8*n+200<cLine
end
section
open PySem PySem.W PySem.Calls PyProof.Rows
noncomputable def an(G:Cfg)(A:Around)(X:Addr->Prop)(t:Sem Value)(v:V)(s:Shared):Prop:=
 ∀(E:Value->Shared->Prop) (Q:Value->Shared->Prop),(∀u s',Keeps s s'->ah G X s'.heap v u->Q u s')->wpAny (model G.p G.w) A t Q E s
noncomputable def aF(X:Addr->Prop)(h:Heap):Prop:=∀b,X b->∃o,h.get? b=some o
theorem aF.fresh{X:Addr->Prop}{h:Heap}(a:aF X h):¬X h.objs.size:=λx=>by
 obtain⟨o,e⟩:=a _ x;exact Nat.lt_irrefl _ (Heap.lt_size e)
theorem aF.keeps{X:Addr->Prop}{h h':Heap}(a:aF X h)(k:∀b o,h.get? b=some o->h'.get? b=some o):aF X h':=λb x=>let⟨o,e⟩:=a b x;⟨o,k b o e⟩
theorem dg(h:Heap)(o:Obj):∀b o',h.get? b=some o'->(h.push o).get? b=some o':=λ_ _ e=>Heap.get?_push_of_some _ e
section
variable {G:Cfg} {A:Around} {X:Addr->Prop} {s:Shared}
theorem bO{l:List V}{vs:List Value}(a:aF X s.heap)(r:Reps G X s.heap l vs):
 ah G X (s.heap.push { cls := .type "list",data := .seq vs.toArray }) (.list l) (.ref s.heap.objs.size):=
 ah.list_iff.mpr ⟨_,vs.toArray,rfl,a.fresh,⟨_,Heap.get?_push_size _ rfl,rfl,_,rfl⟩,by simpa using Reps.on (On.of_keeps (dg _ _)) r⟩
theorem iS{l:List V}{vs:List Value}(a:aF X s.heap)(r:Reps G X s.heap l vs):
 ah G X (s.heap.push { cls := .type "tuple",data := .seq vs.toArray }) (.tup l) (.ref s.heap.objs.size):=
 ah.tup_iff.mpr ⟨_,vs.toArray,rfl,a.fresh,⟨_,Heap.get?_push_size _ rfl,rfl,_,rfl⟩,by simpa using Reps.on (On.of_keeps (dg _ _)) r⟩
theorem aw(s:List Nat):(tx s).length=s.length:=by simp[tx,Str.length]
theorem nH(a b:List Nat):tx (a++b)=tx a++tx b:=by
 unfold tx;show Str.mk _=Str.mk (a.toArray++b.toArray);simp
theorem Br{a b:List Nat}(h:tx a=tx b):a=b:=by
 simp only[tx,Str.mk.injEq]at h
 simpa using congrArg Array.toList h
theorem sW(a b:List Nat):(tx a==tx b)=AH a b:=by
 cases h:AH a b with
 |true=>rw[ai.mp h];simp
 |false=>
  rw[beq_eq_false_iff_ne];intro e;rw[Br e]at h;rw[show AH b b=true from ai.mpr rfl]at h;injections h
theorem AJ(x:Str):tx (nm x)=x:=by cases x;simp[tx,nm]
theorem b0{n:Nat}(h:n<=cap):n<=sizeLine:=by rw[sizeLine_eq];unfold cap at h;omega
theorem aP{t:Sem Value}{i:Int}(h:∀(E:Value->Shared->Prop) (Q:Value->Shared->Prop),(∀k tk,Q (.int i k) { s with toks:=tk })->wpAny (model G.p G.w) A t Q E s):an G A X t (.int i) s:=
 λE Q q=>h E Q λk tk=>q _ _ (Kp.toks s tk) (ah.int_iff.mpr ⟨k,rfl⟩)
theorem cF{t:Sem Value}{x:List Nat}(h:∀(E:Value->Shared->Prop) (Q:Value->Shared->Prop),(∀k tk,Q (.str (tx x) k) { s with toks:=tk })->wpAny (model G.p G.w) A t Q E s):an G A X t (.str x) s:=
 λE Q q=>h E Q λk tk=>q _ _ (Kp.toks s tk) (ah.str_iff.mpr ⟨k,rfl⟩)
theorem qS{t:Sem Value}{b:Bool}(h:∀(E:Value->Shared->Prop) (Q:Value->Shared->Prop),(∀tk,Q (.bool b) { s with toks:=tk })->wpAny (model G.p G.w) A t Q E s):an G A X t (.bool b) s:=
 λE Q q=>h E Q λtk=>q _ _ (Kp.toks s tk) (ah.bool_iff.mpr rfl)
noncomputable def Seen(G:Cfg)(X:Addr->Prop)(h:Heap):V->Value->Prop
 | .list l,u=>∃a vs,u = .ref a/\h.IsList a vs/\Reps G X h l vs.toList
 |v,u=>ah G X h v u
theorem Seen.of{h:Heap}{v:V}{u:Value}(r:ah G X h v u):Seen G X h v u:=by
 induction v using V.casesOn with
 |list l=>obtain⟨a,vs,e,_,hl,rr⟩:=ah.list_iff.mp r;exact⟨a,vs,e,hl,rr⟩
 |_=>exact r
theorem Seen.keeps{h h':Heap}{v:V}{u:Value}(k:∀b o,h.get? b=some o->h'.get? b=some o)(r:Seen G X h v u):Seen G X h' v u:=by
 induction v using V.casesOn with
 |list l=>obtain⟨a,vs,e,⟨o,ho,hr⟩,rr⟩:=r;exact⟨a,vs,e,⟨o,k _ _ ho,hr⟩,Reps.on (On.of_keeps k) rr⟩
 |_=>exact ah.on (On.of_keeps k) r
theorem Seen.int{h:Heap}{i:Int}{u:Value}(r:Seen G X h (.int i) u):∃t,u = .int i t:=ah.int_iff.mp (show ah G X h (.int i) u from r)
theorem Seen.str{h:Heap}{x:List Nat}{u:Value}(r:Seen G X h (.str x) u):∃t,u = .str (tx x) t:=ah.str_iff.mp (show ah G X h (.str x) u from r)
theorem lx {l l':List V} {u u':Value} (h1:Seen G X s.heap (.list l) u) (h2:ah G X s.heap (.list l') u') (hs:l.length+l'.length<=cap)
 (E:Value->Shared->Prop) (Q:Value->Shared->Prop) (q':∀vs tk,Reps G X s.heap (l++l') vs->Q (.ref s.heap.objs.size) { s with heap:=s.heap.push { cls := .type "list",data := .seq vs.toArray },toks:=tk }):
 wpAny (model G.p G.w) A (binaryOp .Add u u') Q E s:=by
 obtain⟨p,vs,rfl,hl,r1⟩:=h1;obtain⟨q,ws,rfl,n2,hb,r2⟩:=ah.list_iff.mp h2;have k:=q' _ s.toks (Reps.append r1 r2);obtain⟨⟨cls,dd,data,sl⟩,ho,hc,n,hd⟩:=hl;obtain⟨⟨cls2,dd2,data2,sl2⟩,ho2,hc2,n2,hd2⟩:=hb;simp only at hc hd hc2 hd2;subst hc hd hc2 hd2;have e:vs++ws=(vs.toList++ws.toList).toArray:=by simp
 refine concat_meets ⟨_,ho,rfl⟩ ⟨_,ho2,rfl⟩ noFill_list_add seq_list_add PySem.F.slot_list_add PySem.F.entry_list_add (PySem.F.args_list_add_2 _ _) (list_addW p q vs ws n n2 dd dd2 sl sl2 ?_) ⟨ho,ho2, ?_⟩
 ·have:=r1.length;have:=r2.length
  rw[<-Array.length_toList,<-Array.length_toList];exact b0 ⋯
 ·rw[e]
  exact k
theorem sX{l l':List V}{u u':Value}(a:aF X s.heap)(h1:Seen G X s.heap (.list l) u)(h2:ah G X s.heap (.list l') u')(hs:l.length+l'.length<=cap):
 an G A X (binaryOp .Add u u') (.list (l++l')) s:=λE Q q=>lx h1 h2 hs E Q λvs tk r=>q _ _ (Kp.push s _ tk) (bO a r)
theorem qT{l:List V}{vs:List Value}(r:Reps G X s.heap l vs):∀k:Nat,Reps G X s.heap (List.replicate k l).flatten (List.replicate k vs).flatten
 |0=>by simpa using Reps.nil
 |k+1=>by
  rw[List.replicate_succ,List.replicate_succ,List.flatten_cons,List.flatten_cons];exact Reps.append r (qT r k)
theorem ly {l:List V} {u:Value} {x:Int} {t:Tok} (h1:Seen G X s.heap (.list l) u) (hx:x<=1000) (hlo : -(2^63:Int)<=x) (hs:l.length<=1000)
 (E:Value->Shared->Prop) (Q:Value->Shared->Prop) (q':∀vs tk,Reps G X s.heap (ei l x) vs->Q (.ref s.heap.objs.size) { s with heap:=s.heap.push { cls := .type "list",data := .seq vs.toArray },toks:=tk }):
 wpAny (model G.p G.w) A (binaryOp .Mult u (.int x t)) Q E s:=by
 obtain⟨p,vs,rfl,hl,r1⟩:=h1;have q:=λtk=>q' _ tk (qT r1 x.toNat)
 obtain⟨⟨cls,d,data,sl⟩,ho,hcl,k,hd⟩:=hl;simp only at hcl hd;subst hcl hd;have hv:vs.size<=1000:=by rw[<-Array.length_toList,<-Reps.length r1];exact hs
 have hsz':vs.size*x.toNat<=2^24:=Nat.le_trans (Nat.mul_le_mul hv (show x.toNat<=1000 by omega)) nofun;refine wpAny_binaryOp_repeat_ref (T:="list") (U:="int") nofun ⟨_,ho,rfl⟩ (λs'=>typeIs_int s' x t) noFill_list_mul PySem.F.fills_int_mul PySem.F.slot_int_rmul repeat_list PySem.F.slot_int_index.lookup
  (call_meets PySem.F.slot_int_rmul (typeIs_int s x t) PySem.F.entry_int_rmul (PySem.F.args_int_rmul_2 _ _) (lm_int_rmul_list_any x t p vs k d sl)
    ⟨ho,rfl,⟨_,ho,rfl⟩,call_meets PySem.F.slot_list_mul ⟨_,ho,rfl⟩ PySem.F.entry_list_mul (PySem.F.args_list_mul_2 _ _)
      (lm_list_mul_any p vs k d sl x t (by simp[Builtin.List.listFitsIndex];omega) ⋯ (by simp[Builtin.List.listTooLong,sizeLine];omega))
      ⟨ho, ?_⟩⟩)
 rw[listMul_foldl_if];exact q s.toks
theorem sY{l:List V}{u:Value}{x:Int}{t:Tok}(a:aF X s.heap)(h1:Seen G X s.heap (.list l) u)(hx:x<=1000)(hlo : -(2^63:Int)<=x)(hs:l.length<=1000):
 an G A X (binaryOp .Mult u (.int x t)) (.list (ei l x)) s:=λE Q q=>
 ly h1 hx hlo hs E Q λvs tk r=>q _ _ (Kp.push s _ tk) (bO a r)
theorem sZ(x:List Nat)(k:Nat):List.foldl (λx1 x2=>x1++x2) #[] (List.replicate k x.toArray)=((List.replicate k x).flatten).toArray:=by
 have:∀(k:Nat) (acc:List Nat),List.foldl (λ(x1 x2:Array Nat)=>x1++x2) acc.toArray (List.replicate k x.toArray)=(acc++(List.replicate k x).flatten).toArray:=by
  intro k
  induction k with
  |zero=>intro acc;simp
  |succ k ih=>
   intro acc;rw[List.replicate_succ,List.replicate_succ,List.foldl_cons,List.flatten_cons];have e:acc.toArray++x.toArray=(acc++x).toArray:=by simp
   rw[e,ih,List.append_assoc]
 simpa using this k []
theorem lz{n:Nat}(h:n<=1000000000000000000):n.log2<60:=by
 by_cases e:n=0
 ·subst e;decide
 ·exact(Nat.log2_lt e).mpr ⋯
theorem im{a:Int}(h:small a=true):Builtin.Int.intBits a<=64:=by
 unfold small big at h;simp only[Bool.and_eq_true,decide_eq_true_eq]at h;unfold Builtin.Int.intBits
 split
 ·omega
 ·have:=lz (n:=a.natAbs) ⋯
  omega
theorem vl{x:List Nat}{n:Int}{t t':Tok}(h1 : -1000<=n)(h2:n<=1000)(h3:x.length<=1000):an G A X (binaryOp .Mult (.str (tx x) t) (.int n t')) (.str (ei x n)) s:=
 cF λE Q q=>by
  have hl:(tx x).length=x.length:=aw x;have hm:x.length*n.toNat<=1000*1000:=Nat.mul_le_mul h3 ⋯;refine SB.mul ⟨?_,λhn _ => ?_,λhn _ => ?_⟩ λt' k => ?_
  ·simp only[Bool.or_eq_false_iff,decide_eq_false_iff_not];omega
  ·rw[hl]
   intro hgt;have hn0:(0:Int)<n:=⋯;have:(1000:Int)<=(2^63-1)/n:=Int.le_ediv_of_mul_le hn0 ⋯
   omega
  ·rw[hl];unfold Builtin.Str.tooLong;rw[decide_eq_false_iff_not,sizeLine_eq];omega
  ·have e:Txt.mul (tx x) n=tx (ei x n):=by
    unfold Txt.mul ei
    split
    ·rename_i h
     rw[show n.toNat=0 by omega];rfl
    ·rename_i h
     split
     ·rename_i h'
      rw[Bool.or_eq_true]at h'
      rcases h' with h'|h'
      ·rw[eq_of_beq h'];show tx x=tx _;simp
      ·have:x=[]:=by simpa[hl]using h'
       subst this;show tx []=tx _;rw[lm_rep_nil]
     ·unfold tx
      congr 1
      have:=sZ x n.toNat;exact this
   rw[e];exact q t' k
theorem qU{a b c:Prop}[Decidable a][Decidable b][Decidable c](h:(decide a&&decide b&&decide c)=true):a/\b/\c:=by
 simpa[and_assoc]using h
theorem io{a:Prop}[Decidable a](h:(!decide a)=true):¬a:=by simpa using h
theorem fZ{f:List Nat->R}{v:V}{u:Value}{c:Value->Sem Value}{h:Heap}(r:ah G X h v u)(ok:(sS f v).1=true)(k:∀x t,(f x).1=true->an G A X (c (.str (tx x) t)) (f x).2 s):an G A X (c u) (sS f v).2 s:=by
 induction v using V.casesOn with
 |str x=>obtain⟨t,rfl⟩:=ah.str_iff.mp r;exact k x t ok
 |_=>exact ab ok
theorem f0{f:Int->R}{v:V}{u:Value}{c:Value->Sem Value}{h:Heap}(r:ah G X h v u)(ok:(js f v).1=true)(k:∀x t,(f x).1=true->an G A X (c (.int x t)) (f x).2 s):an G A X (c u) (js f v).2 s:=by
 induction v using V.casesOn with
 |int x=>obtain⟨t,rfl⟩:=ah.int_iff.mp r;exact k x t ok
 |_=>exact ab ok
theorem lA{f:List V->R}{v:V}{u:Value}{c:Value->Sem Value}{h:Heap}(r:ah G X h v u)(ok:(A7 f v).1=true)(k:∀x,ah G X h (.list x) u->(f x).1=true->an G A X (c u) (f x).2 s):an G A X (c u) (A7 f v).2 s:=by
 induction v using V.casesOn with
 |list x=>exact k x r ok
 |_=>exact ab ok
theorem dS{n:Int}{k:Nat}(h:uq n k=true) : -1000<=n/\n<=1000/\k<=1000:=qU h
theorem pS{b:Int}(h:small b=true) : -big<=b/\b<=big:=by
 unfold small at h;rw[Bool.and_eq_true,decide_eq_true_eq,decide_eq_true_eq]at h;exact h
theorem zm{op:Operator}{a b:Int}{t t':Tok}(ok:(A8 a b op).1=true):an G A X (binaryOp op (.int a t) (.int b t')) (A8 a b op).2 s:=by
 induction op using Operator.casesOn with
 |Add=>exact aP λE Q q=>add_int (q _ _)
 |Sub=>exact aP λE Q q=>sub_int (q _ _)
 |Mult=>exact aP λE Q q=>mul_int (q _ _) ((Bool.or_eq_true_iff.mp ok).elim (λk=>IntMulOk.of_left (im k)) λk=>IntMulOk.of_right (im k))
 |FloorDiv=>
  have ok':=ay ok;refine aP λE Q q=>floordiv_int (io ok'.1) (q _ _) (.inl ?_)
  have hb:=pS ok'.2;unfold big at hb;have hl:=lz (n:=b.natAbs) ⋯;unfold Builtin.divisionGoesByPylong;refine Bool.and_eq_false_iff.mpr (.inl (decide_eq_false ?_));show ¬(if(b==0)=true then 0 else b.natAbs.log2/30+1)>300
  split<;>omega
 |Mod=>exact aP λE Q q=>mod_int' (io ok) (q _ _)
 |Pow=>
  have ok1:=ay ok;have h1:=ay ok1.1;have h2:=ay ok1.2;have g1:=of_decide_eq_true h1.1;have g2:=of_decide_eq_true h1.2;have g3:=of_decide_eq_true h2.1;have g4:=of_decide_eq_true h2.2;refine aP λE Q q=>pow_int g1 ?_ (q _ _)
  have hb:Builtin.Int.intBits a<=64:=im (by
   unfold small big;rw[decide_eq_true ⋯,decide_eq_true ⋯];rfl)
  have:(Builtin.Int.intBits a:Int)*b<=64*100:=Int.mul_le_mul ⋯ g2 g1 ⋯
  omega
 |_=>exact ab ok
theorem Bt(a:aF X s.heap){op:Operator}{x y:V}{u v:Value}(ok:(bW op x y).1=true)(h1:Seen G X s.heap x u)(h2:ah G X s.heap y v):
 an G A X (binaryOp op u v) (bW op x y).2 s:=by
 induction x using V.casesOn with
 |int i=>
  obtain⟨t,rfl⟩:=h1.int;exact f0 (c:=λv=>binaryOp op (.int i t) v) h2 ok λj t' ok=>zm ok
 |str x=>
  obtain⟨t,rfl⟩:=h1.str
  induction op using Operator.casesOn with
  |Add=>
   refine fZ (c:=λv=>binaryOp .Add (.str (tx x) t) v) h2 ok λy t' ok=>cF λE Q q=>add_str (λt' tk => ?_) (by rw[aw,aw];exact b0 (of_decide_eq_true ok))
   rw[<-nH];exact q _ _
  |Mult=>exact f0 (c:=λv=>binaryOp .Mult (.str (tx x) t) v) h2 ok λj t' ok=>vl (dS ok).1 (dS ok).2.1 (dS ok).2.2
  |_=>exact ab ok
 |list x=>
  induction op using Operator.casesOn with
  |Add=>exact lA (c:=λv=>binaryOp .Add u v) h2 ok λy h2 ok=>sX a h1 h2 (of_decide_eq_true ok)
  |Mult=>exact f0 (c:=λv=>binaryOp .Mult u v) h2 ok λj t' ok=>sY a h1 (dS ok).2.1 (Int.le_trans nofun (dS ok).1) (dS ok).2.2
  |_=>exact ab ok
 |_=>exact ab ok
theorem AK{x y:V}{u v:Value}(ok:(A9 x y).1=true)(h1:ah G X s.heap x u)(h2:ah G X s.heap y v):plainIs u v=true/\(u==v)=(A9 x y).2:=by
 induction x using V.casesOn with
 |none=>induction y using V.casesOn with
  |none=>rw[ah.none_iff.mp h1,ah.none_iff.mp h2];exact⟨rfl,rfl⟩
  |_=>exact ab ok
 |bool c=>induction y using V.casesOn with
  |bool d=>
   rw[ah.bool_iff.mp h1,ah.bool_iff.mp h2];refine⟨rfl, ?_⟩
   induction c using Bool.casesOn<;>induction d using Bool.casesOn<;>rfl
  |_=>exact ab ok
 |str x=>induction y using V.casesOn with
  |none=>obtain⟨t,rfl⟩:=ah.str_iff.mp h1;rw[ah.none_iff.mp h2];exact⟨rfl,rfl⟩
  |_=>exact ab ok
 |_=>exact ab ok
theorem nI{P:V->Prop}(hP:∀x,P x->∀u,ah G X s.heap x u->∃as,Reads s.heap u (eR x) as):∀{l:List V} {vs:List Value},(∀x∈l,P x)->Reps G X s.heap l vs->∃as,ReadsAll s.heap vs (toPys l) as
 |[],vs,_,h=>by rw[Reps.nil_iff.mp h];exact⟨_, .nil⟩
 |x::l,vs,p,h=>by
  obtain⟨v,r,rfl,h1,h2⟩:=Reps.cons_iff.mp h;obtain⟨as,q⟩:=hP x (p x (List.mem_cons_self ..)) v h1;obtain⟨bs,q'⟩:=nI hP (λy m=>p y (List.mem_cons_of_mem _ m)) h2;exact⟨_, .cons q q'⟩
theorem lB:∀(k:Nat) (x:V),dL k x=true->∀u,ah G X s.heap x u->∃as,Reads s.heap u (eR x) as
 |0,x,p,u,h=>ab p
 |k+1,x,p,u,h=>by
  induction x using V.casesOn with
  |int i=>obtain⟨t,rfl⟩:=ah.int_iff.mp h;exact⟨_, .int i t⟩
  |str x=>obtain⟨t,rfl⟩:=ah.str_iff.mp h;exact⟨_, .str (tx x) t⟩
  |list l=>
   obtain⟨a,vs,rfl,_,⟨o,e1,e2,n,e3⟩,r⟩:=ah.list_iff.mp h;obtain⟨as,q⟩:=nI (lB k) (List.all_eq_true.mp p) r;exact⟨_, .list e1 e2 e3 q⟩
  |_=>exact ab p
theorem lC{P:V->Prop}{k:Nat}(hP:∀x,P x->(eR x).canLay0=true/\(eR x).depth<=k):∀{l:List V},(∀x∈l,P x)->PyData.canLayAll0 (toPys l)=true/\PyData.depthAll (toPys l)<=k
 |[],_=>⟨rfl,Nat.zero_le _⟩
 |x::l,p=>by
  have h1:=hP x (p x (List.mem_cons_self ..));have h2:=lC hP λy m=>p y (List.mem_cons_of_mem _ m)
  exact⟨Bool.and_eq_true_iff.mpr ⟨h1.1,h2.1⟩,Nat.max_le.mpr ⟨h1.2,h2.2⟩⟩
theorem nJ:∀(k:Nat) (x:V),dL k x=true->(eR x).canLay0=true/\(eR x).depth<=k
 |0,x,p=>ab p
 |k+1,x,p=>by
  induction x using V.casesOn with
  |int i=>exact⟨rfl,Nat.zero_le _⟩
  |str x=>
   refine⟨?_,Nat.zero_le _⟩;show PyData.strOk ⟨x.toArray⟩=true;have e:PyData.strOk ⟨x.toArray⟩=x.all (λa=>decide (a<0x110000)):=by simp[PyData.strOk]
   rw[e,List.all_eq_true];intro a ha;exact decide_eq_true (Nat.le_of_ble_eq_true (List.all_eq_true.mp p a ha))
  |list l=>
   have:=lC (nJ k) (List.all_eq_true.mp p);exact⟨this.1,Nat.succ_le_succ this.2⟩
  |_=>exact ab p
theorem uC{P:V->Prop}(hP:∀x y,P x->P y->(eR x).eqv (eR y)=DI x y):∀(xs ys:List V),(∀x∈xs,P x)->(∀y∈ys,P y)->PyData.eqvAll (toPys xs) (toPys ys)=eqVs xs ys
 |[],[],_,_=>rfl
 |[],_::_,_,_=>rfl
 |_::_,[],_,_=>rfl
 |x::xs,y::ys,p,q=>by
  show((eR x).eqv (eR y)&&PyData.eqvAll (toPys xs) (toPys ys))=(DI x y&&eqVs xs ys);rw[hP x y (p x (List.mem_cons_self ..)) (q y (List.mem_cons_self ..)),uC hP xs ys (λy m=>p y (List.mem_cons_of_mem _ m)) λy m=>q y (List.mem_cons_of_mem _ m)]
theorem xc:∀(k:Nat) (x y:V),dL k x=true->dL k y=true->(eR x).eqv (eR y)=DI x y
 |0,x,y,p,_=>ab p
 |k+1,x,y,p,q=>by
  induction x using V.casesOn with
  |int i=>induction y using V.casesOn with
   |int j=>rfl
   |str y=>rfl
   |list ys=>rfl
   |_=>exact ab q
  |str x=>induction y using V.casesOn with
   |int j=>rfl
   |str y=>exact sW x y
   |list ys=>rfl
   |_=>exact ab q
  |list xs=>induction y using V.casesOn with
   |int j=>rfl
   |str y=>rfl
   |list ys=>exact uC (xc k) xs ys (List.all_eq_true.mp p) (List.all_eq_true.mp q)
   |_=>exact ab q
  |_=>exact ab p
theorem nK{x:V}(p:dL 9 x=true):SeqAt.shaped (eR x)=true:=by
 have:=nJ 9 x p;unfold SeqAt.shaped;rw[this.1,decide_eq_true (Nat.le_trans this.2 nofun)];rfl
theorem zn{op:CmpOp}{i j:Int}{t t':Tok}(ok:(Ba i j op).1=true)(E:Value->Shared->Prop)(Q:Value->Shared->Prop)(q:Q (.bool (Ba i j op).2) s):wpAny (model G.p G.w) A (compareOp op (.int i t) (.int j t')) Q E s:=by
 induction op using CmpOp.casesOn with
 |Lt=>exact lt_int q
 |LtE=>exact le_int q
 |Gt=>exact gt_int q
 |GtE=>exact ge_int q
 |Eq=>exact eq_int q
 |NotEq=>exact ne_int q
 |_=>exact ab ok
theorem pT {op:CmpOp} {b c:Bool} {u v:Value} (ok:(sT b c op).1=true) (h1:b=true->∀(E:Value->Shared->Prop) (Q:Value->Shared->Prop),Q (.bool c) s->wpAny (model G.p G.w) A (compareOp .Eq u v) Q E s)
 (h2:b=true->∀(E:Value->Shared->Prop) (Q:Value->Shared->Prop),Q (.bool (!c)) s->wpAny (model G.p G.w) A (compareOp .NotEq u v) Q E s) (E:Value->Shared->Prop) (Q:Value->Shared->Prop) (q:Q (.bool (sT b c op).2) s):wpAny (model G.p G.w) A (compareOp op u v) Q E s:=by
 induction op using CmpOp.casesOn with
 |Eq=>exact h1 ok E Q q
 |NotEq=>exact h2 ok E Q q
 |_=>exact ab ok
theorem zo(hu:A.units+200<cLine){op:CmpOp}{x y:V}{u v:Value}(ok:(Bb op x y).1=true)(h1:ah G X s.heap x u)(h2:ah G X s.heap y v):
 ∀(E:Value->Shared->Prop) (Q:Value->Shared->Prop),Q (.bool (Bb op x y).2) s->wpAny (model G.p G.w) A (compareOp op u v) Q E s:=by
 induction x using V.casesOn with
 |int i=>induction y using V.casesOn with
  |int j=>obtain⟨t,rfl⟩:=ah.int_iff.mp h1;obtain⟨t',rfl⟩:=ah.int_iff.mp h2;exact zn ok
  |_=>exact ab ok
 |str i=>induction y using V.casesOn with
  |str j=>
   obtain⟨t,rfl⟩:=ah.str_iff.mp h1;obtain⟨t',rfl⟩:=ah.str_iff.mp h2;exact pT ok (λ_ E Q q=>eq_str (by rw[sW];exact q)) λ_ E Q q=>ne_str (by unfold bne;rw[sW];exact q)
  |_=>exact ab ok
 |bool i=>induction y using V.casesOn with
  |bool j=>rw[ah.bool_iff.mp h1,ah.bool_iff.mp h2];exact pT ok (λ_ E Q q=>eq_bool q) λ_ E Q q=>ne_bool q
  |_=>exact ab ok
 |list i=>induction y using V.casesOn with
  |list j=>
   have key:(dL 9 (.list i)&&dL 9 (.list j))=true->∃as bs,Reads s.heap u (eR (.list i)) as/\Reads s.heap v (eR (.list j)) bs/\SeqAt.shaped (eR (.list i))=true/\SeqAt.shaped (eR (.list j))=true/\(eR (.list i)).eqv (eR (.list j))=eqVs i j:=λok=>by
    have p:=ay ok;obtain⟨as,ra⟩:=lB 9 _ p.1 u h1;obtain⟨bs,rb⟩:=lB 9 _ p.2 v h2;exact⟨as,bs,ra,rb,nK p.1,nK p.2,xc 9 _ _ p.1 p.2⟩
   refine pT ok (λok E Q q => ?_) λok E Q q => ?_
   ·obtain⟨as,bs,ra,rb,sa,sb,e⟩:=key ok
    exact SeqAt.compareEq_shaped ra rb sa sb ⋯ (e▸q)
   ·obtain⟨as,bs,ra,rb,sa,sb,e⟩:=key ok
    exact SeqAt.compareNe_shaped ra rb sa sb ⋯ (by rw[e];exact q)
  |_=>exact ab ok
 |_=>exact ab ok
theorem xd(hu:A.units+200<cLine){op:CmpOp}{x y:V}{u v:Value}(ok:(pK op x y).1=true)(h1:ah G X s.heap x u)(h2:ah G X s.heap y v):
 ∀(E:Value->Shared->Prop) (Q:Value->Shared->Prop),Q (.bool (pK op x y).2) s->wpAny (model G.p G.w) A (compareOp op u v) Q E s:=by
 induction op using CmpOp.casesOn with
 |Is=>
  have:=AK (show(A9 x y).1=true from ok) h1 h2;exact λE Q q=>wpAny_is_plain this.1 (this.2▸q)
 |IsNot=>
  have:=AK (show(A9 x y).1=true from ok) h1 h2;exact λE Q q=>wpAny_isNot_plain this.1 (by rw[this.2];exact q)
 |_=>exact zo hu ok h1 h2
end
end
section
open PySem PySem.W PySem.Calls PyProof.Rows
section
variable {prog:Program} {w:World} {A:Around} {E:Value->Shared->Prop} {s:Shared} {env:Env}
theorem iT(slice:Expr)(o i:Value)(M:Model){A:Around}{E s}{Q:Value->Shared->Prop}(h:wpAny M A (getItem o i) Q E s):wpAny M A (subscripted slice false o i) Q E s:=by
 induction slice using Expr.casesOn with
 |Slice lo hi st p=>induction st using Option.casesOn with
  |_=>exact wpAny_operating h
 |_=>exact wpAny_operating h
theorem uD {value slice:Expr} {pos:Pos} {Q:Value->Shared->Prop}
 (h:wpAny (model prog w) A (eval value env) (λo s₁=>wpAny (model prog w) A (eval slice env) (λi s₂=>ItemOn (model prog w) A E o i Q s₂) E s₁) E s):
 wpAny (model prog w) A (eval (.Subscript value slice pos) env) Q E s:=by
 rw[eval_Subscript];refine wpAny_bind (wpAny_mono h (λo s₁ h₁=>wpAny_bind (wpAny_holding (wpAny_mono h₁ (λi s₂ h₂=>wpAny_bind (wpAny_standAt ?_)) λ_ _ x=>x)))
  λ_ _ x=>x)
 obtain⟨T,id,hl,hT,hg⟩:=h₂;refine wpAny_bind ?_;rw[getitemInPython_of_ne hT.not_modules];refine wpAny_bind (wpAny_specialOf hT hl ?_);have fin:wpAny (model prog w) A (subscripted slice false o i) (λr s₃=>wpAny (model prog w) A (letTemporaryGo value o r>>=λ_=>pure r) Q E s₃) E s₂:=
  iT slice o i _ (wpAny_mono hg (λr s₃ h₃=>wpAny_bind (wpAny_letTemporaryGo (wpAny_pure h₃))) λ_ _ x=>x)
 first
  |exact wpAny_pure (wpAny_bind fin)
  |exact wpAny_bind (wpAny_pure (wpAny_bind fin))
  |exact wpAny_bind fin
end
section
variable {G:Cfg} {A:Around} {X:Addr->Prop} {s:Shared}
theorem nL{x:V}{u:Value}(ok:(aa x).1=true)(h1:ah G X s.heap x u):
 ∀(E:Value->Shared->Prop) (Q:Bool->Shared->Prop),(∀tk,Q (aa x).2 { s with toks:=tk })->wpAny (model G.p G.w) A (truthy u) Q E s:=by
 intro E Q q
 induction x using V.casesOn with
 |bool b=>rw[ah.bool_iff.mp h1];exact wpAny_truthy_bool (q s.toks)
 |int i=>
  obtain⟨t,rfl⟩:=ah.int_iff.mp h1;exact PyProof.Rows.truthy_int (q s.toks)
 |str x=>
  obtain⟨t,rfl⟩:=ah.str_iff.mp h1;have ok':x.length<=cap:=of_decide_eq_true ok;unfold cap at ok';refine PySem.P.truthy_str (by rw[aw];omega) ?_;have e:(((tx x).length:Int)!=0)=(aa (.str x)).2:=by
   rw[aw]
   induction x using List.casesOn with
   |nil=>rfl
   |cons c x=>exact bne_iff_ne.mpr λe=>Nat.succ_ne_zero _ (Int.ofNat.inj e)
  rw[e];exact q _
 |_=>injections ok
theorem CW{op:UnaryOp}{x:V}{u:Value}(ok:(DK op x).1=true)(h1:ah G X s.heap x u):an G A X (unaryOp op u) (DK op x).2 s:=by
 induction op using UnaryOp.casesOn with
 |Not=>exact qS λE Q q=>not_of (nL ok h1 E _ λtk=>q tk)
 |USub=>exact f0 (c:=λu=>unaryOp .USub u) h1 ok λi t ok=>aP λE Q q=>PyProof.Rows.neg_int (q _ _)
 |_=>exact ab ok
noncomputable def au(G:Cfg)(A:Around)(X:Addr->Prop)(o i:Value)(v:V)(s:Shared):Prop:=
 ∀(E:Value->Shared->Prop) (Q:Value->Shared->Prop),(∀u s',Keeps s s'->ah G X s'.heap v u->Q u s')->ItemOn (model G.p G.w) A E o i Q s
theorem pU{v:V}(h:mV v=true) : .int (getI v)=v:=by induction v using V.casesOn<;>first|rfl|injections h
theorem s8{v:V}(h:y3 v=true) : .str (ky v)=v:=by induction v using V.casesOn<;>first|rfl|injections h
theorem Bu{v:V}(h:D4 v=true) : .bool (CH v)=v:=by induction v using V.casesOn<;>first|rfl|injections h
theorem Bv{v:V}(h:CJ v=true) : .list (CI v)=v:=by induction v using V.casesOn<;>first|rfl|injections h
theorem xe{v:V}(h:DJ v=true) : .tup (Bc v)=v:=by induction v using V.casesOn<;>first|rfl|injections h
theorem f7{p:V->Bool}{l:List V}{k:Nat}(h:k<l.length)(a:l.all p=true):p (l.getD k .none)=true:=by
 rw[List.all_eq_true]at a;have e:l.getD k .none=l[k]:=by simp[h]
 rw[e];exact a _ (List.getElem_mem _)
theorem iU{l:List V}{k:Nat}(h:k<l.length):nu l k=l.getD k .none:=by
 unfold nu;cases h1:l.all mV with
 |true=>exact pU (f7 h h1)
 |false=>
  cases h2:l.all y3 with
  |true=>exact s8 (f7 h h2)
  |false=>
   cases h3:l.all D4 with
   |true=>exact Bu (f7 h h3)
   |false=>
    cases h4:l.all CJ with
    |true=>exact Bv (f7 h h4)
    |false=>
     cases h5:l.all DJ with
     |true=>exact xe (f7 h h5)
     |false=>rfl
theorem cf{n:Nat}{i:Int}(h:aL n i=true) : -(n:Int)<=i/\i<n:=
 have h:=ay h
 ⟨of_decide_eq_true h.1,of_decide_eq_true h.2⟩
theorem f8{n:Nat}{i:Int}(h:aL n i=true):place n i<n/\((0<=i/\place n i=i.toNat)\/(i<0/\place n i=(i+n).toNat)):=by
 have h:=cf h;unfold place
 by_cases hi:i<0
 ·rw[decide_eq_true hi];exact⟨by show(i+(n:Int)).toNat<n;omega, .inr ⟨hi,rfl⟩⟩
 ·rw[decide_eq_false hi];exact⟨by show i.toNat<n;omega, .inl ⟨⋯,rfl⟩⟩
theorem j3{n:Nat}{i:Int}(h:aL n i=true):seqIndex? i n=some (place n i):=by
 obtain⟨hp,hc⟩:=f8 h;have h:=cf h;show(if(decide (0<=(if i<0 then i+(n:Int)else i))&&decide ((if i<0 then i+(n:Int)else i)<n))=true then some (if i<0 then i+(n:Int)else i).toNat else none)=_
 rcases hc with⟨h0,hc⟩|⟨h0,hc⟩
 ·rw[show(if i<0 then i+(n:Int)else i)=i from if_neg ⋯,if_pos (by rw[decide_eq_true h0,decide_eq_true h.2];rfl),hc]
 ·rw[show(if i<0 then i+(n:Int)else i)=i+n from if_pos h0,if_pos (by rw[decide_eq_true ⋯,decide_eq_true ⋯];rfl),hc]
theorem vm{l:List V}{u:Value}{i:Int}{t:Tok}(hn:l.length<=cap)(h:aL l.length i=true)(h1:Seen G X s.heap (.list l) u):au G A X u (.int i t) (l.getD (place l.length i) .none) s:=by
 intro E Q q;obtain⟨a,vs,rfl,hl,r⟩:=h1;have hsz:vs.size=l.length:=by rw[<-Array.length_toList,<-Reps.length r]
 obtain⟨hp,hc⟩:=f8 h;obtain⟨x,e,hx⟩:=Reps.at r hp;rw[Array.getElem?_toList]at e;unfold cap at hn;refine⟨"list",_,PySem.F.slot_list_getitem.lookup,hl.typeIs, ?_⟩;have q':=q x s (Kp.refl s) hx;have hb:=cf h
 rcases hc with⟨h0,hc⟩|⟨h0,hc⟩
 ·exact wpAny_getItem_list hl h0 ⋯ (by rw[<-hc];exact e) q'
 ·exact wpAny_getItem_list_neg hl h0 (by rw[hsz];exact hb.1) ⋯ (by rw[hsz,<-hc];exact e) q'
theorem xf{l:List V}{u:Value}{i:Int}{t:Tok}(hn:l.length<=cap)(h:aL l.length i=true)(h1:ah G X s.heap (.tup l) u):au G A X u (.int i t) (l.getD (place l.length i) .none) s:=by
 intro E Q q;obtain⟨a,vs,rfl,n,hl,r⟩:=ah.tup_iff.mp h1;have hsz:vs.size=l.length:=by rw[<-Array.length_toList,<-Reps.length r]
 obtain⟨x,e,hx⟩:=Reps.at r (f8 h).1;rw[Array.getElem?_toList]at e;have hb:=cf h;unfold cap at hn;exact⟨"tuple",_,PySem.F.slot_tuple_getitem.lookup,hl.typeIs,getItem_tuple hl ⋯ ⋯ (by rw[hsz];exact j3 h) e (q x s (Kp.refl s) hx)⟩
theorem xg{x:List Nat}{i:Int}{t t':Tok}(hn:x.length<=cap)(h:aL x.length i=true):au G A X (.str (tx x) t) (.int i t') (.str [x.getD (place x.length i) 0]) s:=by
 intro E Q q;obtain⟨hp,hc⟩:=f8 h;have hb:=cf h;unfold cap at hn;refine⟨"str",_,PySem.F.slot_str_getitem.lookup,typeIs_str _ _ _,getItem_str (c:=x.getD (place x.length i) 0) ?_ ?_ (q _ _ (Kp.toks s _) (ah.str_iff.mpr ⟨s.toks,rfl⟩))⟩
 ·rw[decide_eq_false ⋯,decide_eq_false ⋯];rfl
 ·rw[aw,j3 h]
  show(tx x).cps[place x.length i]? = _;simp[tx,hp]
end
end
section
open PySem PySem.W PySem.Calls PyProof.Rows
open Builtin.Str (strSliceIndices)
section
variable {α:Type}
theorem jC(l:List α):∀k a:Nat,((List.range k).map λj=>a+j).filterMap (l[·]?)=(l.drop a).take k
 |0,a=>by simp
 |k+1,a=>by
  have ih:=jC l k (a+1);rw[List.range_succ_eq_map,List.map_cons,List.map_map];have e:((λj=>a+j)∘Nat.succ)=λj=>a+1+j:=by funext j;simp only[Function.comp];omega
  rw[e,List.filterMap_cons,ih]
  by_cases h:a<l.length
  ·rw[List.drop_eq_getElem_cons h,List.take_succ_cons]
   simp[h]
  ·rw[List.drop_eq_nil_of_le (by omega:l.length<=a),List.drop_eq_nil_of_le (by omega:l.length<=a+1)]
   simp[List.getElem?_eq_none (by omega:l.length<=a)]
theorem lD(a b:Nat):sliceRange a b 1=(List.range (b-a)).map λj=>a+j:=by
 unfold sliceRange;rw[if_pos nofun];have e:(if(a:Int)<b then((b:Int)-a+1-1)/1 else 0).toNat=b-a:=by
  split
  ·rw[Int.ediv_one];omega
  ·omega
 simp only[e];apply List.map_congr_left;intro k _
 omega
noncomputable def dT(n:Nat)(lo:Option Int)(d:Nat):Nat:=match lo with|none=>d|some i=>bound n i
theorem lE(n:Nat)(i:Int):max 0 (min (if i<0 then i+n else i) (n:Int))=(bound n i:Int):=by
 unfold bound
 by_cases h:i<0
 ·rw[if_pos h,decide_eq_true h]
  show _=((i+(n:Int)).toNat:Int);rw[Int.min_eq_left ⋯,Int.max_comm,Int.ofNat_toNat]
 ·rw[if_neg h,decide_eq_false h]
  obtain⟨k,rfl⟩:=Int.eq_ofNat_of_zero_le (Int.not_lt.mp h);show _=((min k n:Nat):Int)
  rcases Nat.le_total k n with e|e
  ·rw[Nat.min_eq_left e,Int.min_eq_left (Int.ofNat_le.mpr e)];exact Int.max_eq_right (Int.natCast_nonneg _)
  ·rw[Nat.min_eq_right e,Int.min_eq_right (Int.ofNat_le.mpr e)];exact Int.max_eq_right (Int.natCast_nonneg _)
theorem lF(l:List α)(lo hi:Option Int):jY l lo hi=(l.drop (dT l.length lo 0)).take (dT l.length hi l.length-dT l.length lo 0):=by
 unfold jY dT;induction lo using Option.casesOn<;>injections hi<;>rfl
theorem nM(n:Nat)(lo hi:Option Int):strSliceIndices lo hi 1 n=(List.range (dT n hi n-dT n lo 0)).map λj=>dT n lo 0+j:=by
 rw[<-lD];unfold strSliceIndices dT
 induction lo using Option.casesOn<;>injections hi<;>simp only[show(1:Int)>0 by decide,if_true,lE]<;>rfl
theorem nO(l:List α)(lo hi:Option Int):(strSliceIndices lo hi 1 l.length).filterMap (l[·]?)=jY l lo hi:=by
 rw[nM,jC,lF]
theorem nQ(n:Nat)(lo:Option Int){d:Nat}(h:d<=n):dT n lo d<=n:=by
 induction lo using Option.casesOn with
 |none=>exact h
 |some i=>
  show bound n i<=n;have:=lE n i
  omega
theorem vn(l:List α)(lo hi:Option Int)(h:(strSliceIndices lo hi 1 l.length).length=l.length):jY l lo hi=l:=by
 rw[nM,List.length_map,List.length_range]at h;have h1:=nQ l.length lo (Nat.zero_le _);have h2:=nQ l.length hi (Nat.le_refl _);rw[lF]
 by_cases e:l.length=0
 ·rw[List.eq_nil_of_length_eq_zero e];simp
 ·rw[show dT l.length lo 0=0 by omega,show dT l.length hi l.length=l.length by omega];simp
theorem kF(lo hi:Option Int)(n:Nat):sliceRange (sliceBounds lo hi none n).1 (sliceBounds lo hi none n).2.1 (sliceBounds lo hi none n).2.2=strSliceIndices lo hi 1 n:=by
 unfold sliceBounds strSliceIndices
 induction lo using Option.casesOn<;>injections hi<;>rfl
theorem m0(vs:Array Value)(lo hi:Option Int):slicePick vs lo hi none=(jY vs.toList lo hi).toArray:=by
 unfold slicePick;rw[kF,<-nO];simp
theorem kG(vs:Array Value)(a k:Int)(h0:0<=a)(h1:1<=k):slicePick vs (some a) none (some k)=(bx k a vs.toList).toArray:=by
 unfold slicePick bx sliceBounds;have hk:k>0:=⋯;have ha:¬a<0:=⋯;simp only[Option.getD_some,hk,if_true,if_neg ha];simp
theorem vo(l:List Nat):(strSliceIndices none none (-1) l.length).filterMap (l[·]?)=l.reverse:=by
 have e:strSliceIndices none none (-1) l.length=(List.range l.length).map λk=>l.length-1-k:=by
  unfold strSliceIndices sliceRange;simp only[show ¬((-1:Int)>0)by decide,if_false];have e:(if((l.length:Int)-1) > -1 then((l.length:Int)-1 - -1 - -1-1) / - -1 else 0).toNat=l.length:=by
   split
   ·rw[show(- -1:Int)=1 by decide,Int.ediv_one];omega
   ·omega
  rw[e];apply List.map_congr_left;intro k _
  omega
 rw[e];have p:=jC l.reverse l.length 0;rw[List.drop_zero,List.take_of_length_le (by simp)]at p;rw[<-p,List.filterMap_map,List.filterMap_map];have cg:∀(f g:Nat->Option Nat) (ks:List Nat),(∀k∈ks,f k=g k)->ks.filterMap f=ks.filterMap g:=by
  intro f g ks
  induction ks with
  |nil=>intro _;rfl
  |cons k ks ih=>intro h;rw[List.filterMap_cons,List.filterMap_cons,h k (List.mem_cons_self ..),ih λj hj=>h j (List.mem_cons_of_mem _ hj)]
 refine cg _ _ _ λk hk => ?_
 have hk':=List.mem_range.mp hk;simp only[Function.comp,Nat.zero_add];rw[List.getElem?_reverse ⋯]
end
section
variable {G:Cfg} {A:Around} {X:Addr->Prop} {s:Shared}
theorem xh{h:Heap}{l:List V}{vs:List Value}(r:Reps G X h l vs)(k:Nat):(l[k]? = none/\vs[k]? = none)\/∃x u,l[k]? = some x/\vs[k]? = some u/\ah G X h x u:=by
 have hl:=r.length
 by_cases hk:k<l.length
 ·obtain⟨u,e,q⟩:=Reps.at r hk
  refine .inr ⟨l[k],u,by simp[hk],e, ?_⟩;have e2:l.getD k .none=l[k]:=by simp[hk]
  rw[<-e2];exact q
 ·exact .inl ⟨List.getElem?_eq_none ⋯,List.getElem?_eq_none ⋯⟩
theorem nR{h:Heap}{l:List V}{vs:List Value}(r:Reps G X h l vs):∀ks:List Nat,Reps G X h (ks.filterMap (l[·]?)) (ks.filterMap (vs[·]?))
 |[]=>Reps.nil
 |k::ks=>by
  have ih:=nR r ks;rw[List.filterMap_cons,List.filterMap_cons]
  rcases xh r k with⟨e1,e2⟩|⟨x,u,e1,e2,q⟩
  ·rw[e1,e2];exact ih
  ·rw[e1,e2];exact Reps.cons q ih
theorem xi{f:Option Int->R}{v:V}{u:Value}{P:R->Prop}(r:ah G X s.heap v u)(ok:(ur f v).1=true)(k:∀k,(f k).1=true->IsPart u k->(∃l:Option (Int×Tok),u=partValue l/\l.map (·.1)=k)->P (f k)):P (ur f v):=by
 induction v using V.casesOn with
 |none=>rw[ah.none_iff.mp r]at k;exact k _ ok .none ⟨none,rfl,rfl⟩
 |int i=>obtain⟨t,rfl⟩:=ah.int_iff.mp r;exact k _ ok (.int i t) ⟨some (i,t),rfl,rfl⟩
 |_=>exact ab ok
theorem s9{v:V}{u:Value}(h:sU v=true)(r:ah G X s.heap v u):u = .none:=by
 induction v using V.casesOn with
 |none=>exact ah.none_iff.mp r
 |_=>exact ab h
theorem lG{f:Int->R}{v:V}{u:Value}{P:R->Prop}(r:ah G X s.heap v u)(ok:(js f v).1=true)(k:∀i t,u = .int i t->(f i).1=true->P (f i)):P (js f v):=by
 induction v using V.casesOn with
 |int i=>obtain⟨t,e⟩:=ah.int_iff.mp r;exact k i t e ok
 |_=>exact ab ok
theorem vp {x:List Nat} {t:Tok} {va vb vc:Value} {lo hi:Option Int} {sl:Addr} (hl:s.heap.IsSliceOf sl va vb vc) (hn:x.length<=cap)
 (pa:∃l:Option (Int×Tok),va=partValue l/\l.map (·.1)=lo) (pb:∃l:Option (Int×Tok),vb=partValue l/\l.map (·.1)=hi) (pc:vc = .none):
 au G A X (.str (tx x) t) (.ref sl) (.str (jY x lo hi)) s:=by
 intro E Q q;obtain⟨l,rfl,e1⟩:=pa;obtain⟨u,rfl,e2⟩:=pb;subst pc;have hs:s.heap.IsSlice sl l u none:=hl;refine⟨"str",_,PySem.F.slot_str_getitem.lookup,typeIs_str _ _ _,wpAny_getItem_str_slice hs rfl ?_⟩;unfold sliceMade slicePicked;have e3:((Option.map (λx=>x.fst) (none:Option (Int×Tok))).getD 1)=(1:Int):=rfl;rw[e1,e2,e3,aw]
 split
 ·rename_i h
  rw[Bool.and_eq_true]at h;have e:=vn x lo hi (by simpa using h.2);exact q _ _ (Kp.refl _) (ah.str_iff.mpr ⟨t,by rw[e]⟩)
 ·have e:(⟨((strSliceIndices lo hi 1 x.length).filterMap ((tx x).cps[·]?)).toArray⟩:Str)=tx (jY x lo hi):=by
   rw[<-nO];unfold tx;simp
  rw[e];refine⟨?_,q _ _ (Kp.toks s (s.toks+1)) (ah.str_iff.mpr ⟨s.toks,rfl⟩)⟩;have hle:(jY x lo hi).length<=x.length:=by rw[lF,List.length_take,List.length_drop];omega
  rw[aw];exact b0 ⋯
theorem m4{x:List Nat}{t:Tok}{t':Tok}{sl:Addr}(hl:s.heap.IsSliceOf sl .none .none (.int (-1) t'))(hn:x.length<=cap):
 au G A X (.str (tx x) t) (.ref sl) (.str x.reverse) s:=by
 intro E Q q;have hs:s.heap.IsSlice sl none none (some (-1,t')):=hl;refine⟨"str",_,PySem.F.slot_str_getitem.lookup,typeIs_str _ _ _,wpAny_getItem_str_slice hs rfl ?_⟩;unfold sliceMade slicePicked;rw[if_neg (by intro h;rw[Bool.and_eq_true]at h;exact Bool.false_ne_true h.1),aw];have e:(⟨((strSliceIndices none none (-1) x.length).filterMap ((tx x).cps[·]?)).toArray⟩:Str)=tx x.reverse:=by
  rw[<-vo];unfold tx;simp
 show(Made.str ⟨((strSliceIndices none none (-1) x.length).filterMap ((tx x).cps[·]?)).toArray⟩).post Q s;rw[e];exact⟨by rw[aw,List.length_reverse];exact b0 hn,q _ _ (Kp.toks s (s.toks+1)) (ah.str_iff.mpr ⟨s.toks,rfl⟩)⟩
theorem lH {l:List V} {u va vb vc:Value} {lo hi st:Option Int} {sl:Addr} {r:List V} (al:aF X s.heap) (hl:s.heap.IsSliceOf sl va vb vc) (hn:l.length<=cap)
 (h1:ah G X s.heap (.list l) u) (pa:IsPart va lo) (pb:IsPart vb hi) (pc:IsPart vc st) (h0:st≠some 0)
 (hr:∀vs:Array Value,Reps G X s.heap l vs.toList->Reps G X s.heap r (slicePick vs lo hi st).toList):
 au G A X u (.ref sl) (.list r) s:=by
 intro E Q q;obtain⟨a,vs,rfl,n,hls,rr⟩:=ah.list_iff.mp h1;have hsz:vs.size=l.length:=by rw[<-Array.length_toList,<-Reps.length rr]
 refine⟨"list",_,PySem.F.slot_list_getitem.lookup,hls.typeIs,wpAny_getItem_list_slice hls hl pa pb pc h0 ?_ (by rw[hsz];exact b0 hn)⟩;have:=bO al (hr vs rr);exact q _ _ (Kp.push s _ s.toks) this
theorem lI {a b:V} {u va vb:Value} {sl:Addr} {f:Option Int->Option Int->R} (h2:ah G X s.heap a va) (h3:ah G X s.heap b vb) (ok:(ur (λa=>ur (λb=>f a b) b) a).1=true)
 (k:∀x y,(f x y).1=true->IsPart va x->IsPart vb y->(∃l:Option (Int×Tok),va=partValue l/\l.map (·.1)=x)->(∃l:Option (Int×Tok),vb=partValue l/\l.map (·.1)=y)->au G A X u (.ref sl) (f x y).2 s):
 au G A X u (.ref sl) (ur (λa=>ur (λb=>f a b) b) a).2 s:=
 xi (P:=λr=>au G A X u (.ref sl) r.2 s) h2 ok λx ok p p'=>xi (P:=λr=>au G A X u (.ref sl) r.2 s) h3 ok λy ok q q'=>k x y ok p q p' q'
theorem tc {l:List V} {a b c:V} {u va vb vc:Value} {sl:Addr} (al:aF X s.heap) (ok:(js (λk=>js (λa=>(sU b&&(decide (l.length<=cap)&&decide (0<=a)&&decide (1<=k)), .list (bx k a l))) a) c).1=true) (hl:s.heap.IsSliceOf sl va vb vc)
 (h1:ah G X s.heap (.list l) u) (h2:ah G X s.heap a va) (h3:ah G X s.heap b vb) (h4:ah G X s.heap c vc):au G A X u (.ref sl) (js (λk=>js (λa=>(sU b&&(decide (l.length<=cap)&&decide (0<=a)&&decide (1<=k)), .list (bx k a l))) a) c).2 s:=
 lG (P:=λr=>au G A X u (.ref sl) r.2 s) h4 ok λk t e ok=>lG (P:=λr=>au G A X u (.ref sl) r.2 s) h2 ok λi t' e' ok=>by
  have ok:=ay ok;have o2:=qU ok.2;rw[s9 ok.1 h3,e,e']at hl;refine lH al hl o2.1 h1 (.int _ _) .none (.int _ _) (by intro e;injections e;exact absurd o2.2.2 nofun) λvs rr => ?_
  rw[kG vs _ _ o2.2.1 o2.2.2];unfold bx;rw[<-Reps.length rr];exact nR rr _
theorem td {l:List V} {a b:V} {u va vb:Value} {sl:Addr} (al:aF X s.heap) (ok:(ur (λa=>ur (λb=>(decide (l.length<=cap), .list (jY l a b))) b) a).1=true) (hl:s.heap.IsSliceOf sl va vb .none)
 (h1:ah G X s.heap (.list l) u) (h2:ah G X s.heap a va) (h3:ah G X s.heap b vb):au G A X u (.ref sl) (ur (λa=>ur (λb=>(decide (l.length<=cap), .list (jY l a b))) b) a).2 s:=
 lI h2 h3 ok λx y ok p q _ _=>lH al hl (of_decide_eq_true ok) h1 p q .none nofun λvs rr=>by
  rw[m0,lF,lF,<-Reps.length rr];exact Reps.take _ (Reps.drop _ rr)
theorem xj {o a b c:V} {u va vb vc:Value} {sl:Addr} (al:aF X s.heap) (ok:(df o a b c).1=true) (hl:s.heap.IsSliceOf sl va vb vc)
 (h1:ah G X s.heap o u) (h2:ah G X s.heap a va) (h3:ah G X s.heap b vb) (h4:ah G X s.heap c vc):au G A X u (.ref sl) (df o a b c).2 s:=by
 induction o using V.casesOn with
 |str x=>
  obtain⟨t,rfl⟩:=ah.str_iff.mp h1
  induction c using V.casesOn with
  |none=>exact lI h2 h3 ok λx y ok _ _ p q=>vp hl (of_decide_eq_true ok) p q (ah.none_iff.mp h4)
  |int k=>
   obtain⟨t',rfl⟩:=ah.int_iff.mp h4;have ok:=ay ok;have o1:=ay ok.1;have o2:=ay ok.2;rw[s9 o1.1 h2,s9 o1.2 h3,of_decide_eq_true o2.2]at hl;exact m4 hl (of_decide_eq_true o2.1)
  |_=>exact ab ok
 |list l=>
  induction c using V.casesOn with
  |none=>rw[ah.none_iff.mp h4]at hl;exact td al ok hl h1 h2 h3
  |int k=>exact tc (c := .int k) al ok hl h1 h2 h3 h4
  |_=>exact ab ok
 |_=>exact ab ok
theorem xk{ty:Nat}{l:List V}{i:Int}{u v:Value}(ok:(CK ty l i).1=true)(h:l.length<=cap->aL l.length i=true->au G A X u v (l.getD (place l.length i) .none) s):au G A X u v (CK ty l i).2 s:=by
 unfold CK at ok |-;generalize Nat.beq ty 1=b at ok |-
 induction b using Bool.casesOn with
 |true=>
  have ok:=ay ok;have o1:=ay ok.1;have:=h (of_decide_eq_true o1.2) o1.1;rw[<-pU ok.2]at this;exact this
 |false=>
  generalize Nat.beq ty 2=b at ok |-
  induction b using Bool.casesOn with
  |true=>
   have ok:=ay ok;have o1:=ay ok.1;have:=h (of_decide_eq_true o1.2) o1.1;rw[<-s8 ok.2]at this;exact this
  |false=>
   have ok:=ay ok;have:=h (of_decide_eq_true ok.2) ok.1;rw[<-iU (f8 ok.1).1]at this;exact this
theorem Bw{ty:Nat}{o i:V}{u v:Value}(ok:(gR ty o i).1=true)(h1:Seen G X s.heap o u)(h2:ah G X s.heap i v):au G A X u v (gR ty o i).2 s:=by
 induction o using V.casesOn with
 |list l=>exact lG (P:=λr=>au G A X u v r.2 s) h2 ok λi t e ok=>xk ok λo1 o2=>by rw[e];exact vm o1 o2 h1
 |tup l=>exact lG (P:=λr=>au G A X u v r.2 s) h2 ok λi t e ok=>xk ok λo1 o2=>by rw[e];exact xf o1 o2 (show ah G X s.heap (.tup _) u from h1)
 |str x=>
  obtain⟨t',rfl⟩:=h1.str;exact lG (P:=λr=>au G A X (.str (tx x) t') v r.2 s) h2 ok λi t e ok=>by
   have ok:=ay ok;rw[e];exact xg (of_decide_eq_true ok.2) ok.1
 |_=>exact ab ok
end
end
section
open PySem PySem.W PySem.Calls PyProof.Rows
noncomputable def uE(v:Value):Prop:=(∃id,v = .builtin id)\/∃id,v = .type id
section
variable {G:Cfg} {A:Around} {X:Addr->Prop} {s:Shared}
theorem bB{t:Sem Value}{v:V}(h:∀(E:Value->Shared->Prop) (Q:Value->Shared->Prop),(∀u h' tk,(∀b o,s.heap.get? b=some o->h'.get? b=some o)->ah G X h' v u->Q u { s with heap:=h',toks:=tk })->wpAny (model G.p G.w) A t Q E s):an G A X t v s:=
 λE Q q=>h E Q λu h' tk k r=>q u _ (Kp.heap tk k) r
theorem kO{h:Heap}:∀{l:List V} {vs:List Value},l.all mV=true->Reps G X h l vs->(∀v,v∈vs->∃a t,v = .int a t)/\numsOf vs=l.map getI
 |[],vs,_,r=>by rw[Reps.nil_iff.mp r];exact⟨λv hv=>absurd hv (by simp),rfl⟩
 |x::l,vs,a,r=>by
  obtain⟨v,r',rfl,h1,h2⟩:=Reps.cons_iff.mp r;rw[List.all_cons,Bool.and_eq_true]at a;have ih:=kO a.2 h2;rw[<-pU a.1]at h1;obtain⟨t,rfl⟩:=ah.int_iff.mp h1;exact⟨λw hw=>by
   rcases List.mem_cons.mp hw with rfl|hw
   ·exact⟨_,_,rfl⟩
   ·exact ih.1 w hw,by rw[numsOf,ih.2];rfl⟩
theorem nS:∀(l:List Int) (a:Int),l.foldl (· + ·) a=a+l.sum
 |[],a=>by simp
 |x::l,a=>by rw[List.foldl_cons,nS l,List.sum_cons];omega
theorem zp(l:List V):mW l=(l.map getI).sum:=by unfold mW;rw[nS];omega
theorem nU:∀(l:List Int) (a:Int),(l.foldl (λa b=>bif decide (a<b)then b else a) a∈a::l)/\∀b∈a::l,b<=l.foldl (λa b=>bif decide (a<b)then b else a) a
 |[],a=>⟨by simp,by simp⟩
 |x::l,a=>by
  rw[List.foldl_cons];have ih:=nU l (bif decide (a<x)then x else a)
  by_cases h:a<x
  ·rw[decide_eq_true h]at ih |-
   simp only[cond_true]at ih |-;refine⟨List.mem_cons_of_mem _ ih.1,λb hb => ?_⟩
   rcases List.mem_cons.mp hb with rfl|hb
   ·have:=ih.2 x (List.mem_cons_self ..);omega
   ·exact ih.2 b hb
  ·rw[decide_eq_false h]at ih |-
   simp only[cond_false]at ih |-;refine⟨?_,λb hb => ?_⟩
   ·rcases List.mem_cons.mp ih.1 with e|e
    ·rw[e];exact List.mem_cons_self ..
    ·exact List.mem_cons_of_mem _ (List.mem_cons_of_mem _ e)
   ·rcases List.mem_cons.mp hb with rfl|hb
    ·exact ih.2 _ (List.mem_cons_self ..)
    ·rcases List.mem_cons.mp hb with rfl|hb
     ·have:=ih.2 a (List.mem_cons_self ..);omega
     ·exact ih.2 b (List.mem_cons_of_mem _ hb)
theorem nV:∀(l:List Int) (a:Int),(l.foldl (λa b=>bif decide (b<a)then b else a) a∈a::l)/\∀b∈a::l,l.foldl (λa b=>bif decide (b<a)then b else a) a<=b
 |[],a=>⟨by simp,by simp⟩
 |x::l,a=>by
  rw[List.foldl_cons];have ih:=nV l (bif decide (x<a)then x else a)
  by_cases h:x<a
  ·rw[decide_eq_true h]at ih |-
   simp only[cond_true]at ih |-;refine⟨List.mem_cons_of_mem _ ih.1,λb hb => ?_⟩
   rcases List.mem_cons.mp hb with rfl|hb
   ·have:=ih.2 x (List.mem_cons_self ..);omega
   ·exact ih.2 b hb
  ·rw[decide_eq_false h]at ih |-
   simp only[cond_false]at ih |-;refine⟨?_,λb hb => ?_⟩
   ·rcases List.mem_cons.mp ih.1 with e|e
    ·rw[e];exact List.mem_cons_self ..
    ·exact List.mem_cons_of_mem _ (List.mem_cons_of_mem _ e)
   ·rcases List.mem_cons.mp hb with rfl|hb
    ·exact ih.2 _ (List.mem_cons_self ..)
    ·rcases List.mem_cons.mp hb with rfl|hb
     ·have:=ih.2 a (List.mem_cons_self ..);omega
     ·exact ih.2 b (List.mem_cons_of_mem _ hb)
theorem CX{l:List V}{u:Value}(hh:A.handled=none)(ok:l.all mV=true)(r:ah G X s.heap (.list l) u):an G A X (call (.builtin "sum") [u]) (.int (mW l)) s:=by
 obtain⟨a,vs,rfl,n,hl,rr⟩:=ah.list_iff.mp r;obtain⟨h1,h2⟩:=kO ok rr;obtain⟨xs,rfl⟩:=AllInts.items (vs:=vs) λv hv=>h1 v (Array.mem_toList_iff.mpr hv)
 refine bB λE Q q=>sum_intListG hh hl λh' tk t' hk => ?_
 rw[preSum_eq,List.take_of_length_le (by simp)];rw[nums_intItems]at h2;refine q _ h' tk hk (ah.int_iff.mpr ⟨t', ?_⟩);rw[zp,<-h2]
theorem CY{l:List V}{u:Value}(hh:A.handled=none)(ok:l.all mV=true)(hne:l≠[])(r:ah G X s.heap (.list l) u):an G A X (call (.builtin "max") [u]) (.int (CL (l.map getI))) s:=by
 obtain⟨a,vs,rfl,n,hl,rr⟩:=ah.list_iff.mp r;obtain⟨h1,h2⟩:=kO ok rr;have hlen:=Reps.length rr;obtain⟨xs,rfl⟩:=AllInts.items (vs:=vs) λv hv=>h1 v (Array.mem_toList_iff.mpr hv)
 rw[nums_intItems]at h2;have hsz:0<xs.size:=by
  have:xs.toList.length=l.length:=by simpa using congrArg List.length h2
  rw[Array.length_toList]at this;have:l.length≠0:=λe=>hne (List.eq_nil_of_length_eq_zero e)
  omega
 refine bB λE Q q=>max_intList hh hl hsz λv h' tk hv hk => ?_
 obtain⟨t,rfl⟩:=intItems_at hv;obtain⟨g1,g2⟩:=argBest_gt (numAt xs) (xs.size-1);refine q _ h' tk hk (ah.int_iff.mpr ⟨t, ?_⟩)
 congr 1
 have m1:numAt xs (argBest (λi j=>decide (numAt xs i>numAt xs j)) (xs.size-1))∈l.map getI:=by
  rw[numAt_eq,<-h2];exact getD_mem (by rw[List.length_map,Array.length_toList];omega)
 have m2:∀b∈l.map getI,b<=numAt xs (argBest (λi j=>decide (numAt xs i>numAt xs j)) (xs.size-1)):=λb hb=>by
  rw[<-h2]at hb;obtain⟨j,hj,rfl⟩:=mem_getD hb;rw[List.length_map,Array.length_toList]at hj;rw[<-numAt_eq];exact g2 j ⋯
 cases hm:l.map getI with
 |nil=>rw[hm]at m1;cases m1
 |cons x r=>
  rw[hm]at m1 m2;obtain⟨f1,f2⟩:=nU r x;have:=m2 _ f1;have:=f2 _ m1;show _=r.foldl _ x
  omega
theorem CZ{l:List V}{u:Value}(hh:A.handled=none)(ok:l.all mV=true)(hne:l≠[])(r:ah G X s.heap (.list l) u):an G A X (call (.builtin "min") [u]) (.int (CM (l.map getI))) s:=by
 obtain⟨a,vs,rfl,n,hl,rr⟩:=ah.list_iff.mp r;obtain⟨h1,h2⟩:=kO ok rr;have hlen:=Reps.length rr;obtain⟨xs,rfl⟩:=AllInts.items (vs:=vs) λv hv=>h1 v (Array.mem_toList_iff.mpr hv)
 rw[nums_intItems]at h2;have hsz:0<xs.size:=by
  have:xs.toList.length=l.length:=by simpa using congrArg List.length h2
  rw[Array.length_toList]at this;have:l.length≠0:=λe=>hne (List.eq_nil_of_length_eq_zero e)
  omega
 refine bB λE Q q=>min_intList hh hl hsz λv h' tk hv hk => ?_
 obtain⟨t,rfl⟩:=intItems_at hv;obtain⟨g1,g2⟩:=argBest_lt (numAt xs) (xs.size-1);refine q _ h' tk hk (ah.int_iff.mpr ⟨t, ?_⟩)
 congr 1
 have m1:numAt xs (argBest (λi j=>decide (numAt xs i<numAt xs j)) (xs.size-1))∈l.map getI:=by
  rw[numAt_eq,<-h2];exact getD_mem (by rw[List.length_map,Array.length_toList];omega)
 have m2:∀b∈l.map getI,numAt xs (argBest (λi j=>decide (numAt xs i<numAt xs j)) (xs.size-1))<=b:=λb hb=>by
  rw[<-h2]at hb;obtain⟨j,hj,rfl⟩:=mem_getD hb;rw[List.length_map,Array.length_toList]at hj;rw[<-numAt_eq];exact g2 j ⋯
 cases hm:l.map getI with
 |nil=>rw[hm]at m1;cases m1
 |cons x r=>
  rw[hm]at m1 m2;obtain⟨f1,f2⟩:=nV r x;have:=m2 _ f1;have:=f2 _ m1;show _=r.foldl _ x
  omega
theorem zq{l:List V}{u:Value}(al:aF X s.heap)(hn:l.length<=cap)(r:ah G X s.heap (.list l) u):an G A X (call (.type "tuple") [u]) (.tup l) s:=by
 obtain⟨a,vs,rfl,n,hl,rr⟩:=ah.list_iff.mp r;have hsz:vs.size=l.length:=by rw[<-Array.length_toList,<-Reps.length rr]
 refine bB λE Q q=>call_tuple_list hl (λh' hk => ?_) (by rw[hsz];exact b0 hn)
 have:=iS (s:={ s with heap:=h' }) (aF.keeps al hk) (Reps.on (On.of_keeps hk) rr);exact q _ _ s.toks (λb o g=>Heap.get?_push_of_some _ (hk b o g)) (by simpa using this)
theorem xl{c d:Nat}{l:List Nat}:vj c (d::l)=bif Nat.ble c d then c::d::l else d::vj c l:=rfl
theorem jD(c:Nat):∀l,(vj c l).Perm (c::l)
 |[]=>List.Perm.refl _
 |d::l=>by
  rw[xl];cases Nat.ble c d with
  |true=>exact List.Perm.refl _
  |false=>exact((jD c l).cons d).trans (List.Perm.swap c d l)
theorem j4(c:Nat):∀l,l.Pairwise (· <= ·)->(vj c l).Pairwise (· <= ·)
 |[],_=>List.pairwise_singleton _ _
 |d::l,h=>by
  have h':=List.pairwise_cons.mp h;rw[xl];cases e:Nat.ble c d with
  |true=>
   have e:=Nat.le_of_ble_eq_true e;exact List.pairwise_cons.mpr ⟨List.forall_mem_cons.mpr ⟨e,λb hb=>Nat.le_trans e (h'.1 b hb)⟩,h⟩
  |false=>
   have e:d<=c:=(Nat.le_total c d).elim (λg=>by rw[Nat.ble_eq_true_of_le g]at e;exact nomatch e) id;exact List.pairwise_cons.mpr ⟨λb hb=>(List.mem_cons.mp ((jD c l).mem_iff.mp hb)).elim (λg=>g▸e) (h'.1 b),j4 c l h'.2⟩
theorem lJ:∀x,(nA x).Perm x
 |[]=>List.Perm.refl _
 |c::x=>(jD c (nA x)).trans ((lJ x).cons c)
theorem iV:∀x,(nA x).Pairwise (· <= ·)
 |[]=>List.Pairwise.nil
 |c::x=>j4 c _ (iV x)
theorem nX:∀(l:List Nat) (p:Nat),risingS (tx [p]) (l.map λc=>tx [c])=true->(p::l).Pairwise (· <= ·)
 |[],p,_=>List.pairwise_singleton _ _
 |x::l,p,h=>by
  have h:(!(decide (x<p)||(x==p&&false))&&risingS (tx [x]) (l.map λc=>tx [c]))=true:=h;have h:=ay h;have e:p<=x:=by
   have:=h.1;rw[Bool.and_false,Bool.or_false,Bool.not_eq_true']at this;exact Nat.le_of_not_lt (of_decide_eq_false this)
  have ih:=nX l x h.2;exact List.pairwise_cons.mpr ⟨List.forall_mem_cons.mpr ⟨e,λb hb=>Nat.le_trans e ((List.pairwise_cons.mp ih).1 b hb)⟩,ih⟩
theorem nY{x:List Nat}{acc:Array Value}(e:ItemsOf (SignAt (tx x)) acc x.length):StrsAre acc.toList (x.map λc=>tx [c]):=by
 obtain⟨hs,ha⟩:=e;have:∀(y:List Nat) (vs:List Value) (k:Nat),(∀j,j<y.length->x[k+j]? = y[j]?)->vs.length=y.length->(∀j v,vs[j]? = some v->SignAt (tx x) (k+j) v)->StrsAre vs (y.map λc=>tx [c]):=by
  intro y
  induction y with
  |nil=>intro vs k _ hl _;rw[List.eq_nil_of_length_eq_zero hl];exact .nil
  |cons c y ih=>
   intro vs k hx hl hv;cases vs with
   |nil=>simp at hl
   |cons v vs=>
    obtain⟨c',u,e1,rfl⟩:=hv 0 v rfl;have e4:c'=c:=by
     rw[show(tx x).cps[k+0]? = x[k+0]? by simp[tx],hx 0 (by simp)]at e1
     simpa using e1.symm
    subst e4;refine .cons _ u (ih vs (k+1) (λj hj => ?_) (by simpa using hl) λj v' hj => ?_)
    ·have:=hx (j+1) (by simpa using hj)
     rw[show k+1+j=k+(j+1)by omega,this];simp
    ·have:=hv (j+1) v' (by simpa using hj)
     rwa [show k+1+j=k+(j+1)by omega]
 refine this x acc.toList 0 (λj _=>by simp) (by simpa using hs) λj v hj => ?_
 rw[Nat.zero_add];exact ha j v (by simpa using hj)
theorem jE{h:Heap}:∀{y:List Nat} {vs:List Value},StrsAre vs (y.map λc=>tx [c])->Reps G X h (nv y) vs
 |[],_, .nil=>Reps.nil
 |_::_,_, .cons _ t r=>Reps.cons (ah.str_iff.mpr ⟨t,rfl⟩) (jE r)
theorem kP(x:List Nat):(tx x).cps.size=x.length:=List.size_toArray
theorem zr{x:List Nat}{t:Tok}(hh:A.handled=none)(al:aF X s.heap)(hn:x.length<=cap):an G A X (call (.type "list") [.str (tx x) t]) (.list (nv x)) s:=by
 refine bB λE Q q=>call_list_str hh _ t (λh' tk acc c hk ho he => ?_) (by rw[kP];exact b0 hn)
 rw[kP]at he;exact q _ h' tk hk (ah.list_iff.mpr ⟨_,acc,rfl,al.fresh,⟨_,ho,rfl,_,rfl⟩,jE (nY he)⟩)
theorem Bx{x:List Nat}{t:Tok}(hh:A.handled=none)(al:aF X s.heap)(hn:x.length<64):an G A X (call (.builtin "sorted") [.str (tx x) t]) (.list (nv (nA x))) s:=by
 refine bB λE Q q=>Calls.call_function_entry kind_sorted plain_sorted entry_sorted (args_sorted1 _) ?_
 unfold Builtin.«sorted»;refine wpAny_bind (m:=checkCount "sorted" 1 1 _) (wpAny_pure (wpAny_bind (wpAny_collect_str (A:=A.in1) hh (tx x) t (λs' acc k e1 e2 e3 it => ?_) (by rw[kP];exact b0 (by unfold cap;omega)))));rw[kP]at it;have sa:=nY it;have hl:acc.toList.length<64:=by rw[Array.length_toList,it.1];exact hn
 refine wpAny_bind (wpAny_newList ?_);have hoL:(s'.heap.push (seqObj "list" acc.toList.toArray 0)).get? s'.heap.objs.size=some (seqObj "list" acc.toList.toArray 0):=Heap.get?_push_size _ rfl;refine wpAny_bind (wpAny_holding (wpAny_call_entry slot_list_sort ⟨_,hoL,rfl⟩ entry_list_sort (list_sort_treeK strKind_oneLt (s:={ s' with heap:=s'.heap.push (seqObj "list" acc.toList.toArray 0) }) hoL sa.keysOf (λv₁ v₂ rest e=>keyKind_strs (by rw[<-e];exact sa)) hl λst' hp hs=>⟨_,rfl, ?_⟩) (args_list_sort _)));refine wpAny_pure ⟨_,rfl, ?_⟩;obtain⟨ss',g1,g2,g3⟩:=sorted_out_str sa hp hs;obtain⟨e,he⟩:=sortedHeap_at (out:=(arrOf st').map (·.2)) hoL
 obtain⟨y,hy⟩:∃y,y=ss'.map λz=>z.cps.getD 0 0:=⟨_,rfl⟩
 have ey:ss'=y.map λc=>tx [c]:=by
  rw[hy,List.map_map];refine(List.map_id ss').symm.trans (List.map_congr_left λz hz => ?_);obtain⟨c,_,rfl⟩:=List.mem_map.mp (g2.mem_iff.mp hz)
  rfl
 have py:y.Perm x:=by
  rw[hy];have:=g2.map λz:Str=>z.cps.getD 0 0
  rw[List.map_map]at this;refine this.trans (List.Perm.of_eq ?_);exact(List.map_congr_left λc _=>rfl).trans (List.map_id x)
 have so:y.Pairwise (· <= ·):=by
  rw[ey]at g3;cases y with
  |nil=>exact List.Pairwise.nil
  |cons c y=>exact nX y c g3
 have ex:y=nA x:=List.Perm.eq_of_pairwise (λ_ _ _ _ h1 h2=>Nat.le_antisymm h1 h2) so (iV x) (py.trans (lJ x).symm);rw[ey,ex]at g1;obtain⟨hp',gn,dr,tk,os⟩:=s';dsimp only at e1 e2 e3;subst e1 e2 e3;have kk:∀b o,s.heap.get? b=some o->b≠hp'.objs.size/\b<(hp'.push (seqObj "list" acc.toList.toArray 0)).objs.size/\(hp'.push (seqObj "list" acc.toList.toArray 0)).get? b=some o:=λb o g=>by
  have:=Heap.lt_size (k b o g);exact⟨Nat.ne_of_lt this,by rw[size_push'];omega,Heap.get?_push_of_some _ (k b o g)⟩
 refine q _ _ tk (λb o g=>(sortedHeap_old (kk b o g).1 (kk b o g).2.1).trans (kk b o g).2.2) (ah.list_iff.mpr ⟨_,_,rfl,λf => ?_,⟨_,he,rfl,_,rfl⟩,jE g1⟩);obtain⟨o,g⟩:=al _ f;exact(kk _ o g).1 rfl
theorem g8{f c:Str}(h:af (nm f) (nm c)=true):f=c:=bQ (ai.mp h)
theorem qV{x:V}{u:Value}(ok:(kz x).1=true)(h1:Seen G X s.heap x u):an G A X (call (.builtin "len") [u]) (kz x).2 s:=by
 induction x using V.casesOn with
 |str x=>
  obtain⟨t,rfl⟩:=h1.str;have ok':x.length<=1000000:=of_decide_eq_true ok;refine aP λE Q q=>PySem.P.len_str (by rw[aw];omega) ?_
  rw[aw];exact q _ _
 |list l=>
  obtain⟨a,vs,rfl,hl,rr⟩:=h1;have hsz:l.length=vs.size:=rr.length.trans Array.length_toList;have ok':l.length<=1000000:=of_decide_eq_true ok;refine aP λE Q q=>len_list hl ⋯ ?_
  rw[<-hsz];exact q _ _
 |tup l=>
  obtain⟨a,vs,rfl,n,hl,rr⟩:=ah.tup_iff.mp (show ah G X s.heap (.tup l) u from h1);have hsz:l.length=vs.size:=rr.length.trans Array.length_toList;have ok':l.length<=1000000:=of_decide_eq_true ok;refine aP λE Q q=>PyProof.Rows.len_tuple hl ⋯ ?_
  rw[<-hsz];exact q _ _
 |_=>exact ab ok
theorem cR{f:V->R}{as:List V}{us:List Value}{c:List Value->Sem Value}{h:Heap}(r:Reps G X h as us)(ok:(fm f as).1=true)(k:∀x u,ah G X h x u->(f x).1=true->an G A X (c [u]) (f x).2 s):an G A X (c us) (fm f as).2 s:=by
 induction as using List.casesOn with
 |nil=>exact ab ok
 |cons x as=>induction as using List.casesOn with
  |nil=>
   obtain⟨v,r',rfl,h1,h2⟩:=Reps.cons_iff.mp r;rw[Reps.nil_iff.mp h2];exact k x v h1 ok
  |cons _ _=>exact ab ok
theorem zs{f:V->V->R}{as:List V}{us:List Value}{c:List Value->Sem Value}{h:Heap}(r:Reps G X h as us)(ok:(qN f as).1=true)(k:∀x y u v,ah G X h x u->ah G X h y v->(f x y).1=true->an G A X (c [u,v]) (f x y).2 s):an G A X (c us) (qN f as).2 s:=by
 induction as using List.casesOn with
 |nil=>exact ab ok
 |cons x as=>
  obtain⟨v,r',rfl,h1,h2⟩:=Reps.cons_iff.mp r
  induction as using List.casesOn with
  |nil=>exact ab ok
  |cons y as=>induction as using List.casesOn with
   |nil=>
    obtain⟨w,r2,rfl,h3,h4⟩:=Reps.cons_iff.mp h2;rw[Reps.nil_iff.mp h4];exact k x y v w h1 h3 ok
   |cons _ _=>exact ab ok
end
noncomputable abbrev By(f:Str):Prop:=f∈(["len","ord","chr","min","max","sum","sorted","list","tuple","range","enumerate"]:List Str)
noncomputable def C0(G:Cfg)(A:Around)(x:Str×(List V->R)):Prop:=
 By x.1/\∃v,uE v/\bootBuiltins x.1=some v/\∀(X:Addr->Prop) (s:Shared) (as:List V) (us:List Value),(x.2 as).1=true->aF X s.heap->Reps G X s.heap as us->an G A X (call v us) (x.2 as).2 s
section
variable {G:Cfg} {A:Around}
theorem lK{f:Str}{F:List V->R}{id:String}(hn:By f)(hb:bootBuiltins f=some (.builtin id))(h:∀(X:Addr->Prop) (s:Shared) (as:List V) (us:List Value),(F as).1=true->aF X s.heap->Reps G X s.heap as us->an G A X (call (.builtin id) us) (F as).2 s):C0 G A (f,F):=
 ⟨hn,_, .inl ⟨_,rfl⟩,hb,h⟩
theorem uF {g:List Int->Int} {h:Int->Int->Int} {b:Value}
 (h1:∀(X:Addr->Prop) (s:Shared) (l:List V) (u:Value),l.all mV=true->l≠[]->ah G X s.heap (.list l) u->an G A X (call b [u]) (.int (g (l.map getI))) s)
 (h2:∀(X:Addr->Prop) (s:Shared) (i j:Int) (t t':Tok),an G A X (call b [.int i t, .int j t']) (.int (h i j)) s)
 (X:Addr->Prop) (s:Shared) (as:List V) (us:List Value) (ok:(ut g h as).1=true) (r:Reps G X s.heap as us):an G A X (call b us) (ut g h as).2 s:=by
 have two:∀as,Reps G X s.heap as us->(qN (λx y=>js (λa=>js (λb=>(true, .int (h a b))) y) x) as).1=true->an G A X (call b us) (qN (λx y=>js (λa=>js (λb=>(true, .int (h a b))) y) x) as).2 s:=λas r ok=>
  zs (c:=λus=>call b us) r ok λx y u v r1 r2 ok=>f0 (c:=λu=>call b [u,v]) r1 ok λi t ok=>f0 (c:=λv=>call b [.int i t,v]) r2 ok λj t' _=>h2 X s i j t t'
 induction as using List.casesOn with
 |nil=>exact ab ok
 |cons x as=>induction as using List.casesOn with
  |nil=>
   obtain⟨v,r',rfl,r1,r2⟩:=Reps.cons_iff.mp r;rw[Reps.nil_iff.mp r2];refine lA (c:=λu=>call b [u]) r1 ok λl rl ok => ?_
   have ok:=ay (ay ok).1;exact h1 X s l v ok.1 (λe=>by rw[e]at ok;exact ab ok.2) rl
  |cons y as=>exact two _ r ok
theorem Bz(hh:A.handled=none):∀x∈EC,C0 G A x:=
 List.forall_mem_cons.mpr ⟨lK nofun boot_len λX s as us ok al r=>cR (c:=λus=>call (.builtin "len") us) r ok λx u h ok=>qV ok (Seen.of h),
 List.forall_mem_cons.mpr ⟨lK nofun boot_ord λX s as us ok al r=>cR (c:=λus=>call (.builtin "ord") us) r ok λx u h ok=>fZ (c:=λu=>call (.builtin "ord") [u]) h ok λx t ok=>aP λE Q q=>ord_of_one (by rw[aw];exact Nat.eq_of_beq_eq_true ok) (by
  have e:(tx x).cps.getD 0 0=x.getD 0 0:=by simp[tx]
  rw[e];exact q _ _),
 List.forall_mem_cons.mpr ⟨lK nofun boot_chr λX s as us ok al r=>cR (c:=λus=>call (.builtin "chr") us) r ok λx u h ok=>f0 (c:=λu=>call (.builtin "chr") [u]) h ok λi t ok=>
  have ok:=ay ok
  cF λE Q q=>chr_of_range (of_decide_eq_true ok.1) (by have:=of_decide_eq_true ok.2;omega) (q _ _),
 List.forall_mem_cons.mpr ⟨lK nofun boot_min λX s as us ok al r=>uF (λX s l u o1 o2 r=>CZ hh o1 o2 r) (λX s i j t t'=>bB λE Q q=>min_two_ints hh λh' tk hk=>by
  by_cases h:j<i
  ·rw[if_pos h];exact q _ h' tk hk (ah.int_iff.mpr ⟨t',by unfold Bj;rw[decide_eq_true h];rfl⟩)
  ·rw[if_neg h];exact q _ h' tk hk (ah.int_iff.mpr ⟨t,by unfold Bj;rw[decide_eq_false h];rfl⟩)) X s as us ok r,
 List.forall_mem_cons.mpr ⟨lK nofun boot_max λX s as us ok al r=>uF (λX s l u o1 o2 r=>CY hh o1 o2 r) (λX s i j t t'=>bB λE Q q=>max_two_ints hh λh' tk hk=>by
  by_cases h:i<j
  ·rw[if_pos h];exact q _ h' tk hk (ah.int_iff.mpr ⟨t',by unfold Bk;rw[decide_eq_true h];rfl⟩)
  ·rw[if_neg h];exact q _ h' tk hk (ah.int_iff.mpr ⟨t,by unfold Bk;rw[decide_eq_false h];rfl⟩)) X s as us ok r,
 List.forall_mem_cons.mpr ⟨lK nofun boot_sum λX s as us ok al r=>cR (c:=λus=>call (.builtin "sum") us) r ok λx u h ok=>lA (c:=λu=>call (.builtin "sum") [u]) h ok λl h ok=>CX hh (ay ok).1 h,
 List.forall_mem_cons.mpr ⟨⟨nofun,_, .inr ⟨_,rfl⟩,PyProof.Rows.boot_tuple,λX s as us ok al r=>cR (c:=λus=>call (.type "tuple") us) r ok λx u h ok=>lA (c:=λu=>call (.type "tuple") [u]) h ok λl h ok=>zq al (of_decide_eq_true ok) h⟩,
 List.forall_mem_cons.mpr ⟨lK nofun boot_sorted λX s as us ok al r=>cR (c:=λus=>call (.builtin "sorted") us) r ok λx u h ok=>fZ (c:=λu=>call (.builtin "sorted") [u]) h ok λx t ok=>Bx hh al (of_decide_eq_true ok),
 List.forall_mem_cons.mpr ⟨⟨nofun,_, .inr ⟨_,rfl⟩,boot_list,λX s as us ok al r=>cR (c:=λus=>call (.type "list") us) r ok λx u h ok=>fZ (c:=λu=>call (.type "list") [u]) h ok λx t ok=>zr hh al (of_decide_eq_true ok)⟩,
 λ_ h=>nomatch h⟩⟩⟩⟩⟩⟩⟩⟩⟩
theorem pV{α:Type}{x:Str}{v:α}:∀{l:List (Str×α)},CQ l (nm x)=some v->(x,v)∈l
 |[],h=>ao h
 |(y,w)::r,h=>by
  have h':(bif af (nm x) (nm y)then some w else CQ r (nm x))=some v:=h;generalize c:af (nm x) (nm y)=b at h'
  induction b using Bool.casesOn with
  |true=>rw[g8 c,Option.some.inj h'];exact List.mem_cons_self ..
  |false=>exact List.mem_cons_of_mem _ (pV h')
theorem xm{o:Option (List V->R)}{as:List V}(ok:(D7 o as).1=true):∃F,o=some F/\(F as).1=true:=by
 induction o using Option.casesOn with
 |none=>exact ab ok
 |some F=>exact⟨F,rfl,ok⟩
theorem C1(hh:A.handled=none){f:Str}{as:List V}(ok:(eJ (nm f) as).1=true):
 By f/\∃v,uE v/\bootBuiltins f=some v/\∀(X:Addr->Prop) (s:Shared) (us:List Value),aF X s.heap->Reps G X s.heap as us->an G A X (call v us) (eJ (nm f) as).2 s:=by
 obtain⟨F,e,o⟩:=xm ok;obtain⟨hn,v,hp,hb,hy⟩:=Bz (G:=G) hh _ (pV e);refine⟨hn,v,hp,hb,λX s us al r => ?_⟩;unfold eJ;rw[e];exact hy X s as us o al r
end
end
section
open PySem PySem.W PySem.Calls PyProof.Rows
noncomputable def m5(G:Cfg)(h:Heap):Prop:=∀b o,G.h0.get? b=some o->h.get? b=some o
noncomputable def vq(G:Cfg)(X:Addr->Prop):Prop:=∀b,X b->G.h0.get? b=none
noncomputable def zt(G:Cfg)(A:Around)(v:Value):Prop:=∀(pos:Pos) (trees:List (Bool×Sem Value)) (s:Shared) (E:Value->Shared->Prop) (Q:Value->Shared->Prop),trees.any (·.1)=false ->
 wpAny (model G.p G.w) A (evalArgs v true trees []) (λa s₁=>m5 G s₁.heap/\wpAny (model G.p G.w) A (call v a.pos a.kw) Q E s₁) E s->wpAny (model G.p G.w) A (callWith pos v [] trees []) Q E s
structure av(G:Cfg)(A:Around)(Φ:Fns):Prop where
 none:A.handled=none
 units:A.units+200<cLine
 names:∃mg mb,G.h0.Ns mainGlobals mg/\G.h0.Ns builtinsNs mb /\
  (∀x v,kK Φ.glob (nm x)=some v->∃u,mg x=some u/\∀X h,m5 G h->vq G X->ah G X h v u) /\
  (∀f F,kK Φ.fn (nm f)=some F->∃a,mg f=some (.ref a)/\zt G A (.ref a) /\
    ∀X s as us,m5 G s.heap->vq G X->aF X s.heap->Reps G X s.heap as us->(F as).1=true->an G A X (call (.ref a) us) (F as).2 s) /\
  ∀f v,By f->bootBuiltins f=some v->mg f=Option.none/\mb f=some v
 attr:∀X s (x:V) (u:Value) (name:Str) (v:V),m5 G s.heap->ah G X s.heap x u->w6 (nm name) x=(true,v)->an G A X (getAttr u name true) v s
 meth:∀X s raw n nt cnt b sm a (name:Str) F (as:List V) (o:Expr) (apos pos:Pos) (env:Env) (trees:List (Bool×Sem Value)),kK Φ.meth (nm name)=some F->m5 G s.heap->vq G X->aF X s.heap ->
  ¬X a->pR G X s.heap a raw n nt cnt b sm->(F (.ws raw n nt cnt b sm::as)).1=true->trees.any (·.1)=false->trees.length<30->apos.endLine=pos.line ->
  ∀(E:Value->Shared->Prop) (Q:Value->Shared->Prop),
   wpAny (model G.p G.w) A (spliced trees) (λus s₁=>Keeps s s₁/\Reps G X s₁.heap as us/\∀u s',Keeps s₁ s'->ah G X s'.heap (F (.ws raw n nt cnt b sm::as)).2 u->Q u s') E s ->
   wpAny (model G.p G.w) A (methodCall o name apos pos env (.ref a) trees.length trees []) Q E s
section
variable {G:Cfg} {A:Around} {env:Env} {X:Addr->Prop} {κ:List (Str×NameKind)} {ρ:Rho} {Φ:Fns}
noncomputable def DN(G:Cfg)(A:Around)(env:Env)(X:Addr->Prop)(ρ:Rho)(t:Sem Value)(v:V):Prop:=
 ∀O s,bJ G env X O ρ s.heap->∀(E:Value->Shared->Prop) (Q:Value->Shared->Prop),(∀u s',Keeps s s'->Seen G (ag env X O) s'.heap v u->Q u s')->wpAny (model G.p G.w) A t Q E s
theorem gF.seen{t:Sem Value}{v:V}(h:gF G A env X ρ t v):DN G A env X ρ t v:=λO s S E Q q=>h O s S E Q λu s' k r=>q u s' k (Seen.of r)
theorem bJ.full{O}{h:Heap}(S:bJ G env X O ρ h):aF (ag env X O) h:=S.alive
theorem bJ.off{O}{h:Heap}(S:bJ G env X O ρ h):vq G (ag env X O):=S.new
structure ar(G:Cfg)(A:Around)(env:Env)(X:Addr->Prop)(ρ:Rho)(E:Expr->R):Prop where
 ok:∀e,(E e).1=true->gF G A env X ρ (eval e env) (E e).2
 noSet:∀es k p,(E (.Set es k p)).1=false
 noStar:∀e p,(E (.Starred e p)).1=false
theorem C2(Fa:av G A Φ)(En:am env κ){x:Str}{pos:Pos}(ok:(rd κ Φ ρ (nm x)).1=true):gF G A env X ρ (eval (.Name x pos) env) (rd κ Φ ρ (nm x)).2:=by
 intro O s S E Q q;unfold rd at ok q;cases c1:ae (kd κ (nm x))with
 |true=>
  rw[c1]at ok q;simp only[cond_true]at ok q;have hx:ae (env.kindOf x)=true:=(En.names x).trans c1;obtain⟨g,F,hg⟩:=S.look;have hs:=hg x hx;have pl:=En.plain x (by rw[hx];rfl);cases e:lk ρ (nm x)with
  |val v=>
   rw[e]at q hs;obtain⟨u,e1,r⟩:=hs;exact wpAny_Name (bZ En.kind F hx pl.2 e1 (q u s (Kp.refl s) r)) pl.1
  |_=>rw[e]at ok;exact ab ok
 |false=>
  rw[c1]at ok q;simp only[cond_false]at ok q;cases c2:aN (kd κ (nm x))with
  |true=>
   rw[c2]at ok q;simp only[cond_true]at ok q;have hx:aN (env.kindOf x)=true:=(En.glob x).trans c2;have pl:=En.plain x (by rw[hx,Bool.or_true]);obtain⟨mg,mb,h1,h2,h3,_⟩:=Fa.names;cases e:kK Φ.glob (nm x)with
   |none=>rw[e]at ok;exact ab ok
   |some v=>
    rw[e]at q;obtain⟨u,e1,r⟩:=h3 x v e;have hk:env.kindOf x=some .globalImplicit:=by
     cases k:env.kindOf x with
     |none=>rw[k]at hx;injections hx
     |some k'=>induction k' using NameKind.casesOn<;>first|rfl|(rw[k]at hx;injections hx)
    refine Name_function_global En.kind hk (loadGlobal_global (mg:=mg) ?_ e1 (q u s (Kp.refl s) (r _ _ S.old S.new))) pl.1;rw[En.globals];exact h1.keeps S.old
  |false=>rw[c2]at ok;injections ok
theorem qW{E:Expr->R}{e:Expr}(he:cC e=false):look κ ρ E e=E e:=by
 induction e using Expr.casesOn with
 |Name x p=>exact ab he.symm
 |_=>rfl
theorem zu{e:Expr}(he:cC e=true):∃x p,e = .Name x p:=by
 induction e using Expr.casesOn with
 |Name x p=>exact⟨x,p,rfl⟩
 |_=>exact ab he
theorem kQ(Fa:av G A Φ)(En:am env κ){E:Expr->R}(GE:ar G A env X ρ E){e:Expr}(ok:(look κ ρ E e).1=true):DN G A env X ρ (eval e env) (look κ ρ E e).2:=by
 cases c:cC e with
 |false=>rw[qW c]at ok |-;exact(GE.ok _ ok).seen
 |true=>
  obtain⟨x,p,rfl⟩:=zu c;have ok:(qO (ae (kd κ (nm x))) (E (.Name x p)) (lk ρ (nm x))).1=true:=ok;show DN G A env X ρ _ (qO (ae (kd κ (nm x))) (E (.Name x p)) (lk ρ (nm x))).2;cases e:lk ρ (nm x)with
  |own l=>
   rw[e]at ok;intro O s S E' Q q;have hx:ae (env.kindOf x)=true:=(En.names x).trans ok;have pl:=En.plain x (by rw[hx];rfl);obtain⟨g,F,hg⟩:=S.look;have hs:=hg x hx;rw[e]at hs;obtain⟨a,vs,e1,e2,⟨n,e3⟩,r⟩:=hs;refine wpAny_Name (bZ En.kind F hx pl.2 e1 (q _ s (Kp.refl s) ?_)) pl.1;show ∃a' vs,_;exact⟨a,vs,rfl,⟨_,e3,rfl,_,rfl⟩,r⟩
  |_=>rw[e]at ok;exact(GE.ok _ ok).seen
theorem xn{c:Const}{k:Nat}{pos:Pos}(ok:(pP c).1=true):gF G A env X ρ (eval (.Constant c k pos) env) (pP c).2:=by
 intro O s S E Q q
 induction c using Const.casesOn with
 |none=>exact λΓ p hΓ=>q .none s (Kp.refl s) (ah.none_iff.mpr rfl)
 |bool b=>exact λΓ p hΓ=>q (.bool b) s (Kp.refl s) (ah.bool_iff.mpr rfl)
 |int i=>exact wpAny_Constant_int (q _ _ (Kp.toks s _) (ah.int_iff.mpr ⟨_,rfl⟩))
 |str x=>exact Constant_str (q _ _ (Kp.toks s _) (ah.str_iff.mpr ⟨_,by rw[AJ]⟩))
 |_=>injections ok
theorem xo(Fa:av G A Φ)(En:am env κ){E:Ev}(GE:ar G A env X ρ (E κ ρ)){a b:Expr}{op:Operator}{pos:Pos}(ok:(nB E κ ρ a op b).1=true):
 gF G A env X ρ (eval (.BinOp a op b pos) env) (nB E κ ρ a op b).2:=by
 have key:∀x:R,(x.1=true->DN G A env X ρ (eval a env) x.2)->((x.1&&(E κ ρ b).1&&(bW op x.2 (E κ ρ b).2).1,(bW op x.2 (E κ ρ b).2).2):R).1=true ->
  gF G A env X ρ (eval (.BinOp a op b pos) env) (bW op x.2 (E κ ρ b).2).2:=by
  intro x hx ok;simp only[Bool.and_eq_true]at ok;obtain⟨⟨o1,o2⟩,o3⟩:=ok;intro O s S E' Q q;exact wpAny_BinOp (hx o1 O s S _ _ λu s1 k1 r1=>GE.ok b o2 O s1 (S.keeps (Kp.keep k1)) _ _ λv s2 k2 r2=>
   Bt ((S.keeps (Kp.keep k1)).keeps (Kp.keep k2)).full o3 (r1.keeps (Kp.keep k2)) r2 _ _ λw s3 k3 r3=>q w s3 (Kp.trans k1 (Kp.trans k2 k3)) r3)
 unfold nB at ok |-
 induction op using Operator.casesOn with
 |Add=>exact key (look κ ρ (E κ ρ) a) (λh=>kQ Fa En GE h) ok
 |_=>exact key (E κ ρ a) (λh=>(GE.ok a h).seen) ok
theorem zv{E:Expr->R}(GE:ar G A env X ρ E){a:Expr}{op:UnaryOp}{pos:Pos}(ok:(ze E op a).1=true):gF G A env X ρ (eval (.UnaryOp op a pos) env) (ze E op a).2:=by
 unfold ze at ok |-;simp only[Bool.and_eq_true]at ok;intro O s S E' Q q;exact wpAny_UnaryOp (GE.ok a ok.1 O s S _ _ λu s1 k1 r1=>CW ok.2 r1 _ _ λw s2 k2 r2=>q w s2 (Kp.trans k1 k2) r2)
theorem xp{E:Expr->R}(GE:ar G A env X ρ E){e:Expr}(ok:(E e).1=true)(op:CmpOp):behindInMarks op e=false:=by
 induction e using Expr.casesOn with
 |Set es k p=>rw[GE.noSet]at ok;injections ok
 |_=>rfl
theorem eC{E:Expr->R}(GE:ar G A env X ρ E){e:Expr}(ok:(E e).1=true)(rest:List Expr):starEach (e::rest) env=(false,eval e env)::starEach rest env:=by
 induction e using Expr.casesOn with
 |Starred e p=>rw[GE.noStar]at ok;injections ok
 |_=>rfl
theorem lL{E:Expr->R}{e:Expr}{es:List Expr}(ok:(cy E (e::es)).1=true):(E e).1=true/\(cy E es).1=true:=by
 exact ay ok
theorem cS{E:Expr->R}(GE:ar G A env X ρ E)(pos:Pos):∀{es:List Expr},(cy E es).1=true->∀O s,bJ G env X O ρ s.heap->∀(E':Value->Shared->Prop) (Q:List Value->Shared->Prop),
 (∀us s',Keeps s s'->Reps G (ag env X O) s'.heap (cy E es).2 us->Q us s')->wpAny (model G.p G.w) A (spliced (backTo pos (starEach es env))) Q E' s
 |[],_,O,s,S,E',Q,q=>spliced_nil (q [] s (Kp.refl s) Reps.nil)
 |e::es,ok,O,s,S,E',Q,q=>by
  obtain⟨o1,o2⟩:=lL ok;rw[eC GE o1];show wpAny _ A (spliced ((false,eval e env)::backTo pos (starEach es env))) Q E' s;exact spliced_cons (GE.ok e o1 O s S _ _ λu s1 k1 r1=>cS GE pos o2 O s1 (S.keeps (Kp.keep k1)) _ _ λus s2 k2 r2=>
   q (u::us) s2 (Kp.trans k1 k2) (Reps.cons (r1.on (On.of_keeps (Kp.keep k2))) r2))
theorem ci{E:Expr->R}(GE:ar G A env X ρ E)(pos:Pos):∀{es:List Expr},(cy E es).1=true->(backTo pos (starEach es env)).any (·.1)=false/\(backTo pos (starEach es env)).length=es.length
 |[],_=>⟨rfl,rfl⟩
 |e::es,ok=>by
  obtain⟨o1,o2⟩:=lL ok;rw[eC GE o1];have ih:=ci GE pos o2;show(((false,eval e env)::backTo pos (starEach es env)).any (·.1))=false/\((false,eval e env)::backTo pos (starEach es env)).length=_;rw[List.any_cons,ih.1,List.length_cons,ih.2];exact⟨rfl,rfl⟩
theorem zw{E:Expr->R}(GE:ar G A env X ρ E){es:List Expr}{pos:Pos}(ok:il (cy E es)=true):gF G A env X ρ (eval (.List es pos) env) (.list (cy E es).2):=by
 unfold il at ok;simp only[Bool.and_eq_true,decide_eq_true_eq]at ok;intro O s S E' Q q;refine wpAny_List_spliced (cS GE pos ok.1 O s S _ _ λus s1 k1 r1=>⟨by rw[<-r1.length];exact b0 ok.2, ?_⟩);exact q _ _ (Kp.trans k1 (Kp.push s1 _ s1.toks)) (bO (S.keeps (Kp.keep k1)).full r1)
theorem BA{E:Expr->R}(GE:ar G A env X ρ E){es:List Expr}{k:Nat}{pos:Pos}(ok:il (cy E es)=true):gF G A env X ρ (eval (.Tuple es k pos) env) (.tup (cy E es).2):=by
 unfold il at ok;simp only[Bool.and_eq_true,decide_eq_true_eq]at ok;intro O s S E' Q q;refine wpAny_Tuple_spliced (cS GE pos ok.1 O s S _ _ λus s1 k1 r1=>⟨by rw[<-r1.length];exact b0 ok.2, ?_⟩);exact q _ _ (Kp.trans k1 (Kp.push s1 _ s1.toks)) (iS (S.keeps (Kp.keep k1)).full r1)
noncomputable def BB(G:Cfg)(A:Around)(env:Env)(X:Addr->Prop)(ρ:Rho)(t:Sem Bool)(b:Bool):Prop:=
 ∀O s,bJ G env X O ρ s.heap->∀(E:Value->Shared->Prop) (Q:Bool->Shared->Prop),(∀s',Keeps s s'->Q b s')->wpAny (model G.p G.w) A t Q E s
structure g9(G:Cfg)(A:Around)(env:Env)(X:Addr->Prop)(ρ:Rho)(E:Expr->R):Prop where
 ok:∀e,(E e).1=true->(aa (E e).2).1=true->BB G A env X ρ (isTrue e env (eval e env)) (aa (E e).2).2
theorem zx{E:Expr->R}(GE:ar G A env X ρ E)(GT:g9 G A env X ρ E){t a b:Expr}{pos:Pos}(ok:(mZ E t a b).1=true):gF G A env X ρ (eval (.IfExp t a b pos) env) (mZ E t a b).2:=by
 unfold mZ at ok |-;simp only[Bool.and_eq_true]at ok;obtain⟨⟨o1,o2⟩,o3⟩:=ok;intro O s S E' Q q;refine wpAny_IfExp (GT.ok t o1 o2 O s S _ _ λs1 k1 => ?_);simp only[bo]at q;cases c:(aa (E t).2).2 with
 |true=>
  rw[c]at o3 q;simp only[cond_true]at o3 q;exact GE.ok a o3 O s1 (S.keeps (Kp.keep k1)) _ _ λu s2 k2 r2=>q u s2 (Kp.trans k1 k2) r2
 |false=>
  rw[c]at o3 q;simp only[cond_false]at o3 q;exact GE.ok b o3 O s1 (S.keeps (Kp.keep k1)) _ _ λu s2 k2 r2=>q u s2 (Kp.trans k1 k2) r2
theorem jF {v:V} {u:Value} {O} {s:Shared} (ok:(aa v).1=true) (r:ah G (ag env X O) s.heap v u) {E:Value->Shared->Prop} {Q:Bool->Shared->Prop}
 (q:∀s',Keeps s s'->Q (aa v).2 s'):wpAny (model G.p G.w) A (truthy u) Q E s:=nL ok r E Q λtk=>q _ (Kp.toks s tk)
theorem xq{E:Expr->R}(GE:ar G A env X ρ E)(pos:Pos):∀{es:List Expr},(eS E es).1=true->gF G A env X ρ (boolOp pos .And (evalEach es env)) (eS E es).2
 |[],ok=>by injections ok
 |[e],ok=>GE.ok e ok
 |e::f::es,ok=>by
  have ok':(E e).1=true/\(aa (E e).2).1=true/\(bif (aa (E e).2).2 then(eS E (f::es)).1 else true)=true:=by
   exact⟨(ay (ay ok).1).1,(ay (ay ok).1).2,(ay ok).2⟩
  obtain⟨o1,o2,o3⟩:=ok';have ev:(eS E (e::f::es)).2=cQ (aa (E e).2).2 (eS E (f::es)).2 (E e).2:=rfl;rw[ev,bo];intro O s S E' Q q;show wpAny _ A (boolOp pos .And (eval e env::evalEach (f::es) env)) Q E' s;have un:boolOp pos .And (eval e env::evalEach (f::es) env)=(do
   let v <-eval e env
   standAt pos
   let t <-holding [v] (truthy v)
   match BoolOp.And,t with
   | .And,false| .Or,true=>pure v
   |_,_=>boolOp pos .And (evalEach (f::es) env)):=rfl
  rw[un];refine wpAny_bind (GE.ok e o1 O s S _ _ λu s1 k1 r1=>wpAny_bind (wpAny_standAt (wpAny_bind (wpAny_holding (jF o2 r1 λs2 k2 => ?_)))));cases c:(aa (E e).2).2 with
  |true=>
   rw[c]at o3 q;simp only[cond_true]at o3 q;exact xq GE pos o3 O s2 ((S.keeps (Kp.keep k1)).keeps (Kp.keep k2)) _ _ λw s3 k3 r3=>q w s3 (Kp.trans k1 (Kp.trans k2 k3)) r3
  |false=>
   rw[c]at q;simp only[cond_false]at q;exact wpAny_pure (q u s2 (Kp.trans k1 k2) (r1.on (On.of_keeps (Kp.keep k2))))
theorem AL{E:Expr->R}(GE:ar G A env X ρ E)(pos:Pos):∀{es:List Expr},(mX E es).1=true->gF G A env X ρ (boolOp pos .Or (evalEach es env)) (mX E es).2
 |[],ok=>by injections ok
 |[e],ok=>GE.ok e ok
 |e::f::es,ok=>by
  have ok':(E e).1=true/\(aa (E e).2).1=true/\(bif (aa (E e).2).2 then true else(mX E (f::es)).1)=true:=by
   exact⟨(ay (ay ok).1).1,(ay (ay ok).1).2,(ay ok).2⟩
  obtain⟨o1,o2,o3⟩:=ok';have ev:(mX E (e::f::es)).2=cQ (aa (E e).2).2 (E e).2 (mX E (f::es)).2:=rfl;rw[ev,bo];intro O s S E' Q q;have un:boolOp pos .Or (evalEach (e::f::es) env)=(do
   let v <-eval e env
   standAt pos
   let t <-holding [v] (truthy v)
   match BoolOp.Or,t with
   | .And,false| .Or,true=>pure v
   |_,_=>boolOp pos .Or (evalEach (f::es) env)):=rfl
  rw[un];refine wpAny_bind (GE.ok e o1 O s S _ _ λu s1 k1 r1=>wpAny_bind (wpAny_standAt (wpAny_bind (wpAny_holding (jF o2 r1 λs2 k2 => ?_)))));cases c:(aa (E e).2).2 with
  |false=>
   rw[c]at o3 q;simp only[cond_false]at o3 q;exact AL GE pos o3 O s2 ((S.keeps (Kp.keep k1)).keeps (Kp.keep k2)) _ _ λw s3 k3 r3=>q w s3 (Kp.trans k1 (Kp.trans k2 k3)) r3
  |true=>
   rw[c]at q;simp only[cond_true]at q;exact wpAny_pure (q u s2 (Kp.trans k1 k2) (r1.on (On.of_keeps (Kp.keep k2))))
theorem uG{E:Expr->R}(GT:g9 G A env X ρ E):∀{es:List Expr},(eS E es).1=true->(aa (eS E es).2).1=true->BB G A env X ρ (allTrue .And es env) (aa (eS E es).2).2
 |[],ok,_=>by injections ok
 |[e],ok,tr=>λO s S E' Q q=>by
  rw[arm_allTrue_cons];refine wpAny_bind (GT.ok e ok tr O s S _ _ λs1 k1 => ?_);have:=q s1 k1
  change Q (aa (E e).2).2 s1 at this
  cases c:(aa (E e).2).2 with
  |true=>rw[c]at this;exact wpAny_pure this
  |false=>rw[c]at this;exact wpAny_pure this
 |e::f::es,ok,tr=>by
  have ok':(E e).1=true/\(aa (E e).2).1=true/\(bif (aa (E e).2).2 then(eS E (f::es)).1 else true)=true:=by
   exact⟨(ay (ay ok).1).1,(ay (ay ok).1).2,(ay ok).2⟩
  obtain⟨o1,o2,o3⟩:=ok';have ev:(eS E (e::f::es)).2=cQ (aa (E e).2).2 (eS E (f::es)).2 (E e).2:=rfl;rw[ev,bo]at tr |-;intro O s S E' Q q;rw[arm_allTrue_cons];refine wpAny_bind (GT.ok e o1 o2 O s S _ _ λs1 k1 => ?_);cases c:(aa (E e).2).2 with
  |true=>
   rw[c]at o3 q tr;simp only[cond_true]at o3 q tr;exact uG GT o3 tr O s1 (S.keeps (Kp.keep k1)) _ _ λs2 k2=>q s2 (Kp.trans k1 k2)
  |false=>
   rw[c]at q;simp only[cond_false]at q;have:=q s1 k1;rw[c]at this;exact wpAny_pure this
theorem xr{E:Expr->R}(GT:g9 G A env X ρ E):∀{es:List Expr},(mX E es).1=true->(aa (mX E es).2).1=true->BB G A env X ρ (allTrue .Or es env) (aa (mX E es).2).2
 |[],ok,_=>by injections ok
 |[e],ok,tr=>λO s S E' Q q=>by
  rw[arm_allTrue_cons];refine wpAny_bind (GT.ok e ok tr O s S _ _ λs1 k1 => ?_);have:=q s1 k1
  change Q (aa (E e).2).2 s1 at this
  cases c:(aa (E e).2).2 with
  |true=>rw[c]at this;exact wpAny_pure this
  |false=>rw[c]at this;exact wpAny_pure this
 |e::f::es,ok,tr=>by
  have ok':(E e).1=true/\(aa (E e).2).1=true/\(bif (aa (E e).2).2 then true else(mX E (f::es)).1)=true:=by
   exact⟨(ay (ay ok).1).1,(ay (ay ok).1).2,(ay ok).2⟩
  obtain⟨o1,o2,o3⟩:=ok';have ev:(mX E (e::f::es)).2=cQ (aa (E e).2).2 (E e).2 (mX E (f::es)).2:=rfl;rw[ev,bo]at tr |-;intro O s S E' Q q;rw[arm_allTrue_cons];refine wpAny_bind (GT.ok e o1 o2 O s S _ _ λs1 k1 => ?_);cases c:(aa (E e).2).2 with
  |false=>
   rw[c]at o3 q tr;simp only[cond_false]at o3 q tr;exact xr GT o3 tr O s1 (S.keeps (Kp.keep k1)) _ _ λs2 k2=>q s2 (Kp.trans k1 k2)
  |true=>
   rw[c]at q;simp only[cond_true]at q;have:=q s1 k1;rw[c]at this;exact wpAny_pure this
end
end
section
open PySem PySem.W PySem.Calls PyProof.Rows
open PySem.Builtin PySem.Builtin.Str
section
variable {G:Cfg} {A:Around} {env:Env} {X:Addr->Prop} {κ:List (Str×NameKind)} {ρ:Rho} {Φ:Fns} {s:Shared}
theorem uH{h:Heap}:∀{l:List V} {vs:List Value},l.all y3=true->Reps G X h l vs->StrsAre vs ((l.map ky).map tx)
 |[],vs,_,r=>by rw[Reps.nil_iff.mp r];exact .nil
 |x::l,vs,a,r=>by
  obtain⟨v,r',rfl,h1,h2⟩:=Reps.cons_iff.mp r;rw[List.all_cons,Bool.and_eq_true]at a;rw[<-s8 a.1]at h1;obtain⟨t,rfl⟩:=ah.str_iff.mp h1;exact .cons _ t (uH a.2 h2)
theorem nZ{h:Heap}:∀{ys:List Str} {n:Nat},Reps G X h ((ys.map λx=>x.cps.toList).map .str) (strsFrom n ys)
 |[],n=>Reps.nil
 |y::ys,n=>Reps.cons (ah.str_iff.mpr ⟨n,by cases y;simp[tx]⟩) nZ
theorem lM(sep:List Nat):∀(l:List (List Nat)) (acc:List Nat),(l.map tx).foldl (λ(a:Array Nat) (p:Str)=>a++(tx sep).cps++p.cps) acc.toArray=(acc++l.flatMap λx=>sep++x).toArray
 |[],acc=>by simp
 |x::l,acc=>by
  rw[List.map_cons,List.foldl_cons];have e:acc.toArray++(tx sep).cps++(tx x).cps=(acc++sep++x).toArray:=by simp[tx]
  rw[e,lM sep l];simp
theorem ip(sep x:List Nat):∀l:List (List Nat),dM sep (x::l)=x++l.flatMap λy=>sep++y
 |[]=>(List.append_nil x).symm
 |y::l=>by rw[zb,ip sep y l];simp
theorem zy(sep:List Nat)(l:List (List Nat)):Txt.join (tx sep) (l.map tx)=tx (dM sep l):=by
 unfold Txt.join glued
 induction l using List.casesOn with
 |nil=>rfl
 |cons x l=>
  rw[ip];simp only[List.map_cons,List.drop_succ_cons,List.drop_zero,List.headD_cons];have:=lM sep l x;have e:(tx x).cps=x.toArray:=rfl;rw[e,this];rfl
theorem vr(l:List (List Nat)):((l.map tx).map (·.length)).sum=(l.map List.length).sum:=by
 congr 1
 rw[List.map_map];apply List.map_congr_left;intro x _;exact aw x
theorem vt(x:Str)(cuts:List Nat)(w:Nat):(partsBetween x cuts w).length=cuts.length+1:=by
 unfold partsBetween;simp
theorem og(x:Str):tx x.cps.toList=x:=by cases x;simp[tx]
theorem uI{n:Nat}(h:n<=3*cap):tooLong n=false:=by
 unfold tooLong sizeLine;unfold cap at h;exact decide_eq_false ⋯
theorem lN(x:Str)(f:Nat->Nat->List Nat)(h:∀i c,(f i c).length<=3):(placed x f).size<=3*x.length:=by
 unfold placed;refine Nat.le_trans (StrLaws.flatten_le3 _ λa ha => ?_) (by simp[Str.length]);obtain⟨i,hi,e⟩:=Array.getElem_of_mem ha;rw[<-e,Array.getElem_mapIdx]
 simpa using h _ _
theorem zz{x:List Nat}{t:Tok}(h:x.length<=cap):an G A X (call (.builtin "str.lower") [.str (tx x) t]) (.str (bR x)) s:=
 cF λE Q q=>SC.lower (by
  have:=lN (tx x) (λi _=>Unicode.lowerAt (tx x).cps i) λi _=>StrLaws.lowerAt_le3 _ _
  rw[aw]at this;exact uI (n:=(Txt.lower (tx x)).length) (by show(placed (tx x) _).size<=_;omega)) (by
   have e:tx (bR x)=Txt.lower (tx x):=og _;rw[<-e];exact q _ _)
theorem zA{x:List Nat}{t:Tok}(h:x.length<=cap):an G A X (call (.builtin "str.upper") [.str (tx x) t]) (.str (pL x)) s:=
 cF λE Q q=>SC.upper (by
  have:=lN (tx x) (λ_ c=>Unicode.upperOf c) λ_ c=>StrLaws.upperOf_le3 _
  rw[aw]at this;exact uI (n:=(Txt.upper (tx x)).length) (by show(placed (tx x) _).size<=_;omega)) (by
   have e:tx (pL x)=Txt.upper (tx x):=og _;rw[<-e];exact q _ _)
theorem xt{x:List Nat}{t:Tok}{l:List V}{u:Value}(h1:l.all y3=true)(h2:((l.map ky).map List.length).sum+l.length*x.length<=cap)(r:ah G X s.heap (.list l) u):
 an G A X (call (.builtin "str.join") [.str (tx x) t,u]) (.str (dM x (l.map ky))) s:=by
 obtain⟨a,vs,rfl,n,hl,rr⟩:=ah.list_iff.mp r;refine cF λE Q q=>join_list hl (uH h1 rr) ?_ λt' k => ?_
 ·rw[vr,List.length_map,List.length_map,aw];unfold cap at h2;omega
 ·rw[zy];exact q _ _
theorem zB{x y:List Nat}{t u:Tok}(al:aF X s.heap)(h1:x.length<=cap)(h2:y.isEmpty=false):
 an G A X (call (.builtin "str.split") [.str (tx x) t, .str (tx y) u]) (.list ((eH x y).map .str)) s:=by
 intro E Q q;have hy:((tx y).length==0)=false:=by
  rw[aw];induction y using List.casesOn with
  |nil=>injections h2
  |cons c y=>rfl
 have one:∀{Q:Value->Shared->Prop},eH x y=[x]->(∀u s',Keeps s s'->ah G X s'.heap (.list ((eH x y).map .str)) u->Q u s') ->
  Q (.ref s.heap.objs.size) { s with heap:=s.heap.push { cls := .type "list",data := .seq #[.str (tx x) t] } }:=λ{Q} e q=>
  q _ _ (Kp.push s _ s.toks) (by rw[e];exact bO al (Reps.cons (ah.str_iff.mpr ⟨t,rfl⟩) Reps.nil))
 have single:Txt.split (tx x) (tx y)=[tx x]->eH x y=[x]:=λe=>by unfold eH;rw[e];simp[tx]
 have hx:(tx x).length<=sizeLine:=by rw[aw];exact b0 h1
 cases h1:(decide ((tx x).length<(tx y).length)||decide (Builtin.Str.strKind (tx x)<Builtin.Str.strKind (tx y)))
 ·cases hf:(occurrences (tx x) (tx y) 0 (tx x).length ((tx x).length+1)).isEmpty
  ·have hn:(partsBetween (tx x) (occurrences (tx x) (tx y) 0 (tx x).length ((tx x).length+1)) (tx y).length).length<=sizeLine:=by
    rw[vt];have:=StrLaws.occ_length_le (tx x) (tx y) 0 (tx x).length ((tx x).length+1);rename_i h1';rw[aw]at this |-;unfold cap at h1';rw[sizeLine_eq];omega
   refine call_meets F.slot_str_split (typeIs_str _ _ _) F.entry_str_split (F.args_str_split_2 _ _) (meets_str_split_sep (tx x) (tx y) t u h1 hy hf hx hn) ?_;refine q _ _ (Kp.push s _ _) ?_;have e:eH x y=(partsBetween (tx x) (occurrences (tx x) (tx y) 0 (tx x).length ((tx x).length+1)) (tx y).length).map λx=>x.cps.toList:=by
    unfold eH Txt.split;rw[h1,hf];rfl
   rw[e];exact bO al nZ
  ·exact call_meets F.slot_str_split (typeIs_str _ _ _) F.entry_str_split (F.args_str_split_2 _ _) (meets_str_split_not_found (tx x) (tx y) t u h1 hy hf)
    (one (single ((if_neg (ne_true_of_eq_false h1)).trans (if_pos hf))) q)
 ·exact call_meets F.slot_str_split (typeIs_str _ _ _) F.entry_str_split (F.args_str_split_2 _ _) (meets_str_split_cannot_occur (tx x) (tx y) t u h1)
   (one (single (if_pos h1)) q)
noncomputable def C3(G:Cfg)(A:Around)(x:Str×(List Nat->List V->R)):Prop:=
 ∃id,PySem.Slot "str" x.1 id/\typeOf (.builtin id)=pure (.type "method_descriptor")/\∀(X:Addr->Prop) (s:Shared) (y:List Nat) (t:Tok) (as:List V) (us:List Value),(x.2 y as).1=true->aF X s.heap->Reps G X s.heap as us ->
    an G A X (call (.builtin id) (.str (tx y) t::us)) (x.2 y as).2 s
theorem uJ{y:List Nat}{as:List V}{us:List Value}{v:V}{c:List Value->Sem Value}{h:Heap}(r:Reps G X h as us)(ok:(as.isEmpty&&decide (y.length<=cap))=true)(k:y.length<=cap->an G A X (c []) v s):an G A X (c us) v s:=by
 have ok:=ay ok
 induction as using List.casesOn with
 |nil=>rw[Reps.nil_iff.mp r];exact k (of_decide_eq_true ok.2)
 |cons _ _=>exact ab ok.1
theorem zC:∀x∈CP,C3 G A x:=
 List.forall_mem_cons.mpr ⟨⟨_,F.slot_str_join,F.type_str_join,λX s y t as us ok al r=>cR (c:=λus=>call (.builtin "str.join") (.str (tx y) t::us)) r ok λx u h ok=>lA (c:=λu=>call (.builtin "str.join") [.str (tx y) t,u]) h ok λl h ok=>
  have ok:=ay ok
  xt (ay ok.1).1 (of_decide_eq_true ok.2) h⟩,
 List.forall_mem_cons.mpr ⟨⟨_,F.slot_str_lower,F.type_str_lower,λX s y t as us ok al r=>uJ (c:=λus=>call (.builtin "str.lower") (.str (tx y) t::us)) r ok zz⟩,
 List.forall_mem_cons.mpr ⟨⟨_,F.slot_str_upper,F.type_str_upper,λX s y t as us ok al r=>uJ (c:=λus=>call (.builtin "str.upper") (.str (tx y) t::us)) r ok zA⟩,
 List.forall_mem_cons.mpr ⟨⟨_,F.slot_str_split,F.type_str_split,λX s y t as us ok al r=>cR (c:=λus=>call (.builtin "str.split") (.str (tx y) t::us)) r ok λx u h ok=>fZ (c:=λu=>call (.builtin "str.split") [.str (tx y) t,u]) h ok λx t' ok=>
  have ok:=ay ok
  zB al (of_decide_eq_true ok.1) ((Bool.not_eq_true' _).mp ok.2)⟩,
 List.forall_mem_cons.mpr ⟨⟨_,F.slot_str_count,F.type_str_count,λX s y t as us ok al r=>cR (c:=λus=>call (.builtin "str.count") (.str (tx y) t::us)) r ok λx u h ok=>fZ (c:=λu=>call (.builtin "str.count") [.str (tx y) t,u]) h ok λx t' ok=>
  aP λE Q q=>SC.count (q _ _)⟩,
 λ_ h=>nomatch h⟩⟩⟩⟩⟩
theorem zD{m:Str}{x:List Nat}{as:List V}(ok:(vk (nm m) x as).1=true):
 ∃id,PySem.Slot "str" m id/\typeOf (.builtin id)=pure (.type "method_descriptor")/\∀(X:Addr->Prop) (s:Shared) (t:Tok) (us:List Value),aF X s.heap->Reps G X s.heap as us ->
  an G A X (call (.builtin id) (.str (tx x) t::us)) (vk (nm m) x as).2 s:=by
 obtain⟨F,e,o⟩:=xm ok;obtain⟨f,e1,e2⟩:=Option.map_eq_some_iff.mp e;obtain⟨id,h1,h2,hy⟩:=zC (G:=G) (A:=A) _ (pV e1);refine⟨id,h1,h2,λX s t us al r => ?_⟩;unfold vk;rw[e1];subst e2;exact hy X s x t as us o al r
end
end
section
open PySem PySem.W PySem.Calls PyProof.Rows
section
variable {G:Cfg} {A:Around} {env:Env} {X:Addr->Prop} {κ:List (Str×NameKind)} {ρ:Rho} {Φ:Fns}
theorem zE(Fa:av G A Φ){E:Expr->R}(GE:ar G A env X ρ E){a b:Expr}{op:CmpOp}{pos:Pos}(ok:(ft E a op b).1=true):
 gF G A env X ρ (eval (.Compare a [op] [b] pos) env) (ft E a op b).2:=by
 unfold ft at ok |-;simp only[Bool.and_eq_true]at ok;obtain⟨⟨o1,o2⟩,o3⟩:=ok;intro O s S E' Q q;refine wpAny_Compare1 (GE.ok a o1 O s S _ _ λu s1 k1 r1=>GE.ok b o2 O s1 (S.keeps (Kp.keep k1)) _ _ λv s2 k2 r2 => ?_) (xp GE o2 op);exact xd Fa.units o3 (r1.on (On.of_keeps (Kp.keep k2))) r2 _ _ (q _ s2 (Kp.trans k1 k2) (ah.bool_iff.mpr rfl))
theorem te{E:Expr->R}(GE:ar G A env X ρ E){b:Expr}(o:(E b).1=true)(op:CmpOp):markedEach [op] [b] (evalEach [b] env)=[eval b env]:=by
 show[markedBehindIn op b (eval b env)]=_;rw[markedBehindIn_of_false (xp GE o op)]
theorem vu(Fa:av G A Φ){E:Expr->R}(GE:ar G A env X ρ E){a b:Expr}{op:CmpOp}{pos:Pos}{m:Sem Value}(ok:(ft E a op b).1=true):
 BB G A env X ρ (isTrue (.Compare a [op] [b] pos) env m) (aa (ft E a op b).2).2:=by
 unfold ft at ok |-;simp only[Bool.and_eq_true]at ok;obtain⟨⟨o1,o2⟩,o3⟩:=ok;intro O s S E' Q q;rw[arm_isTrue_Compare,te GE o2];refine wpAny_bind (GE.ok a o1 O s S _ _ λu s1 k1 r1 => ?_);show wpAny _ A (do
  let rv <-holding [u] (eval b env)
  standAt pos
  let c <-operate [u,rv] (compareOp op u rv)
  holding [c] (truthy c)) Q E' s1
 refine wpAny_bind (wpAny_holding (GE.ok b o2 O s1 (S.keeps (Kp.keep k1)) _ _ λv s2 k2 r2=>wpAny_bind (wpAny_standAt (wpAny_bind (wpAny_operating ?_)))));exact xd Fa.units o3 (r1.on (On.of_keeps (Kp.keep k2))) r2 _ _ (wpAny_holding (wpAny_truthy_bool (q s2 (Kp.trans k1 k2))))
theorem pW{E:Expr->R}(GE:ar G A env X ρ E){e:Option Expr}(ok:(fG E e).1=true):gF G A env X ρ (evalPart e env) (fG E e).2:=by
 induction e using Option.casesOn with
 |none=>intro O s S E' Q q;exact wpAny_pure (q _ s (Kp.refl s) (ah.none_iff.mpr rfl))
 |some e=>exact GE.ok e ok
theorem xu{E:Expr->R}(GE:ar G A env X ρ E){o:Expr}{lo hi st:Option Expr}{p pos:Pos}(ok:(kM E o lo hi st).1=true):
 gF G A env X ρ (eval (.Subscript o (.Slice lo hi st p) pos) env) (kM E o lo hi st).2:=by
 unfold kM at ok |-;simp only[Bool.and_eq_true]at ok;obtain⟨⟨⟨⟨o1,o2⟩,o3⟩,o4⟩,o5⟩:=ok;intro O s S E' Q q;refine uD (GE.ok o o1 O s S _ _ λu s1 k1 r1=>wpAny_Slice ?_);have S1:=S.keeps (Kp.keep k1);refine pW GE o2 O s1 S1 _ _ λva s2 k2 r2 => ?_
 have S2:=S1.keeps (Kp.keep k2);refine pW GE o3 O s2 S2 _ _ λvb s3 k3 r3 => ?_
 have S3:=S2.keeps (Kp.keep k3);refine pW GE o4 O s3 S3 _ _ λvc s4 k4 r4 => ?_
 have S4:=S3.keeps (Kp.keep k4);have up:=dg s4.heap { cls := .type "slice",data := .fields #[va,vb,vc] };refine xj (s:={ s4 with heap:=s4.heap.push { cls := .type "slice",data := .fields #[va,vb,vc] } }) (S4.keeps up).full o5 (Heap.IsSliceOf.new _ _ _ _)
  (r1.on (On.of_keeps λb o e=>up b o (Kp.keep k4 b o (Kp.keep k3 b o (Kp.keep k2 b o e))))) (r2.on (On.of_keeps λb o e=>up b o (Kp.keep k4 b o (Kp.keep k3 b o e))))
  (r3.on (On.of_keeps λb o e=>up b o (Kp.keep k4 b o e))) (r4.on (On.of_keeps up)) _ _ λw s5 k5 r5 => ?_
 exact q w s5 (Kp.trans k1 (Kp.trans k2 (Kp.trans k3 (Kp.trans k4 (Kp.trans (Kp.push s4 _ s4.toks) k5))))) r5
theorem zF(Fa:av G A Φ)(En:am env κ){E:Ev}{τ:Tau}(GE:ar G A env X ρ (E κ ρ)){o i:Expr}{pos:Pos}(ok:(ll E τ κ ρ o i).1=true):
 gF G A env X ρ (eval (.Subscript o i pos) env) (ll E τ κ ρ o i).2:=by
 have o4:=ay ok;have o1:=ay o4.1;intro O s S E' Q q;exact uD (kQ Fa En GE o1.1 O s S _ _ λu s1 k1 r1=>GE.ok i o1.2 O s1 (S.keeps (Kp.keep k1)) _ _ λv s2 k2 r2=>
  Bw o4.2 (r1.keeps (Kp.keep k2)) r2 _ _ λw s3 k3 r3=>q w s3 (Kp.trans k1 (Kp.trans k2 k3)) r3)
theorem gG{o:Expr}{a:Str}{m:Sem Value}(h:dR o=true):attributeBase o a env m=m:=by
 induction o using Expr.casesOn with
 |Call f as kw p=>induction as using List.casesOn with
  |nil=>exact ab h
  |cons a as=>induction f using Expr.casesOn<;>rfl
 |_=>rfl
theorem xv(Fa:av G A Φ){E:Expr->R}(GE:ar G A env X ρ E){o:Expr}{a:Str}{pos:Pos}(ok:(gE E o (nm a)).1=true):
 gF G A env X ρ (eval (.Attribute o a pos) env) (gE E o (nm a)).2:=by
 unfold gE at ok |-;simp only[Bool.and_eq_true]at ok;obtain⟨⟨o1,o2⟩,o3⟩:=ok;intro O s S E' Q q;rw[arm_eval_Attribute,gG o3];refine wpAny_bind (GE.ok o o1 O s S _ _ λu s1 k1 r1=>wpAny_bind (wpAny_standAt (wpAny_bind (wpAny_holding ?_))));dsimp only at q;have e:w6 (nm a) (E o).2=(true,(w6 (nm a) (E o).2).2):=by rw[<-o2]
 exact Fa.attr _ s1 _ u a _ (S.keeps (Kp.keep k1)).old r1 e _ _ λw s2 k2 r2=>
  wpAny_bind (wpAny_letTemporaryGo (wpAny_pure (q w s2 (Kp.trans k1 k2) r2)))
theorem bF {M:Model} {A:Around} {E:Value->Shared->Prop} {s:Shared} {f:Value} {trees:List (Bool×Sem Value)} {Q:Args->Shared->Prop} (hp:trees.any (·.1)=false)
 (h:wpAny M A (spliced trees) (λvs s'=>Q ⟨vs,[]⟩ s') E s):wpAny M A (evalArgs f true trees []) Q E s:=by
 induction trees using List.casesOn with
 |nil=>
  unfold evalArgs;show wpAny M A (spliced []>>=_) Q E s;refine wpAny_bind (wpAny_mono h (λvs s' h' => ?_) λ_ _ x=>x);refine wpAny_holding ?_;exact wpAny_bind (wpAny_pure (wpAny_bind (wpAny_pure (wpAny_pure h'))))
 |cons x r=>
  obtain⟨b,x⟩:=x
  induction b using Bool.casesOn with
  |true=>simp at hp
  |false=>
   unfold evalArgs;show wpAny M A (spliced ((false,x)::r)>>=_) Q E s;refine wpAny_bind (wpAny_mono h (λvs s' h' => ?_) λ_ _ x=>x);refine wpAny_holding ?_;exact wpAny_bind (wpAny_pure (wpAny_bind (wpAny_pure (wpAny_pure h'))))
theorem jG{k:Option NameKind}(h:aN k=true):k=some .globalImplicit:=by
 induction k using Option.casesOn with
 |none=>injections h
 |some k=>induction k using NameKind.casesOn<;>first|rfl|injections h
theorem cw (Fa:av G A Φ) (En:am env κ) {f:Str} {v:Value} {pos:Pos} (hg:aN (kd κ (nm f))=true) (hb:bootBuiltins f=some v) (hn:By f) {O} {s:Shared} (S:bJ G env X O ρ s.heap)
 {E':Value->Shared->Prop} {Q:Value->Shared->Prop} (q:Q v s):wpAny (model G.p G.w) A (eval (.Name f pos) env) Q E' s:=by
 have hx:aN (env.kindOf f)=true:=(En.glob f).trans hg;have pl:=En.plain f (by rw[hx,Bool.or_true]);obtain⟨mg,mb,h1,h2,_,_,h5⟩:=Fa.names;obtain⟨e1,e2⟩:=h5 f v hn hb;refine Name_function_global En.kind (jG hx) (loadGlobal_builtin (mg:=mg) (mb:=mb) ?_ e1 ?_ e2 q) pl.1
 ·rw[En.globals];exact h1.keeps S.old
 ·rw[En.builtins];exact h2.keeps S.old
theorem bz {M:Model} {A:Around} {E:Value->Shared->Prop} {s:Shared} {pos:Pos} {v:Value} {trees:List (Bool×Sem Value)} {Q:Value->Shared->Prop} (hp:uE v) (h1:trees.any (·.1)=false)
 (h:wpAny M A (spliced trees) (λvs s'=>wpAny M A (call v vs) Q E s') E s):wpAny M A (callWith pos v [] trees []) Q E s:=by
 rcases hp with⟨id,rfl⟩|⟨id,rfl⟩
 ·exact Calls.callWith_builtin h1 (bF h1 h)
 ·exact PySem.callWith_type h1 (bF h1 h)
theorem xw(Fa:av G A Φ)(En:am env κ){E:Expr->R}(GE:ar G A env X ρ E){f:Str}{as:List Expr}{p pos:Pos}(ok:(eA Φ E κ (nm f) as).1=true):
 gF G A env X ρ (eval (.Call (.Name f p) as [] pos) env) (eA Φ E κ (nm f) as).2:=by
 unfold eA at ok |-;simp only[Bool.and_eq_true]at ok;obtain⟨⟨o1,o2⟩,o3⟩:=ok;intro O s S E' Q q;have pt:=ci GE pos o2;refine Call_Name rfl ?_;unfold lm at o3 q;cases hl:kK Φ.fn (nm f)with
 |some F=>
  rw[hl]at o3 q;obtain⟨mg,mb,h1,h2,_,h4,_⟩:=Fa.names;obtain⟨a,e1,hd,hc⟩:=h4 f F hl;have hx:aN (env.kindOf f)=true:=(En.glob f).trans o1;have pl:=En.plain f (by rw[hx,Bool.or_true]);refine Name_function_global En.kind (jG hx) (loadGlobal_global (mg:=mg) (by rw[En.globals];exact h1.keeps S.old) e1 ?_) pl.1;refine hd pos _ s _ _ pt.1 (bF pt.1 (cS GE pos o2 O s S _ _ λus s1 k1 r1 => ?_));have S1:=S.keeps (Kp.keep k1);exact⟨S1.old,hc _ s1 _ us S1.old S1.off S1.full r1 o3 _ _ λw s2 k2 r2=>q w s2 (Kp.trans k1 k2) r2⟩
 |none=>
  rw[hl]at o3 q;have key:By f/\∃v,uE v/\bootBuiltins f=some v/\∀O s us,bJ G env X O ρ s.heap->Reps G (ag env X O) s.heap (cy E as).2 us->an G A (ag env X O) (call v us) (eJ (nm f) (cy E as).2).2 s:=by
   obtain⟨hn,v,hp,hb,hy⟩:=C1 (G:=G) Fa.none o3;exact⟨hn,v,hp,hb,λO s us S r=>hy _ s us S.full r⟩
  obtain⟨hn,v,hp,hb,hy⟩:=key;refine cw Fa En o1 hb hn S (bz hp pt.1 (cS GE pos o2 O s S _ _ λus s1 k1 r1 => ?_));exact hy O s1 us (S.keeps (Kp.keep k1)) r1 _ _ λw s2 k2 r2=>q w s2 (Kp.trans k1 k2) r2
theorem vw{E:Ev}(GE:ar G A env X ρ (E κ ρ)){a:Expr}(o:(look κ ρ (E κ ρ) a).1=true):starEach [a] env=[(false,eval a env)]:=by
 induction a using Expr.casesOn with
 |Starred e p=>exact ab ((GE.noStar e p).symm.trans o)
 |_=>rfl
theorem BC(Fa:av G A Φ)(En:am env κ){E:Ev}(GE:ar G A env X ρ (E κ ρ)){a:Expr}{p pos:Pos}(ok:(nC E κ ρ (nm "len") a).1=true):
 gF G A env X ρ (eval (.Call (.Name "len" p) [a] [] pos) env) (nC E κ ρ (nm "len") a).2:=by
 unfold nC at ok |-;simp only[Bool.and_eq_true]at ok;obtain⟨⟨o1,o2⟩,o3⟩:=ok;intro O s S E' Q q;dsimp only at q;have hst:=vw GE o2;have ht:backTo pos (starEach [a] env)=[(false,eval a env)]:=by rw[hst];rfl
 refine Call_Name ht (cw Fa En o1 boot_len nofun S (bz (.inl ⟨_,rfl⟩) rfl (spliced_cons (kQ Fa En GE o2 O s S _ _ λu s1 k1 r1=>spliced_nil ?_))));exact qV o3 r1 _ _ λw s2 k2 r2=>q w s2 (Kp.trans k1 k2) r2
theorem tf{m:Nm}{v:V}{ys:List V}(ok:(eU Φ m v ys).1=true):(∃x,v = .str x)\/∃raw n nt cnt b sm F,v = .ws raw n nt cnt b sm/\kK Φ.meth m=some F:=by
 induction v using V.casesOn with
 |str x=>exact .inl ⟨x,rfl⟩
 |ws raw n nt cnt b sm=>
  unfold eU at ok;generalize h:kK Φ.meth m=o at ok
  induction o using Option.casesOn with
  |none=>exact ab ok
  |some F=>exact .inr ⟨raw,n,nt,cnt,b,sm,F,rfl,rfl⟩
 |_=>exact ab ok
theorem vx{ts:List (Bool×Sem Value)}(h:ts.any (·.1)=false):ts.all (λx => !x.1)=true:=by
 rw[List.any_eq_false]at h;exact List.all_eq_true.mpr λx hx=>(Bool.not_eq_true' _).mpr ((Bool.not_eq_true _).mp (h x hx))
theorem xx{E:Expr->R}(GE:ar G A env X ρ E){o:Expr}{m:Str}{as:List Expr}{apos pos:Pos}{x:List Nat}(hp:apos.endLine=pos.line)(hl:as.length<30)(o1:(E o).1=true)(o2:(cy E as).1=true)(o4:dR o=true)(hv:(E o).2 = .str x)(ok:(vk (nm m) x (cy E as).2).1=true):
 gF G A env X ρ (eval (.Call (.Attribute o m apos) as [] pos) env) (vk (nm m) x (cy E as).2).2:=by
 intro O s S E' Q q;have pt:=ci GE pos o2;refine wpAny_Call_method_lateS (gG o4) ?_ (by rw[hp];exact beq_self_eq_true _) (GE.ok o o1 O s S _ _ λu s1 k1 r1 => ?_)
 ·rw[vx pt.1]
  show(true&&decide (as.length+0+0<30))=true;rw[Bool.true_and,decide_eq_true_eq];exact hl
 ·rw[hv]at r1
  obtain⟨t,rfl⟩:=ah.str_iff.mp r1;have S1:=S.keeps (Kp.keep k1);obtain⟨id,slot,ty,hy⟩:=zD (G:=G) (A:=A) ok;refine⟨"str",id,F.plainAttrs_str,slot,ty,typeIs_str _ _ _,(λ_ e=>nomatch e),Calls.callWith_builtin pt.1 (bF pt.1 (cS GE pos o2 O s1 S1 _ _ λus s2 k2 r2 => ?_))⟩;exact hy _ s2 t us (S1.keeps (Kp.keep k2)).full r2 _ _ λw s3 k3 r3=>q w s3 (Kp.trans k1 (Kp.trans k2 k3)) r3
theorem xy (Fa:av G A Φ) {E:Expr->R} (GE:ar G A env X ρ E) {o:Expr} {m:Str} {as:List Expr} {apos pos:Pos} {raw n nt cnt b sm F} (hp:apos.endLine=pos.line) (hl:as.length<30) (o1:(E o).1=true) (o2:(cy E as).1=true) (o4:dR o=true)
 (hv:(E o).2 = .ws raw n nt cnt b sm) (hf:kK Φ.meth (nm m)=some F) (ok:(F (.ws raw n nt cnt b sm::(cy E as).2)).1=true):gF G A env X ρ (eval (.Call (.Attribute o m apos) as [] pos) env) (F (.ws raw n nt cnt b sm::(cy E as).2)).2:=by
 intro O s S E' Q q;have pt:=ci GE pos o2;rw[arm_eval_Call,gG o4];refine wpAny_bind (GE.ok o o1 O s S _ _ λu s1 k1 r1=>wpAny_bind (wpAny_standAt ?_));rw[hv]at r1;obtain⟨c,rfl,nx,W⟩:=ah.ws_iff.mp r1;have S1:=S.keeps (Kp.keep k1);have:=Fa.meth _ s1 raw n nt cnt b sm c m F (cy E as).2 o apos pos env (backTo pos (starEach as env)) hf S1.old S1.off S1.full nx W ok pt.1 (by rw[pt.2];exact hl) hp E' Q
  (cS GE pos o2 O s1 S1 _ _ λus s2 k2 r2=>⟨k2,r2,λu s3 k3 r3=>q u s3 (Kp.trans k1 (Kp.trans k2 k3)) r3⟩)
 rw[pt.2]at this;exact this
theorem zG(Fa:av G A Φ){E:Expr->R}(GE:ar G A env X ρ E){o:Expr}{m:Str}{as:List Expr}{apos pos:Pos}(hp:apos.endLine=pos.line)(hl:as.length<30)(ok:(jy Φ E o (nm m) as).1=true):
 gF G A env X ρ (eval (.Call (.Attribute o m apos) as [] pos) env) (jy Φ E o (nm m) as).2:=by
 have o4:=ay ok;have o3:=ay o4.1;have o2:=ay o3.1;have k:=o3.2;show gF G A env X ρ _ (eU Φ (nm m) (E o).2 (cy E as).2).2
 rcases tf k with⟨x,hv⟩|⟨raw,n,nt,cnt,b,sm,F,hv,hf⟩
 ·have:=xx (pos:=pos) (m:=m) GE hp hl o2.1 o2.2 o4.2 hv
  rw[hv]at k |-;exact this k
 ·have:=xy (pos:=pos) (m:=m) Fa GE hp hl o2.1 o2.2 o4.2 hv hf
  have e:eU Φ (nm m) (.ws raw n nt cnt b sm) (cy E as).2=F (.ws raw n nt cnt b sm::(cy E as).2):=by
   unfold eU;rw[hf]
  rw[hv,e]at k |-;exact this k
theorem uK{s:Shared}{X:Addr->Prop}:∀{as:List V} {us:List Value},as.all mV=true->Reps G X s.heap as us->∃ps:List (Int×Tok),us=ps.map (λp => .int p.1 p.2)/\as.map getI=ps.map (·.1)
 |[],us,_,r=>⟨[],Reps.nil_iff.mp r,rfl⟩
 |x::l,us,a,r=>by
  obtain⟨v,r',rfl,h1,h2⟩:=Reps.cons_iff.mp r;have a:=ay a;obtain⟨ps,e1,e2⟩:=uK a.2 h2;rw[<-pU a.1]at h1;obtain⟨t,rfl⟩:=ah.int_iff.mp h1;exact⟨(getI x,t)::ps,by rw[e1];rfl,by rw[List.map_cons,e2];rfl⟩
theorem pX{k:Int}(h : -1000<=k)(h':k<=1000):k.natAbs<1073741824:=⋯
theorem vy {s:Shared} {ps:List (Int×Tok)} (ok:(pN (ps.map (·.1))).1=true) {E:Value->Shared->Prop} {Q:Value->Shared->Prop}
 (q:∀c s' a b k t u v,Keeps s s'->IsRange s'.heap c a b k t u v->bC a b k=true->(pN (ps.map (·.1))).2=(cA a b k).map .int->Q (.ref c) s'):
 wpAny (model G.p G.w) A (call (.type "range") (ps.map λp => .int p.1 p.2)) Q E s:=by
 generalize hw:(pN (ps.map (·.1))).2=w at q
 induction ps using List.casesOn with
 |nil=>exact ab ok
 |cons p ps=>induction ps using List.casesOn with
  |nil=>exact call_range_1 (q _ _ _ _ _ _ _ _ (Kp.push s _ _) (IsRange.new ..) ok hw.symm)
  |cons p' ps=>induction ps using List.casesOn with
   |nil=>exact call_range_2 (q _ _ _ _ _ _ _ _ (Kp.push s _ _) (IsRange.new ..) ok hw.symm)
   |cons p2 ps=>induction ps using List.casesOn with
    |nil=>
     have o1:=ay ok;have o2:=ay o1.1;have o3:=ay o2.1;exact call_range_3 (io o3.2) (q _ _ _ _ _ _ _ _ (Kp.push s _ _) (IsRange.new ..) ok hw.symm) (.inl (PyProof.noPylong_small (pX (of_decide_eq_true o2.2) (of_decide_eq_true o1.2))))
    |cons _ _=>exact ab ok
theorem qX {s:Shared} {X:Addr->Prop} {as:List V} {us:List Value} (ok:(dN as).1=true) (r:Reps G X s.heap as us) {E:Value->Shared->Prop} {Q:Value->Shared->Prop}
 (q:∀c s' a b k t u v,Keeps s s'->IsRange s'.heap c a b k t u v->bC a b k=true->(dN as).2=(cA a b k).map .int->Q (.ref c) s'):
 wpAny (model G.p G.w) A (call (.type "range") us) Q E s:=by
 unfold dN at ok q;generalize h:as.all mV=b at ok q
 induction b using Bool.casesOn with
 |false=>exact ab ok
 |true=>
  obtain⟨ps,rfl,e⟩:=uK h r;rw[e]at ok q;exact vy ok q
theorem iq(k:Int):∀(n:Nat) (a:Int) (j:Nat),(fk a k n)[j]? = if j<n then some (a+j*k)else none
 |0,a,j=>by rw[if_neg (Nat.not_lt_zero j)];exact List.getElem?_nil
 |n+1,a,j=>by
  induction j using Nat.casesOn with
  |zero=>rw[fV];simp
  |succ j=>
   rw[fV,List.getElem?_cons_succ,iq k n (a+k) j]
   by_cases h:j<n
   ·rw[if_pos h,if_pos ⋯]
    congr 1
    push_cast
    rw[Int.add_mul];omega
   ·rw[if_neg h,if_neg ⋯]
theorem ir(k:Int):∀(n:Nat) (a:Int),(fk a k n).length=n
 |0,a=>rfl
 |n+1,a=>by rw[fV,List.length_cons,ir k n]
theorem oh{h:Heap}{X:Addr->Prop}:∀{l:List Int} {vs:List Value},l.length=vs.length->(∀(j:Nat) (i:Int),l[j]? = some i->∃t,vs[j]? = some (Value.int i t))->Reps G X h (l.map V.int) vs
 |[],vs,hl,_=>by rw[List.eq_nil_of_length_eq_zero hl.symm];exact Reps.nil
 |i::l,[],hl,_=>by simp at hl
 |i::l,v::vs,hl,ha=>by
  obtain⟨t,e⟩:=ha 0 i rfl
  injection e with e
  subst e;exact Reps.cons (ah.int_iff.mpr ⟨t,rfl⟩) (oh (by simpa using hl) λj i' hj=>by simpa using ha (j+1) i' (by simpa using hj))
theorem aW(h:Heap){b:Addr}(hb:h.objs.size<=b):h.get? b=none:=by
 cases e:h.get? b with
 |none=>rfl
 |some o=>exact absurd (Heap.lt_size e) (Nat.not_lt.mpr hb)
theorem j5{c:Prop}[Decidable c]{x y:Int}(h:c->0<=x/\0<=y):0<=(if c then x/y+1 else 0:Int):=by
 by_cases e:c
 ·rw[if_pos e];exact Int.add_nonneg (Int.ediv_nonneg (h e).1 (h e).2) nofun
 ·rw[if_neg e];exact Int.le_refl _
theorem eV(a b k:Int):0<=Builtin.Range.rangeSize a b k:=by
 unfold Builtin.Range.rangeSize
 by_cases h:k>0
 ·rw[if_pos h];exact j5 λh'=>⋯
 ·rw[if_neg h];exact j5 λh'=>⋯
noncomputable def j6(G:Cfg)(A:Around)(env:Env)(X:Addr->Prop)(ρ:Rho)(t:Sem Value)(l:List V):Prop:=
 ∀O s,bJ G env X O ρ s.heap->∀(E:Value->Shared->Prop) (Q:Value->Shared->Prop),
  (∀a vs m s',Keeps s s'->s.heap.get? a=none->s'.heap.get? a=some { cls := .type "list",data := .seq vs m }->Reps G (λb=>ag env X O b\/b=a) s'.heap l vs.toList->Q (.ref a) s')->wpAny (model G.p G.w) A t Q E s
theorem Reps.addNew{P:Addr->Prop}{h h':Heap}{a:Addr}{l:List V}{vs:List Value}(r:Reps G P h l vs)(k:∀b o,h.get? b=some o->h'.get? b=some o)(d:h.get? a=none):Reps G (λb=>P b\/b=a) h' l vs:=
 r.on ⟨λb o _ e=>k b o e,λb o e f=>by
  rcases f with f|f
  ·exact f
  ·rw[f,d]at e;cases e⟩
theorem j6.ev{t:Sem Value}{l:List V}(h:j6 G A env X ρ t l):gF G A env X ρ t (.list l):=λO s S E Q q=>h O s S E Q λa vs m s' k d el rl=>by
 have na:¬ag env X O a:=λf=>by
  obtain⟨o,e⟩:=S.alive a f;rw[d]at e;exact ao e
 exact q _ s' k (ah.list_iff.mpr ⟨a,vs,rfl,na,⟨_,el,rfl,_,rfl⟩,Reps.on ⟨λ_ _ _ e=>e,λb o e f => .inl f⟩ rl⟩)
theorem qY{P:Addr->Prop}{h:Heap}{a k:Int}{n:Nat}{acc:List Value}(hs:acc.length=n)(ha:∀(j:Nat) (v:Value),acc[j]? = some v->∃t,v = .int (a+j*k) t):Reps G P h ((fk a k n).map V.int) acc:=
 oh (by rw[ir,hs]) λj i hj=>by
  rw[iq]at hj
  by_cases hlt:j<n
  ·rw[if_pos hlt]at hj
   rw[<-Option.some.inj hj];have e:=List.getElem?_eq_getElem (hs▸hlt);obtain⟨t',e'⟩:=ha j _ e;exact⟨t',e.trans (congrArg some e')⟩
  ·rw[if_neg hlt]at hj;exact ao hj
theorem oj(Fa:av G A Φ)(En:am env κ){E:Expr->R}(GE:ar G A env X ρ E){bs:List Expr}{p p' q' pos:Pos}(ok:(bt E κ (nm "list") (nm "range") bs).1=true):
 ∃l,(bt E κ (nm "list") (nm "range") bs).2 = .list l/\j6 G A env X ρ (eval (.Call (.Name "list" p) [.Call (.Name "range" p') bs [] q'] [] pos) env) l:=by
 have o4:=ay ok;have o3:=ay o4.1;have o1:=ay o3.1;refine⟨_,rfl, ?_⟩;intro O s S E' Q q;have pt:=ci GE q' o3.2;refine Call_Name1 (cw Fa En o1.1 PyProof.Rows.boot_list nofun S (bz (.inr ⟨_,rfl⟩) rfl (spliced_cons ?_)));refine Call_Name rfl (cw Fa En o1.2 boot_range nofun S (bz (.inr ⟨_,rfl⟩) pt.1 (cS GE q' o3.2 O s S _ _ λus s1 k1 r1 => ?_)));refine qX o4.2 r1 λc s2 a b k t u v k2 hr hok hv=>spliced_nil ?_
 have g5:=ay (ay (ay (ay hok).1).1).1;have g2:=of_decide_eq_true g5.2;have pos':=eV a b k;refine call_list_range (n:=(Builtin.Range.rangeSize a b k).toNat) Fa.none hr g5.1 (Int.toNat_of_nonneg pos').symm ⋯ λh' tk acc c' hk ho hi => ?_
 refine q _ acc c' _ (Kp.trans k1 (Kp.trans k2 (Kp.heap tk hk))) ?_ ho ?_
 ·cases e:s.heap.get? s2.heap.objs.size with
  |none=>rfl
  |some o=>exact absurd (Heap.lt_size (Kp.keep k2 _ o (Kp.keep k1 _ o e))) (Nat.lt_irrefl _)
 rw[hv];exact qY (by simpa using hi.1) λj v hj=>hi.2 j v (by simpa using hj)
theorem pY(Fa:av G A Φ)(En:am env κ){E:Expr->R}(GE:ar G A env X ρ E){bs:List Expr}{p p' q' pos:Pos}(ok:(bt E κ (nm "list") (nm "range") bs).1=true):
 gF G A env X ρ (eval (.Call (.Name "list" p) [.Call (.Name "range" p') bs [] q'] [] pos) env) (bt E κ (nm "list") (nm "range") bs).2:=by
 obtain⟨l,e,h⟩:=oj (p:=p) (p':=p') (q':=q') (pos:=pos) Fa En GE ok;rw[e];exact h.ev
end
end
section
open PySem PySem.W PySem.Calls PyProof.Rows
section
variable {prog:Program} {w:World} {A:Around} {E:Value->Shared->Prop} {s:Shared}
theorem iW {it l:Addr} {i:Nat} {items} {x:Value} {Q:Value->Shared->Prop} (hit:s.heap.IsTupleIter it l i) (hl:s.heap.IsTuple l items) (hx:items[i]? = some x)
 (hQ:∀h',h'.IsTupleIter it l (i+1)->Heap.SameBut it s.heap h'->Q x { s with heap:=h' }):
 wpAny (model prog w) A (Builtin.SmallTypes.nextOf (.ref it)) Q E s:=by
 obtain⟨o,ho,hc,hd⟩:=id hit;obtain⟨ol,hol,_,nl,hdl⟩:=hl;unfold Builtin.SmallTypes.nextOf;refine wpAny_bind (wpAny_callSpecial?_slot (name:=Str.ofString "__next__") hit.typeIs F.slot_tuple_iterator_next
  (wpAny_call_entry F.slot_tuple_iterator_next hit.typeIs F.entry_tuple_iterator_next ?_ (F.args_tuple_iterator_next_1 _)))
 show wpAny _ _ (field (.ref it) 0>>=_) _ _ s;refine wpAny_bind (wpAny_field ho hd (x := .ref l) rfl ?_);show wpAny _ _ (if(Value.ref l==Value.none)=true then _ else _) _ _ s;rw[if_neg (show ¬((Value.ref l==Value.none)=true)from Bool.false_ne_true)];show wpAny _ _ (field (.ref it) 1>>=_) _ _ s;refine wpAny_bind (wpAny_field ho hd (x := .int i 0) rfl ?_);show wpAny _ _ (seqItems? (.ref l)>>=_) _ _ s;refine wpAny_bind (wpAny_seqItems hol hdl ?_);simp only[Int.toNat_natCast,hx];refine wpAny_bind (wpAny_setField ho hd (by simp) (wpAny_pure ⟨x,rfl,wpAny_pure (hQ _ ?_ (Heap.SameBut.update ..))⟩));exact⟨_,Heap.get?_update_self _ ho (Obj.isFreed_of_fields (Obj.data_mapFields hd _)),(Obj.cls_mapFields ..).trans hc,by
  rw[Obj.data_mapFields hd];simp[rawInt]⟩
theorem jH {it l:Addr} {i:Nat} {items} {Q:Value->Shared->Prop} (hh:A.handled=none) (hit:s.heap.IsTupleIter it l i) (hl:s.heap.IsTuple l items) (hx:items[i]? = none)
 (hE:∀h' e,Heap.ExtBut it s.heap h'->(∃o,h'.get? e=some o/\o.cls = .type "StopIteration")->E (.ref e) { s with heap:=h' }):
 wpAny (model prog w) A (Builtin.SmallTypes.nextOf (.ref it)) Q E s:=by
 obtain⟨o,ho,hc,hd⟩:=id hit;obtain⟨ol,hol,_,nl,hdl⟩:=hl;unfold Builtin.SmallTypes.nextOf;refine wpAny_bind (wpAny_callSpecial?_slot (name:=Str.ofString "__next__") hit.typeIs F.slot_tuple_iterator_next
  (wpAny_call_entry F.slot_tuple_iterator_next hit.typeIs F.entry_tuple_iterator_next ?_ (F.args_tuple_iterator_next_1 _)))
 show wpAny _ _ (field (.ref it) 0>>=_) _ _ s;refine wpAny_bind (wpAny_field ho hd (x := .ref l) rfl ?_);show wpAny _ _ (if(Value.ref l==Value.none)=true then _ else _) _ _ s;rw[if_neg (show ¬((Value.ref l==Value.none)=true)from Bool.false_ne_true)];show wpAny _ _ (field (.ref it) 1>>=_) _ _ s;refine wpAny_bind (wpAny_field ho hd (x := .int i 0) rfl ?_);show wpAny _ _ (seqItems? (.ref l)>>=_) _ _ s;refine wpAny_bind (wpAny_seqItems hol hdl ?_);simp only[Int.toNat_natCast,hx];refine wpAny_bind (wpAny_rule (wpAny_bind (wpAny_setField ho hd (by simp) ?_)));show wpAny _ _ (newExc (.type "StopIteration") []>>=_) _ _ _
 refine wpAny_bind ?_;simp only[newExc,newTuple];refine wpAny_bind (wpAny_newObj_type ?_ (by size_fits));refine wpAny_bind (m:=firstArgMember _ _) (wpAny_of_eq (a:=Value.none) (by first|rfl|(simp only[firstArgMember];rfl)) ?_);refine wpAny_newObj_type ?_ (by size_fits);unfold raiseNew;refine wpAny_bind (wpAny_handled ?_)
 first|rw[show A.in1.handled=none from hh]|rw[hh]
 refine wpAny_bind (wpAny_pure (wpAny_throw ?_));exact hE _ _ (((Heap.SameBut.update ..).extBut.push _).push _) ⟨_,Heap.get?_push_size _ rfl,rfl⟩
end
theorem th{prog:Program}{w:World}{A:Around}(hh:A.handled=none)(it l:Addr)(hne:l≠it)(items:Array Value):
 Draws prog w A it [it,l] items.size (λi v=>items[i]? = some v) (λi h=>h.IsTupleIter it l i/\h.IsTuple l items) where
 live:=λ_ _ st=>let⟨o,ho,_⟩:=st.1;⟨o,ho⟩
 frame:=λ_ _ _ st hk=>⟨st.1.at λo e=>hk it (by simp) o e,st.2.at λo e=>hk l (by simp) o e⟩
 item:=λi s Q E hi st hQ=>by
  refine iW st.1 st.2 (x:=items[i]) (by simp[hi]) λh' hit' hs' => ?_
  exact hQ _ h' s.toks (by simp[hi]) ⟨hit',st.2.extBut hs'.extBut hne⟩ hs'
 done:=λs Q E st hE=>jH hh st.1 st.2 (by simp) hE
theorem ti{M:Model}{A:Around}{E:Value->Shared->Prop}{s:Shared}{b:Bool}{Q:Bool->Shared->Prop}(h:∀b,Q b s):wpAny M A (pure b) Q E s:=wpAny_pure (h b)
theorem f9(l:Addr)(items:Array Value):
 Meets (Builtin.«enumerate.__new__» ⟨[.type "enumerate", .ref l],[]⟩) (λ_ R s=>s.heap.IsTuple l items /\
  R (.ok (.ret (.ref (s.heap.push { cls := .type "tuple_iterator",data := .fields #[.ref l, .int 0 0] }).objs.size)))
    { s with heap:=(s.heap.push { cls := .type "tuple_iterator",data := .fields #[.ref l, .int 0 0] }).push { cls := .type "enumerate",data := .fields #[.none, .bool false, .ref s.heap.objs.size,rawInt 0, .none, .none] } }):=
 .of_wp λprog w A R s h=>by
   obtain⟨hp,g,d,tk,os⟩:=s;obtain⟨hL,h⟩:=h;have hsub:=sub_enumerate;have hL':Heap.IsTuple (Shared.heap ⟨hp,g,d,tk,os⟩) l items:=hL
   wp_walk
   refine wpAny_stack_any λst=>ti λb => ?_
   induction b using Bool.casesOn with
   |true=>
    wp_walk using wpAny_pyIter_tuple hL'
    exact⟨_,rfl,h⟩
   |false=>
    wp_walk using wpAny_pyIter_tuple hL'
    exact⟨_,rfl,h⟩
structure It(G:Cfg)(A:Around)(t:Expr)(X0:Addr->Prop)(hp:Heap)(it:Value)(fp wr:List Addr)(xs:List V)(St:Nat->Heap->Prop):Prop where
 sub:∀b∈wr,b∈fp
 frame:∀i h h',St i h->(∀b∈fp,∀o,h.get? b=some o->h'.get? b=some o)->St i h'
 live:∀i h,St i h->∀b∈fp,∃o,h.get? b=some o
 item:∀i (s:Shared) (Y:Addr->Prop),i<xs.length->St i s.heap->On X0 Y hp s.heap->aF Y s.heap->(∀b∈wr,Y b)->∀(E:Value->Shared->Prop) (Q:Value->Shared->Prop),
  (∀v h' tk,ah G Y h' (xs.getD i .none) v->St (i+1) h'->(∀b o,b∉wr->s.heap.get? b=some o->h'.get? b=some o)->Q v { s with heap:=h',toks:=tk }) ->
  wpAny (model G.p G.w) A (pyNext it) (λr s₁=>∃v,r=some v/\wpAny (model G.p G.w) A (letOwnedTupleGo t it v) (λ_ s₂=>Q v s₂) E s₁) E s
 done:∀(s:Shared),St xs.length s.heap->∀(E:Value->Shared->Prop) (Q:Option Value->Shared->Prop),
  (∀h' tk,(∀b o,b∉wr->s.heap.get? b=some o->h'.get? b=some o)->Q none { s with heap:=h',toks:=tk })->wpAny (model G.p G.w) A (pyNext it) Q E s
 self:∀i (s:Shared) (E:Value->Shared->Prop) (Q:Value->Shared->Prop),St i s.heap->Q it s->wpAny (model G.p G.w) A (pyIter it) Q E s
section
variable {G:Cfg} {A:Around} {X0:Addr->Prop} {hp:Heap} {I:Addr} {fp wr:List Addr} {n:Nat} {St:Nat->Heap->Prop} {xs:List V} {t:Expr}
theorem zH{h h':Heap}{a:Addr}{vs:Array Value}(k:∀b o,h.get? b=some o->h'.get? b=some o)(x:h.IsList a vs):h'.IsList a vs:=let⟨o,e,r⟩:=x;⟨o,k _ _ e,r⟩
theorem hG{h h':Heap}{a:Addr}{vs:Array Value}(k:∀b o,h.get? b=some o->h'.get? b=some o)(x:h.IsTuple a vs):h'.IsTuple a vs:=let⟨o,e,r⟩:=x;⟨o,k _ _ e,r⟩
theorem AM{Y:Addr->Prop}{h h':Heap}{wr:List Addr}(hw:∀b∈wr,Y b)(k:∀b o,b∉wr->h.get? b=some o->h'.get? b=some o):On Y Y h h':=
 ⟨λb o nb e=>k b o (λm=>nb (hw b m)) e,λ_ _ _ y=>y⟩
theorem It.ofW {P:Nat->Value->Prop} (W:Walks G.p G.w A I fp wr n P St) (hn:xs.length=n) (live:∀i h,St i h->∀b∈fp,∃o,h.get? b=some o)
 (hP:∀i v Y h,i<n->P i v->On X0 Y hp h->ah G Y h (xs.getD i .none) v)
 (hgo:∀i v (s:Shared) (E:Value->Shared->Prop) (Q:Unit->Shared->Prop),St i s.heap->Q () s->wpAny (model G.p G.w) A (letOwnedTupleGo t (.ref I) v) Q E s):It G A t X0 hp (.ref I) fp wr xs St where
 sub:=W.sub
 frame:=W.frame
 live:=live
 item:=λi s Y hi st on al hw E Q q=>W.item i s _ E (hn▸hi) st λv h' tk hPv st' k=>⟨v,rfl,hgo (i+1) v _ _ _ st' (q v h' tk ((hP i v Y s.heap (hn▸hi) hPv on).on (AM hw k)) st' k)⟩
 done:=λs st E Q q=>W.done s Q E (hn▸st) q
 self:=λi s E Q st q=>W.self i s Q E st q
theorem It.ofT {elts:List Expr} {k:Nat} {pos:Pos} {Pt:Nat->Array Value->Prop} {Mid:Nat->Addr->Heap->Prop} (W:WalksT G.p G.w A I fp wr n Pt St Mid) (hn:xs.length=n) (live:∀i h,St i h->∀b∈fp,∃o,h.get? b=some o)
 (hP:∀i vals Y h,i<n->Pt i vals->On X0 Y hp h->∃l,xs.getD i .none = .tup l/\Reps G Y h l vals.toList):It G A (.Tuple elts k pos) X0 hp (.ref I) fp wr xs St where
 sub:=W.sub
 frame:=W.frame
 live:=live
 item:=λi s Y hi st on al hw E Q q=>W.item i s _ E (hn▸hi) st λT vals h' tk hPv hsz hT mid k1=>⟨.ref T,rfl,W.go elts k pos i T _ _ _ mid λh'' st'' k2=>by
  have kk:∀b o,b∉wr->s.heap.get? b=some o->h''.get? b=some o:=λb o nb e=>k2 b o nb (k1 b o nb e)
  obtain⟨l,el,r⟩:=hP i vals Y s.heap (hn▸hi) hPv on;refine q (.ref T) h'' tk ?_ st'' kk;rw[el];have nT:¬Y T:=λy=>by
   obtain⟨o,e⟩:=al T y;exact Nat.lt_irrefl _ (Nat.lt_of_lt_of_le (Heap.lt_size e) hsz)
  obtain⟨o,ho,hr⟩:=hT;exact ah.tup_iff.mpr ⟨T,vals,rfl,nT,⟨o,k2 T o (W.apart i T _ mid) ho,hr⟩,Reps.on (AM hw kk) r⟩⟩
 done:=λs st E Q q=>W.done s Q E (hn▸st) q
 self:=λi s E Q st q=>W.self i s Q E st q
theorem pZ{x:Str}{p:Pos}{it v:Value}{s:Shared}{E:Value->Shared->Prop}{Q:Unit->Shared->Prop}(q:Q () s):wpAny (model G.p G.w) A (letOwnedTupleGo (.Name x p) it v) Q E s:=wpAny_pure q
theorem gH{t:Expr}(h:cC t=true):∃x p,t = .Name x p:=by
 induction t using Expr.casesOn with
 |Name x p=>exact⟨x,p,rfl⟩
 |_=>exact ab h
theorem lO{t:Expr}(h:fq t=true):∃es k p,t = .Tuple es k p:=by
 induction t using Expr.casesOn with
 |Tuple es k p=>exact⟨es,k,p,rfl⟩
 |_=>exact ab h
theorem zI{t:Expr}(ht:cC t=true\/fq t=true){l:Addr}{i:Nat}{v:Value}{s:Shared}{E:Value->Shared->Prop}{Q:Unit->Shared->Prop}(hit:s.heap.IsListIter I l i)(q:Q () s):
 wpAny (model G.p G.w) A (letOwnedTupleGo t (.ref I) v) Q E s:=by
 rcases ht with ht|ht
 ·obtain⟨x,p,rfl⟩:=gH ht;exact wpAny_pure q
 ·obtain⟨es,k,p,rfl⟩:=lO ht
  induction v using Value.casesOn with
  |ref a=>exact wpAny_letOwnedTupleGo_listiter hit q
  |_=>exact wpAny_pure q
inductive lP(G:Cfg)(A:Around)(t:Expr)(X0:Addr->Prop)(s0:Shared)(xs:List V)(it:Value)(s:Shared):Prop
 |mk (s1:Shared) (fp wr:List Addr) (St:Nat->Heap->Prop) (_:Keeps s0 s1) (_:Keeps s1 s) (_:It G A t X0 s1.heap it fp wr xs St) (_:St 0 s.heap) (_:∀b∈fp,¬X0 b) (_:∀b∈wr,s1.heap.get? b=none)
theorem aF.off{X:Addr->Prop}{h:Heap}(al:aF X h){b:Addr}(hb:h.objs.size<=b):¬X b:=λx=>by
 obtain⟨o,e⟩:=al b x;exact absurd (Heap.lt_size e) (Nat.not_lt.mpr hb)
theorem vz (hh:A.handled=none) {s:Shared} {l:List V} {u:Value} (al:aF X0 s.heap) (ht:cC t=true\/fq t=true) (r:ah G X0 s.heap (.list l) u) {E:Value->Shared->Prop} {Q:Value->Shared->Prop}
 (q:∀it s',Keeps s s'->lP G A t X0 s l it s'->Q it s'):wpAny (model G.p G.w) A (pyIter u) Q E s:=by
 obtain⟨a,vs,rfl,nx,hl,rr⟩:=ah.list_iff.mp r;have hlt:a<s.heap.objs.size:=by obtain⟨_,e,_⟩:=hl;exact Heap.lt_size e
 have hsz:vs.size=l.length:=by rw[<-Array.length_toList,<-Reps.length rr]
 refine wpAny_pyIter_list hl (q _ _ (Kp.push s _ s.toks) ⟨s,_,_,_,Kp.refl s,Kp.push s _ s.toks,
  It.ofW (Walks.list hh s.heap.objs.size a (Nat.ne_of_lt hlt) vs) hsz.symm (λi h st b hb => ?_) (λi v Y h hi hv on => ?_) (λi v s' E' Q' st q'=>zI ht st.1 q'),
  ⟨⟨_,Heap.get?_push_size _ rfl,rfl,rfl⟩,hl.push _⟩,λb hb => ?_,λb hb => ?_⟩)
 ·rcases List.mem_cons.mp hb with rfl|hb
  ·obtain⟨o,e,_⟩:=st.1;exact⟨o,e⟩
  ·rw[List.mem_singleton.mp hb];obtain⟨o,e,_⟩:=st.2;exact⟨o,e⟩
 ·obtain⟨x,e,hx⟩:=Reps.at rr (k:=i) ⋯
  rw[Array.getElem?_toList]at e;rw[e]at hv;injection hv with hv;subst hv
  exact hx.on on
 ·rcases List.mem_cons.mp hb with rfl|hb
  ·exact al.fresh
  ·rw[List.mem_singleton.mp hb];exact nx
 ·rw[List.mem_singleton.mp hb];exact aW _ (Nat.le_refl _)
theorem xz (hh:A.handled=none) {s:Shared} {l:List V} {u:Value} (al:aF X0 s.heap) (ht:cC t=true) (r:ah G X0 s.heap (.tup l) u) {E:Value->Shared->Prop} {Q:Value->Shared->Prop}
 (q:∀it s',Keeps s s'->lP G A t X0 s l it s'->Q it s'):wpAny (model G.p G.w) A (pyIter u) Q E s:=by
 obtain⟨_,_,rfl⟩:=gH ht;obtain⟨a,vs,rfl,nx,hl,rr⟩:=ah.tup_iff.mp r;have hlt:a<s.heap.objs.size:=by obtain⟨_,e,_⟩:=hl;exact Heap.lt_size e
 have hsz:vs.size=l.length:=by rw[<-Array.length_toList,<-Reps.length rr]
 refine wpAny_pyIter_tuple hl (q _ _ (Kp.push s _ s.toks) ⟨s,_,_,_,Kp.refl s,Kp.push s _ s.toks,
  It.ofW (Walks.tuple hh s.heap.objs.size a (Nat.ne_of_lt hlt) vs) hsz.symm (λi h st b hb => ?_) (λi v Y h hi hv on => ?_) (λi v s' E' Q' st q'=>pZ q'),
  ⟨⟨_,Heap.get?_push_size _ rfl,rfl,rfl⟩,hG (dg _ _) hl⟩,λb hb => ?_,λb hb => ?_⟩)
 ·rcases List.mem_cons.mp hb with rfl|hb
  ·obtain⟨o,e,_⟩:=st.1;exact⟨o,e⟩
  ·rw[List.mem_singleton.mp hb];obtain⟨o,e,_⟩:=st.2;exact⟨o,e⟩
 ·obtain⟨x,e,hx⟩:=Reps.at rr (k:=i) ⋯
  rw[Array.getElem?_toList]at e;rw[e]at hv;injection hv with hv;subst hv
  exact hx.on on
 ·rcases List.mem_cons.mp hb with rfl|hb
  ·exact al.fresh
  ·rw[List.mem_singleton.mp hb];exact nx
 ·rw[List.mem_singleton.mp hb];exact aW _ (Nat.le_refl _)
theorem xA{x:List Nat}{i:Nat}{v:Value}{Y:Addr->Prop}{h:Heap}(hv:SignAt (tx x) i v):ah G Y h ((nv x).getD i .none) v:=by
 obtain⟨c,u,e,rfl⟩:=hv;have e':x[i]? = some c:=by simpa[tx]using e
 have:(nv x).getD i .none = .str [c]:=by
  unfold nv;rw[List.getD_eq_getElem?_getD,List.getElem?_map,e'];rfl
 rw[this];exact ah.str_iff.mpr ⟨u,rfl⟩
theorem xB (hh:A.handled=none) {s:Shared} {x:List Nat} {tk:Tok} (al:aF X0 s.heap) (ht:cC t=true) {E:Value->Shared->Prop} {Q:Value->Shared->Prop}
 (q:∀it s',Keeps s s'->lP G A t X0 s (nv x) it s'->Q it s'):wpAny (model G.p G.w) A (pyIter (.str (tx x) tk)) Q E s:=by
 obtain⟨_,_,rfl⟩:=gH ht;have hlen:(nv x).length=(tx x).cps.size:=by simp[nv,tx]
 have key:∀(o:Obj) (St:Nat->Heap->Prop),Walks G.p G.w A s.heap.objs.size [s.heap.objs.size] [s.heap.objs.size] (tx x).cps.size (SignAt (tx x)) St->St 0 (s.heap.push o)->(∀i h,St i h->∃o,h.get? s.heap.objs.size=some o) ->
  Q (.ref s.heap.objs.size) { s with heap:=s.heap.push o }:=λo St W st live=>
  q _ _ (Kp.push s _ s.toks) ⟨s,_,_,_,Kp.refl s,Kp.push s _ s.toks,It.ofW W hlen (λi h st b hb=>by rw[List.mem_singleton.mp hb];exact live i h st)
    (λi v Y h hi hv on=>xA hv) (λi v s' E' Q' st q'=>pZ q'),st,
    (λb hb=>by rw[List.mem_singleton.mp hb];exact al.fresh),λb hb=>by rw[List.mem_singleton.mp hb];exact aW _ (Nat.le_refl _)⟩
 cases ha:(tx x).cps.all (· < 128)
 ·exact wpAny_pyIter_wide ha (key _ _ (Walks.strWide hh _ _ tk) ⟨_,Heap.get?_push_size _ rfl,rfl,rfl⟩ λi h st=>let⟨o,e,_⟩:=st;⟨o,e⟩)
 ·exact wpAny_pyIter_ascii ha (key _ _ (Walks.strAscii hh _ _ tk) ⟨_,Heap.get?_push_size _ rfl,rfl,rfl⟩ λi h st=>let⟨o,e,_⟩:=st;⟨o,e⟩)
theorem tm (hh:A.handled=none) {s0 s:Shared} (k0:Keeps s0 s) {c:Addr} {a b k:Int} {tk u v:Tok} (al:aF X0 s0.heap) (ht:cC t=true) (hr:IsRange s.heap c a b k tk u v) (ok:bC a b k=true)
 {E:Value->Shared->Prop} {Q:Value->Shared->Prop} (q:∀it s',Keeps s s'->lP G A t X0 s0 ((cA a b k).map .int) it s'->Q it s'):wpAny (model G.p G.w) A (pyIter (.ref c)) Q E s:=by
 obtain⟨_,_,rfl⟩:=gH ht;have ok':=ay (ay (ay (ay ok).1).1).1;have hnn:=eV a b k;have al':aF X0 s.heap:=al.keeps (Kp.keep k0);refine wpAny_pyIter_range hr ok'.1 (q _ _ (Kp.push s _ s.toks) ⟨s,_,_,_,k0,Kp.push s _ s.toks,
  It.ofW (Walks.range hh s.heap.objs.size a k (Builtin.Range.rangeSize a b k).toNat) (by unfold cA;rw[List.length_map,ir]) (λi h st b hb => ?_) (λi v Y h hi hv on => ?_)
   (λi v s' E' Q' st q'=>pZ q'), ?_,λb hb => ?_,λb hb => ?_⟩)
 ·rw[List.mem_singleton.mp hb];exact⟨_,st⟩
 ·obtain⟨t',rfl⟩:=hv
  have:((cA a b k).map V.int).getD i .none = .int (a+i*k):=by
   unfold cA;rw[List.getD_eq_getElem?_getD,List.getElem?_map,iq,if_pos hi];rfl
  rw[this];exact ah.int_iff.mpr ⟨t',rfl⟩
 ·show(s.heap.push _).get? s.heap.objs.size=some _
  rw[Heap.get?_push_size _ rfl];have e1:a+((0:Nat):Int)*k=a:=(congrArg (a + ·) (Int.zero_mul k)).trans (Int.add_zero a);have e2:(((Builtin.Range.rangeSize a b k).toNat:Int)-((0:Nat):Int))=Builtin.Range.rangeSize a b k:=(Int.sub_zero _).trans (Int.toNat_of_nonneg hnn);rw[e1,e2]
 ·rw[List.mem_singleton.mp hb];exact al'.fresh
 ·rw[List.mem_singleton.mp hb];exact aW _ (Nat.le_refl _)
theorem oo:∀(l:List V) (k:Int) (i:Nat),i<l.length->(lj k l).getD i .none = .tup [.int (k+i),l.getD i .none]
 |[],k,i,h=>by simp at h
 |x::l,k,0,_=>by rw[pO];simp
 |x::l,k,i+1,h=>by
  have ih:=oo l (k+1) i (by simpa using h);rw[pO,List.getD_cons_succ,List.getD_cons_succ];rw[ih];have:k+1+(i:Int)=k+((i+1:Nat):Int):=⋯;rw[this]
theorem oq:∀(l:List V) (k:Int),(lj k l).length=l.length
 |[],_=>rfl
 |x::l,k=>by rw[pO,List.length_cons,List.length_cons,oq l]
theorem vA (hh:A.handled=none) {s:Shared} {l:List V} {u:Value} (al:aF X0 s.heap) (ht:fq t=true) (r:ah G X0 s.heap (.tup l) u) {E:Value->Shared->Prop} {Q:Value->Shared->Prop}
 (q:∀it s',Keeps s s'->lP G A t X0 s (lj 0 l) it s'->Q it s'):wpAny (model G.p G.w) A (call (.type "enumerate") [u]) (λx s1=>wpAny (model G.p G.w) A (pyIter x) Q E s1) E s:=by
 obtain⟨a,vs,rfl,nx,hl,rr⟩:=ah.tup_iff.mp r;have hlt:a<s.heap.objs.size:=by obtain⟨_,e,_⟩:=hl;exact Heap.lt_size e
 have hsz:vs.size=l.length:=by rw[<-Array.length_toList,<-Reps.length rr]
 refine callType_new F.called_enumerate nofun (F.typeCall_enumerate_1 _) (F.newCall_enumerate_1 _) (λobj=>F.args_object_init_2 obj _) F.entry_enumerate_new (f9 a vs) ⟨hl, ?_⟩;have hz:(s.heap.push { cls := .type "tuple_iterator",data := .fields #[.ref a, .int 0 0] }).objs.size=s.heap.objs.size+1:=Heap.size_push ..;show _/\_;rw[hz];have he:IsEnum ((s.heap.push { cls := .type "tuple_iterator",data := .fields #[.ref a, .int 0 0] }).push
  { cls := .type "enumerate",data := .fields #[.none, .bool false, .ref s.heap.objs.size,rawInt 0, .none, .none] }) (s.heap.objs.size+1) s.heap.objs.size 0 .none:=by
  have:=Heap.get?_push_size (s.heap.push { cls := .type "tuple_iterator",data := .fields #[.ref a, .int 0 0] })
   (o:={ cls := .type "enumerate",data := .fields #[.none, .bool false, .ref s.heap.objs.size,rawInt 0, .none, .none] }) rfl
  rw[hz]at this;exact this
 refine⟨⟨_,he,rfl⟩,wpAny_pyIter_enum he ?_⟩;have kk:Keeps s { s with heap:=(s.heap.push { cls := .type "tuple_iterator",data := .fields #[.ref a, .int 0 0] }).push { cls := .type "enumerate",data := .fields #[.none, .bool false, .ref s.heap.objs.size,rawInt 0, .none, .none] } }:=
  Kp.heap s.toks λb o e=>Heap.get?_push_of_some _ (Heap.get?_push_of_some _ e)
 obtain⟨es,k,p,rfl⟩:=lO ht;refine q _ _ kk ⟨s,_,_,_,Kp.refl s,kk,It.ofT (WalksT.enumerateD (th (A:=A.in1) hh s.heap.objs.size a (Nat.ne_of_lt hlt) vs) (s.heap.objs.size+1) (Nat.succ_ne_self _) ?_ (by simp)) (by rw[oq,hsz]) (λi h st b hb => ?_)
  (λi vals Y h hi hv on => ?_),⟨⟨_,he⟩,⟨_,Heap.get?_push_of_some _ (Heap.get?_push_size _ rfl),rfl,rfl⟩,hG (Kp.keep kk) hl⟩,λb hb => ?_,λb hb => ?_⟩
 ·intro hm
  rcases List.mem_cons.mp hm with e|hm
  ·exact Nat.succ_ne_self _ e
  ·exact Nat.ne_of_gt (Nat.lt_succ_of_lt hlt) (List.mem_singleton.mp hm)
 ·obtain⟨⟨old,h1⟩,h2,h3⟩:=st
  rcases List.mem_cons.mp hb with rfl|hb
  ·exact⟨_,h1⟩
  ·rcases List.mem_cons.mp hb with rfl|hb
   ·obtain⟨o,e,_⟩:=h2;exact⟨o,e⟩
   ·rw[List.mem_singleton.mp hb];obtain⟨o,e,_⟩:=h3;exact⟨o,e⟩
 ·obtain⟨t',x,hx,rfl⟩:=hv
  refine⟨_,oo l 0 i ⋯, ?_⟩;obtain⟨x',e,hx'⟩:=Reps.at rr (k:=i) ⋯;rw[Array.getElem?_toList]at e;rw[e]at hx;injection hx with hx;subst hx
  exact Reps.cons (ah.int_iff.mpr ⟨t',by rw[Int.zero_add]⟩) (Reps.cons (hx'.on on) Reps.nil)
 ·rcases List.mem_cons.mp hb with rfl|hb
  ·exact al.off (Nat.le_succ _)
  ·rcases List.mem_cons.mp hb with rfl|hb
   ·exact al.fresh
   ·rw[List.mem_singleton.mp hb];exact nx
 ·rcases List.mem_cons.mp hb with rfl|hb
  ·exact aW _ (Nat.le_succ _)
  ·rw[List.mem_singleton.mp hb];exact aW _ (Nat.le_refl _)
variable {G:Cfg} {A:Around} {env:Env} {X:Addr->Prop} {κ:List (Str×NameKind)} {ρ:Rho} {Φ:Fns} {t:Expr}
theorem lP.from{X0:Addr->Prop}{s0 s1 s:Shared}{xs:List V}{it:Value}(k:Keeps s0 s1)(h:lP G A t X0 s1 xs it s):lP G A t X0 s0 xs it s:=by
 obtain⟨s2,fp,wr,St,h1,h2,h3,h4,h5,h6⟩:=h;exact⟨s2,fp,wr,St,Kp.trans k h1,h2,h3,h4,h5,h6⟩
noncomputable def C5(G:Cfg)(A:Around)(env:Env)(X:Addr->Prop)(ρ:Rho)(t e:Expr)(xs:List V):Prop:=
 ∀O s,bJ G env X O ρ s.heap->∀(E':Value->Shared->Prop) (Q:Value->Shared->Prop),
  (∀it s',Keeps s s'->lP G A t (ag env X O) s xs it s'->Q it s')->wpAny (model G.p G.w) A (eval e env) (λx s1=>wpAny (model G.p G.w) A (pyIter x) Q E' s1) E' s
theorem qZ(Fa:av G A Φ){E:Expr->R}(GE:ar G A env X ρ E){e:Expr}(ok:(jZ κ E t e).1=true):C5 G A env X ρ t e (jZ κ E t e).2:=by
 have o3:=ay ok;have o1:=ay o3.1;have ht:=Bool.or_eq_true_iff.mp o3.2;have o2:=o1.2;intro O s S E' Q q;refine GE.ok e o1.1 O s S _ _ λu s1 k1 r1 => ?_
 have al:=(S.keeps (Kp.keep k1)).full
 change ∀it s',Keeps s s'->lP G A t (ag env X O) s (li (E e).2).2 it s'->Q it s' at q
 generalize (E e).2=v at o2 ht q r1
 induction v using V.casesOn with
 |list l=>exact vz Fa.none al (ht.imp id λh=>(ay h).1) r1 λit s2 k2 h=>q it s2 (Kp.trans k1 k2) (h.from k1)
 |str x=>
  obtain⟨tk,rfl⟩:=ah.str_iff.mp r1;exact xB Fa.none al (ht.elim id λh=>ab (ay h).2) λit s2 k2 h=>q it s2 (Kp.trans k1 k2) (h.from k1)
 |tup l=>exact xz Fa.none al (ht.elim id λh=>ab (ay h).2) r1 λit s2 k2 h=>q it s2 (Kp.trans k1 k2) (h.from k1)
 |_=>exact ab o2
theorem xC(Fa:av G A Φ)(En:am env κ){E:Expr->R}(GE:ar G A env X ρ E){as:List Expr}{p pos:Pos}(ok:(wX κ E t (nm "range") as).1=true):C5 G A env X ρ t (.Call (.Name "range" p) as [] pos) (wX κ E t (nm "range") as).2:=by
 have o4:=ay ok;have o3:=ay o4.1;have o1:=ay o3.1;intro O s S E' Q q;have pt:=ci GE pos o1.2;refine Call_Name rfl (cw Fa En o1.1 boot_range nofun S (bz (.inr ⟨_,rfl⟩) pt.1 (cS GE pos o1.2 O s S _ _ λus s1 k1 r1 => ?_)));refine qX o3.2 r1 λc s2 a b k t' u v k2 hr hok hv => ?_
 exact tm Fa.none k2 (S.keeps (Kp.keep k1)).full o4.2 hr hok λit s3 k3 h=>q it s3 (Kp.trans k1 (Kp.trans k2 k3)) ((congrArg (lP G A t (ag env X O) s · it s3) hv).mpr (h.from k1))
theorem zJ{P:Addr->Prop}{h:Heap}{xs:List V}{us:List Value}(n:Nat.beq xs.length 1=true)(r:Reps G P h xs us):∃u,us=[u]/\ah G P h (xs.getD 0 .none) u:=by
 induction xs using List.casesOn with
 |nil=>exact ab n
 |cons x xs=>induction xs using List.casesOn with
  |nil=>
   obtain⟨u,r',rfl,h1,h2⟩:=Reps.cons_iff.mp r;rw[Reps.nil_iff.mp h2];exact⟨u,rfl,h1⟩
  |cons _ _=>exact ab n
theorem xD(Fa:av G A Φ)(En:am env κ){E:Expr->R}(GE:ar G A env X ρ E){as:List Expr}{p pos:Pos}(ok:(wY κ E t (nm "enumerate") as).1=true):C5 G A env X ρ t (.Call (.Name "enumerate" p) as [] pos) (wY κ E t (nm "enumerate") as).2:=by
 have o5:=ay ok;have o4:=ay o5.1;have o3:=ay o4.1;have o1:=ay o3.1;intro O s S E' Q q;have pt:=ci GE pos o1.2;refine Call_Name rfl (cw Fa En o1.1 boot_enumerate nofun S (bz (.inr ⟨_,rfl⟩) pt.1 (cS GE pos o1.2 O s S _ _ λus s1 k1 r1 => ?_)));obtain⟨u,rfl,h1⟩:=zJ o3.2 r1;rw[<-xe o4.2]at h1;exact vA Fa.none (S.keeps (Kp.keep k1)).full o5.2 h1 λit s2 k2 h=>q it s2 (Kp.trans k1 k2) (h.from k1)
noncomputable def BD(e:Expr)(x:Str×List Expr):Prop:=∃p pos,e = .Call (.Name x.1 p) x.2 [] pos
theorem ga{e:Expr}{x:Str×List Expr}(h:fo e=some x):BD e x:=by
 induction e using Expr.casesOn with
 |Call g bs kw pos=>induction g using Expr.casesOn with
  |Name g p=>induction kw using List.casesOn with
   |nil=>rw[<-Option.some.inj h];exact⟨p,pos,rfl⟩
   |cons _ _=>exact ao h
  |_=>exact ao h
 |_=>exact ao h
theorem xE(Fa:av G A Φ)(En:am env κ){E:Expr->R}(GE:ar G A env X ρ E){f:Str}{as:List Expr}{p pos:Pos}(ok:(uv κ E t (.Call (.Name f p) as [] pos) (nm f) as).1=true):C5 G A env X ρ t (.Call (.Name f p) as [] pos) (uv κ E t (.Call (.Name f p) as [] pos) (nm f) as).2:=by
 unfold uv at ok |-;generalize c1:af (nm f) (nm "range")=b at ok |-
 induction b using Bool.casesOn with
 |true=>have ef:=g8 c1;subst ef;exact xC Fa En GE ok
 |false=>
  generalize c2:af (nm f) (nm "enumerate")=b at ok |-
  induction b using Bool.casesOn with
  |true=>have ef:=g8 c2;subst ef;exact xD Fa En GE ok
  |false=>exact qZ (κ:=κ) Fa GE ok
theorem p0(Fa:av G A Φ)(En:am env κ){E:Expr->R}(GE:ar G A env X ρ E){e:Expr}(ok:(aQ κ E t e).1=true):C5 G A env X ρ t e (aQ κ E t e).2:=by
 unfold aQ at ok |-;generalize h:fo e=o at ok |-
 induction o using Option.casesOn with
 |none=>exact qZ (κ:=κ) Fa GE ok
 |some x=>
  obtain⟨f,as⟩:=x;obtain⟨p,pos,rfl⟩:=ga h;exact xE Fa En GE ok
end
end
section
open PySem PySem.W PySem.Calls PyProof.Rows
theorem dU(t:Slot)(x:Nm):∀(ρ:Rho) (y:Nm),(y=x->lk (put ρ x t) y=t\/lk (put ρ x t) y = .un)/\(y≠x->lk (put ρ x t) y=lk ρ y)
 |[],y=>⟨λ_ => .inr rfl,λ_=>rfl⟩
 |(z,s)::r,y=>by
  have ih:=dU t x r y;rw[wU];cases c:af x z with
  |true=>
   have ez:=ai.mp c;subst ez;simp only[cond_true];refine⟨λe => ?_,λe => ?_⟩
   ·subst e;left;rw[ii,ai.mpr rfl];rfl
   ·have:af y x=false:=by cases h:af y x with
     |true=>exact absurd (ai.mp h) e
     |false=>rfl
    rw[ii,ii,this];rfl
  |false=>
   simp only[cond_false];have hxz:x≠z:=λe=>by rw[ai.mpr e]at c;cases c
   refine⟨λe => ?_,λe => ?_⟩
   ·subst e;rw[ii,c];exact ih.1 rfl
   ·rw[ii,ii]
    cases af y z with
    |true=>rfl
    |false=>exact ih.2 e
noncomputable def upd(O:Nm->Option Addr)(x:Nm)(a:Option Addr):Nm->Option Addr:=λy=>if y=x then a else O y
section
variable {G:Cfg} {A:Around} {env:Env} {X:Addr->Prop} {κ:List (Str×NameKind)} {ρ:Rho} {O:Nm->Option Addr}
theorem bJ.weaken{ρ':Rho}{h:Heap}(S:bJ G env X O ρ h)(w:∀x,lk ρ' x = .un\/lk ρ' x=lk ρ x):bJ G env X O ρ' h where
 old:=S.old
 new:=S.new
 alive:=S.alive
 look:=let⟨g,F,hg⟩:=S.look;⟨g,F,λx hx=>by
  rcases w (nm x)with e|e
  ·rw[e];trivial
  ·rw[e];exact hg x hx⟩
 inj:=S.inj
 apart:=S.apart
theorem tn {h0:Heap} {s:Shared} (S:bJ G env X O ρ h0) (k:∀b o,h0.get? b=some o->s.heap.get? b=some o) (En:am env κ) {x:Str} (hx:ae (kd κ (nm x))=true) {t:Slot} {u:Value} {ox:Option Addr}
 (ha:∀a,ox=some a->h0.get? a=none/\∃o,s.heap.get? a=some o) (hs:fJ G (ag env X (upd O (nm x) ox)) s.heap ox t (some u)) {E:Value->Shared->Prop} {Q:Unit->Shared->Prop}
 (q:∀h' tk,bJ G env X (upd O (nm x) ox) (put ρ (nm x) t) h'->(∀b o,¬eB env x b->s.heap.get? b=some o->h'.get? b=some o)->(∀b o,s.heap.get? b=some o->∃o',h'.get? b=some o')->Q () { s with heap:=h',toks:=tk }):
 wpAny (model G.p G.w) A (storeName env x u) Q E s:=by
 obtain⟨g,F,hg⟩:=S.look;have hx':ae (env.kindOf x)=true:=(En.names x).trans hx;have dead:∀a,ox=some a->∀b,ag env X O b->b≠a:=λa e b fb eb=>by
  subst eb;obtain⟨o,eo⟩:=S.alive b fb;rw[(ha b e).1]at eo;cases eo
 have full:∀b,ag env X (upd O (nm x) ox) b->ag env X O b\/ox=some b:=λb fb=>by
  rcases fb with h|h|⟨y,h⟩
  ·exact .inl (.inl h)
  ·exact .inl (.inr (.inl h))
  ·unfold upd at h
   split at h
   ·exact .inr h
   ·exact .inl (.inr (.inr ⟨y,h⟩))
 have sub:∀b,(∃o,h0.get? b=some o)->ag env X (upd O (nm x) ox) b->ag env X O b:=λb ⟨o,e⟩ fb=>by
  rcases full b fb with h|h
  ·exact h
  ·rw[(ha b h).1]at e;injections e
 refine j2 En.kind (F.keeps k) hx' λh' tk c hc F' kc al=>q h' tk ?_ (λb o nb e=>kc b o (λe'=>nb (e'▸hc)) e) al
 have hcO:du env c:=hc.own;have onAll:On (ag env X O) (ag env X (upd O (nm x) ox)) h0 h':=⟨λb o nb e=>kc b o (λe'=>nb (.inr (.inl (e'▸hcO)))) (k b o e),λb o e fb=>sub b ⟨o,e⟩ fb⟩;have sS:On (ag env X (upd O (nm x) ox)) (ag env X (upd O (nm x) ox)) s.heap h':=⟨λb o nb e=>kc b o (λe'=>nb (.inr (.inl (e'▸hcO)))) e,λ_ _ _ y=>y⟩;have cOld:∃o,h0.get? c=some o:=S.alive c (.inr (.inl hcO));refine⟨λb o e => ?_,λb fb => ?_,λb fb => ?_,⟨_,F',λy hy => ?_⟩,λy z a e e' => ?_,λy a e => ?_⟩
 ·refine kc b o (λe' => ?_) (k b o (S.old b o e))
  have:=S.new b (.inr (.inl (e'▸hcO)));rw[this]at e;injections e
 ·rcases full b fb with h|h
  ·exact S.new b h
  ·cases e:G.h0.get? b with
   |none=>rfl
   |some o=>have:=S.old b o e;rw[(ha b h).1]at this;injections this
 ·rcases full b fb with h|h
  ·obtain⟨o,e⟩:=S.alive b h;exact al b o (k b o e)
  ·obtain⟨o,e⟩:=(ha b h).2;exact al b o e
 ·by_cases ey:y=x
  ·subst ey
   rcases(dU t (nm y) ρ (nm y)).1 rfl with e|e
   ·rw[e,if_pos rfl]
    have:upd O (nm y) ox (nm y)=ox:=by unfold upd;rw[if_pos rfl]
    rw[this];refine hs.on sS λa ea o eo=>kc a o (λe' => ?_) eo
    obtain⟨o',e''⟩:=cOld;rw[<-e',(ha a ea).1]at e'';cases e''
   ·rw[e];trivial
  ·have ny:nm y≠nm x:=λe=>ey (bQ e)
   rw[(dU t (nm x) ρ (nm y)).2 ny,if_neg ey];have:upd O (nm x) ox (nm y)=O (nm y):=by unfold upd;rw[if_neg ny]
   rw[this];refine(hg y hy).on onAll λa ea o eo=>kc a o (λe' => ?_) (k a o eo)
   exact(S.apart (nm y) a ea).2 (e'▸hcO)
 ·unfold upd at e e'
  by_cases e1:y=nm x<;>by_cases e2:z=nm x
  ·rw[e1,e2]
  ·rw[if_pos e1]at e;rw[if_neg e2]at e'
   exact absurd rfl (dead a e a (.inr (.inr ⟨z,e'⟩)))
  ·rw[if_neg e1]at e;rw[if_pos e2]at e'
   exact absurd rfl (dead a e' a (.inr (.inr ⟨y,e⟩)))
  ·rw[if_neg e1]at e;rw[if_neg e2]at e'
   exact S.inj y z a e e'
 ·unfold upd at e
  split at e
  ·exact⟨λh=>dead a e a (.inl h) rfl,λh=>dead a e a (.inr (.inl h)) rfl⟩
  ·exact S.apart y a e
theorem bp {s:Shared} (S:bJ G env X O ρ s.heap) (En:am env κ) {x:Str} (hx:ae (kd κ (nm x))=true) {v:V} {u:Value} (r:ah G (ag env X O) s.heap v u) {E:Value->Shared->Prop} {Q:Unit->Shared->Prop}
 (q:∀h' tk,bJ G env X (upd O (nm x) none) (put ρ (nm x) (.val v)) h'->(∀b o,¬eB env x b->s.heap.get? b=some o->h'.get? b=some o)->(∀b o,s.heap.get? b=some o->∃o',h'.get? b=some o')->Q () { s with heap:=h',toks:=tk }):
 wpAny (model G.p G.w) A (storeName env x u) Q E s:=by
 refine tn (t := .val v) (ox:=none) S (λ_ _ e=>e) En hx (λa e=>by injections e) ⟨u,rfl,r.on ⟨λ_ _ _ e=>e,λb o _ fb => ?_⟩⟩ q
 rcases fb with h|h|⟨y,h⟩
 ·exact .inl h
 ·exact .inr (.inl h)
 ·unfold upd at h
  split at h
  ·injections h
  ·exact .inr (.inr ⟨y,h⟩)
noncomputable def cT(env:Env)(ns:List Nm)(s s':Shared):Prop:=
 ∃h tk,s'={ s with heap:=h,toks:=tk }/\(∀b o,(∀x,nm x∈ns->¬eB env x b)->s.heap.get? b=some o->h.get? b=some o)/\∀b o,s.heap.get? b=some o->∃o',h.get? b=some o'
theorem cT.refl(ns:List Nm)(s:Shared):cT env ns s s:=⟨s.heap,s.toks,rfl,λ_ _ _ e=>e,λb o e=>⟨o,e⟩⟩
theorem cT.of_keeps{ns:List Nm}{s s':Shared}(k:Keeps s s'):cT env ns s s':=by
 obtain⟨h,t,rfl,k⟩:=k;exact⟨h,t,rfl,λb o _ e=>k b o e,λb o e=>⟨o,k b o e⟩⟩
theorem cT.trans{ns ms ls:List Nm}{a b c:Shared}(x:cT env ns a b)(y:cT env ms b c)(h1:∀z,z∈ns->z∈ls)(h2:∀z,z∈ms->z∈ls):cT env ls a c:=by
 obtain⟨h,t,rfl,k,l⟩:=x;obtain⟨h',t',rfl,k',l'⟩:=y;refine⟨h',t',rfl,λb o n e=>k' b o (λz hz=>n z (h2 _ hz)) (k b o (λz hz=>n z (h1 _ hz)) e),λb o e => ?_⟩;obtain⟨o',e'⟩:=l b o e;exact l' b o' e'
noncomputable def iX(O:Nm->Option Addr)(ns:List Nm):Nm->Option Addr:=λy=>if y∈ns then none else O y
theorem q8(O:Nm->Option Addr):iX O []=O:=by funext y;simp[iX]
theorem ou(O:Nm->Option Addr)(x:Nm)(ns:List Nm):iX (upd O x none) ns=iX O (x::ns):=by
 funext y
 unfold iX upd
 by_cases h1:y∈ns
 ·simp[h1]
 ·by_cases h2:y=x
  ·simp[h2]
  ·simp[h1,h2]
theorem ag.upd{b:Addr}{ns:List Nm}(h:ag env X (iX O ns) b):ag env X O b:=by
 rcases h with h|h|⟨y,h⟩
 ·exact .inl h
 ·exact .inr (.inl h)
 ·unfold iX at h
  split at h
  ·injections h
  ·exact .inr (.inr ⟨y,h⟩)
theorem j7:∀{ts:List Expr} {vs:List V} {us:List Value} {O:Nm->Option Addr} {ρ:Rho} {s:Shared},(jx ts vs ρ).1=true->(∀x∈ts.filterMap nmT,ae (kd κ x)=true) ->
 am env κ->bJ G env X O ρ s.heap->Reps G (ag env X O) s.heap vs us->∀(E:Value->Shared->Prop) (Q:Unit->Shared->Prop),
 (∀s',bJ G env X (iX O (ts.filterMap nmT)) (jx ts vs ρ).2 s'.heap->cT env (ts.filterMap nmT) s s'->Q () s') ->
 wpAny (model G.p G.w) A (assignInOrder ((assignEach ts env).map (·.2)) us) Q E s
 |[],vs,us,O,ρ,s,ok,hx,En,S,r,E,Q,q=>by
  induction vs using List.casesOn with
  |nil=>
   rw[Reps.nil_iff.mp r];have:=q s (by rw[List.filterMap_nil,q8];exact S) (cT.refl _ s);exact wpAny_pure this
  |cons v vs=>injections ok
 |t::ts,vs,us,O,ρ,s,ok,hx,En,S,r,E,Q,q=>by
  induction t using Expr.casesOn with
  |Name x p=>
   induction vs using List.casesOn with
   |nil=>injections ok
   |cons v vs=>
    obtain⟨u,us',rfl,h1,h2⟩:=Reps.cons_iff.mp r;have ok':(jx ts vs (put ρ (nm x) (.val v))).1=true:=ok;have hx1:ae (kd κ (nm x))=true:=hx _ (List.mem_cons_self ..);show wpAny _ A (assignInOrder (assign (.Name x p) env::(assignEach ts env).map (·.2)) (u::us')) Q E s;refine wpAny_assignInOrder_more (wpAny_assign_Name (bp S En hx1 h1 λh' tk S' k' al => ?_));have on:On (ag env X O) (ag env X (Mine.upd O (nm x) none)) s.heap h':=⟨λb o nb e=>k' b o (λpl=>nb (.inr (.inl pl.own))) e,λb o _ fb=>by
     rcases fb with h|h|⟨y,h⟩
     ·exact .inl h
     ·exact .inr (.inl h)
     ·unfold Mine.upd at h
      split at h
      ·injections h
      ·exact .inr (.inr ⟨y,h⟩)⟩
    refine j7 (s:={ s with heap:=h',toks:=tk }) ok' (λy hy=>hx y (List.mem_cons_of_mem _ hy)) En S' (Reps.on on h2) E Q λs' S'' mv=>q s' ?_ ?_
    ·rw[iO]
     rw[ou]at S'';exact S''
    ·rw[iO]
     refine cT.trans (ns:=[nm x]) ⟨h',tk,rfl,λb o n e=>k' b o (n x (by simp)) e,al⟩ mv (λz hz => ?_) λz hz=>List.mem_cons_of_mem _ hz
     rw[List.mem_singleton.mp hz];exact List.mem_cons_self ..
  |_=>injections ok
theorem hH:∀{ts:List Expr} {vs:List V} {ρ:Rho},(jx ts vs ρ).1=true->(assignEach ts env).length=ts.length/\ts.length=vs.length/\(assignEach ts env).findIdx? (·.1)=none
 |[],vs,ρ,ok=>by
  induction vs using List.casesOn with
  |nil=>exact⟨rfl,rfl,rfl⟩
  |cons v vs=>injections ok
 |t::ts,vs,ρ,ok=>by
  induction t using Expr.casesOn with
  |Name x p=>
   induction vs using List.casesOn with
   |nil=>injections ok
   |cons v vs=>
    have ih:=hH (ts:=ts) (vs:=vs) (ρ:=put ρ (nm x) (.val v)) ok;have e:assignEach (.Name x p::ts) env=(false,assign (.Name x p) env)::assignEach ts env:=rfl;rw[e];refine⟨by simp[ih.1],by simp[ih.2.1], ?_⟩;rw[List.findIdx?_cons,ih.2.2];rfl
  |_=>injections ok
theorem tq (Fh:A.handled=none) (En:am env κ) {t:Expr} {v:V} {u:Value} {s:Shared} (ok:(aT t v ρ).1=true) (hx:∀x∈az t,ae (kd κ x)=true) (S:bJ G env X O ρ s.heap) (r:ah G (ag env X O) s.heap v u)
 (E:Value->Shared->Prop) (Q:Unit->Shared->Prop) (q:∀s',bJ G env X (iX O (az t)) (aT t v ρ).2 s'.heap->cT env (az t) s s'->Q () s'):wpAny (model G.p G.w) A (assign t env u) Q E s:=by
 induction t using Expr.casesOn with
 |Name x p=>
  refine wpAny_assign_Name (bp S En (hx _ (List.mem_cons_self ..)) r λh' tk S' k' al=>q _ ?_ ⟨h',tk,rfl,λb o n e=>k' b o (n x (List.mem_cons_self ..)) e,al⟩);have:iX O (az (.Name x p))=upd O (nm x) none:=by
   rw[show az (.Name x p)=[nm x]from rfl,<-ou,q8]
  rw[this];exact S'
 |Tuple ts k p=>
  induction v using V.casesOn with
  |tup vs=>
   have ok':(jx ts vs ρ).1=true:=ok;obtain⟨a,us,rfl,na,ht,rr⟩:=ah.tup_iff.mp r;have pt:=hH (env:=env) ok';refine wpAny_assign_Tuple Fh ht (by rw[pt.1,pt.2.1,rr.length,Array.length_toList]) pt.2.2 λh' he => ?_
   have kp:∀b o,s.heap.get? b=some o->h'.get? b=some o:=λb o e=>he b o (Nat.ne_of_lt (Heap.lt_size e)) e
   refine j7 (s:={ s with heap:=h' }) ok' hx En (S.keeps kp) (Reps.on (On.of_keeps kp) rr) E Q λs' S' mv=>q s' S' ?_
   exact cT.trans (ns:=az (.Tuple ts k p)) (cT.of_keeps (Kp.heap s.toks kp)) mv (λ_ h=>h) λ_ h=>h
  |_=>injections ok
 |_=>injections ok
end
end
section
open PySem PySem.W PySem.Calls PyProof.Rows
theorem bq:∀(κ:List (Str×NameKind)) (x:Str),kd κ (nm x)=κ.lookup x
 |[],x=>rfl
 |(y,k)::r,x=>by
  have ih:=bq r x;rw[D5,List.lookup_cons,pJ];cases x==y with
  |true=>rfl
  |false=>exact ih
theorem mem_iff:∀{l:List Nm} {x:Nm},Mine.iM x l=true↔x∈l
 |[],x=>⟨λh=>ab h,λh=>(List.not_mem_nil h).elim⟩
 |y::r,x=>by
  rw[CG,Bool.or_eq_true,ai,mem_iff (l:=r),List.mem_cons]
theorem nodup_iff:∀{l:List Nm},dQ l=true↔l.Nodup
 |[]=>⟨λ_ => .nil,λ_=>rfl⟩
 |y::r=>by
  rw[w5,Bool.and_eq_true,nodup_iff (l:=r),List.nodup_cons,Bool.not_eq_true',<-mem_iff,Bool.not_eq_true]
noncomputable def iu(names:List (Str×NameKind)):Prop:=(names.map λx=>nm x.1).Nodup
theorem iu.same{names:List (Str×NameKind)}(h:iu names){x:Str}{k k':NameKind}(h1:(x,k)∈names)(h2:(x,k')∈names):k=k':=by
 induction names with
 |nil=>injections h1
 |cons y r ih=>
  unfold iu at h;rw[List.map_cons,List.nodup_cons]at h
  rcases List.mem_cons.mp h1 with e1|h1<;>rcases List.mem_cons.mp h2 with e2|h2
  ·rw[<-e1]at e2;exact(Prod.mk.inj e2).2.symm
  ·exact absurd (List.mem_map.mpr ⟨_,h2,by rw[<-e1]⟩) h.1
  ·exact absurd (List.mem_map.mpr ⟨_,h1,by rw[<-e2]⟩) h.1
  ·exact ih h.2 h1 h2
theorem iu.lookup{names:List (Str×NameKind)}(h:iu names){x:Str}{k:NameKind}(h1:(x,k)∈names):names.lookup x=some k:=by
 have:∃k',names.lookup x=some k':=by
  clear h
  induction names with
  |nil=>injections h1
  |cons y r ih=>
   obtain⟨y,k0⟩:=y;rw[List.lookup_cons];cases e:x==y with
   |true=>exact⟨_,rfl⟩
   |false=>
    rcases List.mem_cons.mp h1 with e1|h1
    ·injection e1 with e1 e2;subst e1;simp at e
    ·exact ih h1
 obtain⟨k',e⟩:=this;rw[e,h.same (mem_of_lookup e) h1]
theorem cL{α:Type}:∀{l:List (Str×α)} {x:Str} {c:α},(x,c)∈l->∃c',l.lookup x=some c'
 |(y,d)::r,x,c,h=>by
  rw[List.lookup_cons];cases e:x==y with
  |true=>exact⟨_,rfl⟩
  |false=>
   rcases List.mem_cons.mp h with e1|h
   ·injection e1 with e1 e2;subst e1;simp at e
   ·exact cL h
noncomputable def fL(env:Env):List (Str×NameKind)->List (Str×Addr)->List (Str×Addr)
 |[],acc=>acc
 |(n,k)::r,acc=>if k == .free then fL env r ((n,(env.cells.lookup n).getD 0)::acc)else fL env r acc
theorem lQ{env:Env}{n:Str}{k:NameKind}{r:List (Str×NameKind)}{acc:List (Str×Addr)}:fL env ((n,k)::r) acc=if k == .free then fL env r ((n,(env.cells.lookup n).getD 0)::acc)else fL env r acc:=rfl
theorem iv {env:Env} (f:Str×NameKind->List (Str×Addr)->Sem (ForInStep (List (Str×Addr))))
 (hf:∀name kind cs,f (name,kind) cs=if kind == .free then(do let a <-cellOf env name;pure (.yield ((name,a)::cs)))else pure (.yield cs)):
 ∀(names:List (Str×NameKind)) (acc:List (Str×Addr)),(∀n,(n,NameKind.free)∈names->∃c,env.cells.lookup n=some c)->forIn names acc f=pure (fL env names acc)
 |[],acc,_=>by rw[List.forIn_nil];rfl
 |(n,k)::r,acc,h=>by
  rw[List.forIn_cons,hf];rw[lQ];cases hk:k==NameKind.free with
  |true=>
   simp only[if_true];have ek:k = .free:=eq_of_beq hk;subst ek;obtain⟨c,hc⟩:=h n (List.mem_cons_self ..);unfold cellOf;rw[hc];have:=iv f hf r ((n,c)::acc) (λm hm=>h m (List.mem_cons_of_mem _ hm));exact this
  |false=>
   simp only[Bool.false_eq_true,if_false];exact iv f hf r acc (λm hm=>h m (List.mem_cons_of_mem _ hm))
theorem tz{env:Env}{scope:Scope}(h:∀n,(n,NameKind.free)∈scope.names->∃c,env.cells.lookup n=some c):closureFor scope env=pure (fL env scope.names []):=by
 simp only[closureFor];rw[iv (env:=env) _ (λname kind cs=>by cases hk:kind==NameKind.free<;>simp) scope.names [] h]
 rfl
theorem dv{env:Env}:∀{names:List (Str×NameKind)} {acc:List (Str×Addr)} {n:Str} {c:Addr},(∀n,(n,NameKind.free)∈names->∃c,env.cells.lookup n=some c)->(n,c)∈fL env names acc ->
 (n,c)∈acc\/((n,NameKind.free)∈names/\env.cells.lookup n=some c)
 |[],acc,n,c,_,h => .inl h
 |(m,k)::r,acc,n,c,hc,h=>by
  rw[lQ]at h;cases hk:k==NameKind.free with
  |true=>
   rw[hk]at h;simp only[if_true]at h;have ek:k = .free:=eq_of_beq hk;subst ek
   rcases dv (λm hm=>hc m (List.mem_cons_of_mem _ hm)) h with h|⟨h1,h2⟩
   ·rcases List.mem_cons.mp h with e|h
    ·injection e with e1 e2;subst e1
     obtain⟨d,hd⟩:=hc n (List.mem_cons_self ..);rw[hd]at e2;exact .inr ⟨List.mem_cons_self ..,by rw[hd,e2];rfl⟩
    ·exact .inl h
   ·exact .inr ⟨List.mem_cons_of_mem _ h1,h2⟩
  |false=>
   rw[hk]at h;simp only[Bool.false_eq_true,if_false]at h
   rcases dv (λm hm=>hc m (List.mem_cons_of_mem _ hm)) h with h|⟨h1,h2⟩
   ·exact .inl h
   ·exact .inr ⟨List.mem_cons_of_mem _ h1,h2⟩
theorem jI{env:Env}:∀{names:List (Str×NameKind)} {acc:List (Str×Addr)} {x:Str×Addr},x∈acc->x∈fL env names acc
 |[],acc,x,h=>h
 |(m,k)::r,acc,x,h=>by
  rw[lQ]
  split
  ·exact jI (List.mem_cons_of_mem _ h)
  ·exact jI h
theorem lR{env:Env}:∀{names:List (Str×NameKind)} {acc:List (Str×Addr)} {n:Str},(n,NameKind.free)∈names->∃c,(n,c)∈fL env names acc
 |(m,k)::r,acc,n,h=>by
  rw[lQ]
  rcases List.mem_cons.mp h with e|h
  ·injection e with e1 e2;subst e1;subst e2
   exact⟨_,by rw[if_pos (by rfl)];exact jI (List.mem_cons_self ..)⟩
  ·split
   ·exact lR h
   ·exact lR h
theorem iw{env:Env}(hp:env.cells.Pairwise λx y=>x.2≠y.2):∀{names:List (Str×NameKind)} {acc:List (Str×Addr)},(∀n,(n,NameKind.free)∈names->∃c,env.cells.lookup n=some c)->iu names ->
 (∀n c,(n,c)∈acc->env.cells.lookup n=some c/\∀k,(n,k)∉names)->acc.Pairwise (λx y=>x.2≠y.2)->(fL env names acc).Pairwise λx y=>x.2≠y.2
 |[],acc,_,_,_,h=>h
 |(m,k)::r,acc,hc,ho,ha,h=>by
  have ho':nm m∉r.map (λx=>nm x.1)/\iu r:=by
   unfold iu at ho;rw[List.map_cons,List.nodup_cons]at ho;exact ho
  rw[lQ];cases hk:k==NameKind.free with
  |true=>
   simp only[if_true];have ek:k = .free:=eq_of_beq hk;subst ek;obtain⟨d,hd⟩:=hc m (List.mem_cons_self ..);rw[hd];refine iw hp (λm hm=>hc m (List.mem_cons_of_mem _ hm)) ho'.2 (λn c hn => ?_) (List.pairwise_cons.mpr ⟨λy hy e => ?_,h⟩)
   ·rcases List.mem_cons.mp hn with e|hn
    ·injection e with e1 e2;subst e1
     exact⟨by rw[hd,e2];rfl,λk hk=>ho'.1 (List.mem_map.mpr ⟨_,hk,rfl⟩)⟩
    ·exact⟨(ha n c hn).1,λk hk=>(ha n c hn).2 k (List.mem_cons_of_mem _ hk)⟩
   ·obtain⟨n,c⟩:=y
    have e:d=c:=e;have:=name_of_addr hp (mem_of_lookup hd) (e▸mem_of_lookup (ha n c hy).1);subst this;exact(ha m c hy).2 _ (List.mem_cons_self ..)
  |false=>
   simp only[Bool.false_eq_true,if_false];exact iw hp (λm hm=>hc m (List.mem_cons_of_mem _ hm)) ho'.2 (λn c hn=>⟨(ha n c hn).1,λk hk=>(ha n c hn).2 k (List.mem_cons_of_mem _ hk)⟩) h
theorem bv:∀{names:List (Str×NameKind)} {h:Heap} {acc:List (Str×Addr)} {n:Str} {c:Addr},(n,c)∈cellsFrom h.objs.size names acc ->
 (n,c)∈acc\/((n,NameKind.cell)∈names/\h.objs.size<=c/\(pushCells h names).IsCell c none)
 |[],h,acc,n,c,m => .inl m
 |(x,k)::r,h,acc,n,c,m=>by
  unfold cellsFrom at m;cases hk:k==NameKind.cell with
  |true=>
   rw[hk]at m;simp only[if_true]at m;have ek:k = .cell:=eq_of_beq hk;subst ek;have e1:h.objs.size+1=(h.push { cls := .type "cell",data := .cell none }).objs.size:=(Heap.size_push ..).symm;rw[e1]at m;have pc:pushCells h ((x, .cell)::r)=pushCells (h.push { cls := .type "cell",data := .cell none }) r:=rfl
   rcases bv m with m|⟨m1,m2,m3⟩
   ·rcases List.mem_cons.mp m with e|m
    ·injection e with e1 e2;subst e1;subst e2
     refine .inr ⟨List.mem_cons_self ..,Nat.le_refl _, ?_⟩;rw[pc];exact⟨_,pushCells_keeps _ _ _ _ (Heap.get?_push_size _ rfl),rfl⟩
    ·exact .inl m
   ·exact .inr ⟨List.mem_cons_of_mem _ m1,by rw[<-e1]at m2;omega,by rw[pc];exact m3⟩
  |false=>
   rw[hk]at m;simp only[Bool.false_eq_true,if_false]at m;have pc:pushCells h ((x,k)::r)=pushCells h r:=by
    show(if(k==NameKind.cell)=true then pushCells (h.push { cls := .type "cell",data := .cell none }) r else pushCells h r)=_;rw[if_neg (by rw[hk];exact Bool.false_ne_true)]
   rcases bv m with m|⟨m1,m2,m3⟩
   ·exact .inl m
   ·exact .inr ⟨List.mem_cons_of_mem _ m1,m2,by rw[pc];exact m3⟩
theorem cU:∀{names:List (Str×NameKind)} {n:Nat} {acc:List (Str×Addr)} {x:Str×Addr},x∈acc->x∈cellsFrom n names acc
 |[],n,acc,x,h=>h
 |(m,k)::r,n,acc,x,h=>by
  unfold cellsFrom
  split
  ·exact cU (List.mem_cons_of_mem _ h)
  ·exact cU h
theorem bw:∀{names:List (Str×NameKind)} {n:Nat} {acc:List (Str×Addr)} {x:Str},(x,NameKind.cell)∈names->∃c,(x,c)∈cellsFrom n names acc
 |(m,k)::r,n,acc,x,h=>by
  unfold cellsFrom
  rcases List.mem_cons.mp h with e|h
  ·injection e with e1 e2;subst e1;subst e2
   exact⟨n,by rw[if_pos (by rfl)];exact cU (List.mem_cons_self ..)⟩
  ·split
   ·exact bw h
   ·exact bw h
theorem dA:∀{names:List (Str×NameKind)} {n:Nat} {acc:List (Str×Addr)},(∀x∈acc,x.2<n)->acc.Pairwise (λx y=>x.2≠y.2)->(cellsFrom n names acc).Pairwise λx y=>x.2≠y.2
 |[],n,acc,_,h=>h
 |(m,k)::r,n,acc,ha,h=>by
  unfold cellsFrom
  split
  ·refine dA (λx hx => ?_) (List.pairwise_cons.mpr ⟨λy hy e => ?_,h⟩)
   ·rcases List.mem_cons.mp hx with e|hx
    ·rw[e];exact Nat.lt_succ_self n
    ·exact Nat.lt_succ_of_lt (ha x hx)
   ·have e:n=y.2:=e
    exact Nat.lt_irrefl _ (e▸ha y hy:n<n)
  ·exact dA ha h
theorem gb{env:Env}:∀{names:List (Str×NameKind)} {x:Str},
 (names.map λ(n,k)=>if(k==NameKind.free&&env.scope.kind == .function&&env.kindOf n==some .cell)then(n,NameKind.cell)else(n,k)).lookup x =
   (names.lookup x).map λk=>if(k==NameKind.free&&env.scope.kind == .function&&env.kindOf x==some .cell)then NameKind.cell else k
 |[],x=>rfl
 |(n,k)::r,x=>by
  have ih := @gb env r x;show List.lookup x ((if(k==NameKind.free&&env.scope.kind == .function&&env.kindOf n==some .cell)=true then(n,NameKind.cell)else(n,k))::_)=_
  by_cases hc:(k==NameKind.free&&env.scope.kind == .function&&env.kindOf n==some .cell)=true
  ·rw[if_pos hc,List.lookup_cons,List.lookup_cons]
   cases e:x==n with
   |true=>
    have en:x=n:=eq_of_beq e;subst en;simp only[Option.map_some,if_pos hc]
   |false=>exact ih
  ·rw[if_neg hc,List.lookup_cons,List.lookup_cons]
   cases e:x==n with
   |true=>
    have en:x=n:=eq_of_beq e;subst en;simp only[Option.map_some,if_neg hc]
   |false=>exact ih
section
variable {G:Cfg} {A:Around} {env:Env} {X:Addr->Prop} {κ:List (Str×NameKind)} {ρ:Rho} {O:Nm->Option Addr} {scope:Scope}
structure gI(κ:List (Str×NameKind))(scope:Scope):Prop where
 kind:scope.kind = .function
 once:iu scope.names
 plain:∀x k,(x,k)∈scope.names->(x==("__debug__":Str))=false/\(x==("__classdict__":Str))=false
 free:∀x,(x,NameKind.free)∈scope.names->ij (kd κ (nm x))=true
theorem lS(h:ew κ scope=true):gI κ scope:=by
 unfold ew at h;simp only[Bool.and_eq_true]at h;obtain⟨⟨⟨h1,h2⟩,h3⟩,h4⟩:=h;refine⟨?_,nodup_iff.mp h2,λx k hx => ?_,λx hx => ?_⟩
 ·cases hk:scope.kind<;>first|rfl|(rw[hk]at h1;injections h1)
 ·have:=List.all_eq_true.mp h3 _ hx
  simp only[Bool.and_eq_true,Bool.not_eq_true',pJ]at this;exact this
 ·have:=List.all_eq_true.mp h4 _ hx
  exact this
theorem tA{names:List (Str×NameKind)}{f:NameKind->Nm->Slot}:∀{x:Str},lk (names.map λy=>(nm y.1,f y.2 (nm y.1))) (nm x)=match names.lookup x with|some k=>f k (nm x)|none => .un:=by
 induction names with
 |nil=>intro x;rfl
 |cons y r ih=>
  obtain⟨y,k⟩:=y;intro x;rw[List.map_cons];rw[ii,List.lookup_cons,pJ];cases e:x==y with
  |true=>rw[eq_of_beq e];rfl
  |false=>exact ih
theorem lT{x:Str}:lk (bD scope ρ) (nm x)=match scope.names.lookup x with|some .free=>uw (lk ρ (nm x))|_ => .un:=by
 have:=tA (names:=scope.names) (f:=λk n=>match k with| .free=>uw (lk ρ n)|_ => .un) (x:=x);unfold bD;refine(congrArg (λl=>lk l (nm x)) (List.map_congr_left λy _ => ?_)).trans (this.trans ?_)
 ·rfl
 ·cases scope.names.lookup x with
  |none=>rfl
  |some k=>induction k using NameKind.casesOn<;>rfl
theorem xF{env:Env}{x:Str}(k:NameKind):∃k',(if(k==NameKind.free&&env.scope.kind == .function&&env.kindOf x==some .cell)then NameKind.cell else k)=k'/\ae (some k')=ae (some k)/\ij (some k')=ij (some k)/\aN (some k')=aN (some k):=by
 by_cases hc:(k==NameKind.free&&env.scope.kind == .function&&env.kindOf x==some .cell)=true
 ·rw[if_pos hc]
  simp only[Bool.and_eq_true]at hc;have ek:k = .free:=eq_of_beq hc.1.1;subst ek;exact⟨_,rfl,rfl,rfl,rfl⟩
 ·rw[if_neg hc]
  exact⟨_,rfl,rfl,rfl,rfl⟩
noncomputable def eX(scope:Scope)(env:Env)(C:Addr):Env:=compEnvC scope (cellsFrom (C+1) scope.names (fL env scope.names [])) C env
theorem dh(x:Str):(eX scope env C).kindOf x=(scope.names.lookup x).map λk=>if(k==NameKind.free&&env.scope.kind == .function&&env.kindOf x==some .cell)then NameKind.cell else k:=gb
theorem xG(Ok:gI κ scope)(En:am env κ)(C:Addr):am (eX scope env C) scope.names where
 kind:=Ok.kind
 names:=λx=>by
  rw[dh,bq];cases scope.names.lookup x with
  |none=>rfl
  |some k=>obtain⟨k',e,h1,h2,h3⟩:=xF (env:=env) (x:=x) k;simp only[Option.map_some];rw[e];exact h1
 free:=λx=>by
  rw[dh,bq];cases scope.names.lookup x with
  |none=>rfl
  |some k=>obtain⟨k',e,h1,h2,h3⟩:=xF (env:=env) (x:=x) k;simp only[Option.map_some];rw[e];exact h2
 glob:=λx=>by
  rw[dh,bq];cases scope.names.lookup x with
  |none=>rfl
  |some k=>obtain⟨k',e,h1,h2,h3⟩:=xF (env:=env) (x:=x) k;simp only[Option.map_some];rw[e];exact h3
 plain:=λx h=>by
  rw[dh]at h;cases e:scope.names.lookup x with
  |none=>rw[e]at h;injections h
  |some k=>exact Ok.plain x k (mem_of_lookup e)
 globals:=En.globals
 builtins:=En.builtins
theorem lU(Ok:gI κ scope)(En:am env κ){g:Str->Option Value}{h:Heap}(F:bU env h g):∀n,(n,NameKind.free)∈scope.names->∃c,env.cells.lookup n=some c/\h.IsCell c (g n):=
 λn hn=>F.cell n ((En.free n).trans (Ok.free n hn))
theorem jJ(hc:∀n,(n,NameKind.free)∈scope.names->∃c,env.cells.lookup n=some c){h:Heap}{b:Addr}(hb:du (eX scope env h.objs.size) b):
 b=h.objs.size\/h.objs.size+1<=b\/du env b:=by
 rcases hb with e|⟨x,m⟩
 ·exact .inl e
 ·have e1:h.objs.size+1=(h.push { cls := .type "dict",data := .dict #[] }).objs.size:=(Heap.size_push ..).symm
  change (x,b)∈cellsFrom (h.objs.size+1) scope.names (fL env scope.names [])at m
  rw[e1]at m
  rcases bv m with m|⟨_,m2,_⟩
  ·rcases dv hc m with m|⟨_,m⟩
   ·cases m
   ·exact .inr (.inr (.inr ⟨x,mem_of_lookup m⟩))
  ·exact .inr (.inl (by rw[e1];exact m2))
theorem BE(Ok:gI κ scope)(En:am env κ){h0 h:Heap}(S:bJ G env X O ρ h0)(k:∀b o,h0.get? b=some o->h.get? b=some o){Z:Addr->Prop}(hz:∀b,Z b->h0.get? b=none/\∃o,h.get? b=some o):
 bJ G (eX scope env h.objs.size) (λb=>ag env X O b\/Z b) (λ_=>none) (bD scope ρ) (pushCells (h.push { cls := .type "dict",data := .dict #[] }) scope.names):=by
 obtain⟨g,F,hg⟩:=S.look;have hc':=lU Ok En F;have hc:∀n,(n,NameKind.free)∈scope.names->∃c,env.cells.lookup n=some c:=λn hn=>let⟨c,e,_⟩:=hc' n hn;⟨c,e⟩
 have kp:∀b o,h.get? b=some o->(pushCells (h.push { cls := .type "dict",data := .dict #[] }) scope.names).get? b=some o:=λb o e=>pushCells_keeps _ _ _ _ (Heap.get?_push_of_some _ e)
 have e1:h.objs.size+1=(h.push { cls := .type "dict",data := .dict #[] }).objs.size:=(Heap.size_push ..).symm;have full:∀b,ag (eX scope env h.objs.size) (λb=>ag env X O b\/Z b) (λ_=>none) b->ag env X O b\/Z b\/(h.objs.size<=b):=λb fb=>by
  rcases fb with(fb|fb)|fb|⟨y,fb⟩
  ·exact .inl fb
  ·exact .inr (.inl fb)
  ·rcases jJ hc fb with e|e|e
   ·exact .inr (.inr (by rw[e];exact Nat.le_refl _))
   ·exact .inr (.inr ⋯)
   ·exact .inl (.inr (.inl e))
  ·cases fb
 have none0:∀b,h0.get? b=none->G.h0.get? b=none:=λb e=>by
  cases e':G.h0.get? b with
  |none=>rfl
  |some o=>have:=S.old b o e';rw[e]at this;injections this
 have above:∀b,h.objs.size<=b->h0.get? b=none:=λb hb=>by
  cases e:h0.get? b with
  |none=>rfl
  |some o=>exact absurd (Heap.lt_size (k b o e)) (Nat.not_lt.mpr hb)
 have on:On (ag env X O) (ag (eX scope env h.objs.size) (λb=>ag env X O b\/Z b) (λ_=>none)) h0 (pushCells (h.push { cls := .type "dict",data := .dict #[] }) scope.names):=
  ⟨λb o _ e=>kp b o (k b o e),λb o e fb=>by
    rcases full b fb with h1|h1|h1
    ·exact h1
    ·rw[(hz b h1).1]at e;injections e
    ·rw[above b h1]at e;cases e⟩
 refine⟨λb o e=>kp b o (k b o (S.old b o e)),λb fb => ?_,λb fb => ?_,⟨λx=>if scope.names.lookup x=some .free then g x else none,⟨⟨_,(Heap.Ns.new h (.type "dict")).keeps (pushCells_keeps _ _),λx hx => ?_⟩,λx hx => ?_, ?_⟩,λx hx => ?_⟩,λx y a e _=>(nomatch e),λx a e=>(nomatch e)⟩
 ·rcases full b fb with h1|h1|h1
  ·exact S.new b h1
  ·exact none0 b (hz b h1).1
  ·exact none0 b (above b h1)
 ·rcases fb with(fb|fb)|fb|⟨y,fb⟩
  ·obtain⟨o,e⟩:=S.alive b fb;exact⟨o,kp b o (k b o e)⟩
  ·obtain⟨o,e⟩:=(hz b fb).2;exact⟨o,kp b o e⟩
  ·rcases fb with e|⟨x,m⟩
   ·exact⟨_,by rw[e];exact pushCells_keeps _ _ _ _ (Heap.get?_push_size _ rfl)⟩
   ·change (x,b)∈cellsFrom (h.objs.size+1) scope.names (fL env scope.names [])at m
    rw[e1]at m
    rcases bv m with m|⟨_,_,o,e,_⟩
    ·rcases dv hc m with m|⟨_,m⟩
     ·cases m
     ·obtain⟨o,e⟩:=S.alive b (.inr (.inl (.inr ⟨x,mem_of_lookup m⟩)))
      exact⟨o,kp b o (k b o e)⟩
    ·exact⟨o,e⟩
  ·cases fb
 ·rw[dh]at hx
  split
  ·rename_i e
   rw[e]at hx;simp only[Option.map_some,Option.some.injEq]at hx
   split at hx<;>injections hx
  ·rfl
 ·rw[dh]at hx
  cases e:scope.names.lookup x with
  |none=>rw[e]at hx;injections hx
  |some kk=>
   rw[e]at hx;simp only[Option.map_some]at hx;have hmem:=mem_of_lookup e;have look:∀c,(x,c)∈cellsFrom (h.objs.size+1) scope.names (fL env scope.names [])->∃c',(eX scope env h.objs.size).cells.lookup x=some c'/\(x,c')∈cellsFrom (h.objs.size+1) scope.names (fL env scope.names []):=λc hcm=>by
    obtain⟨c',ec⟩:=cL hcm;exact⟨c',ec,mem_of_lookup ec⟩
   have cases2:kk = .free\/kk = .cell:=by
    induction kk using NameKind.casesOn<;>first|exact .inl rfl|exact .inr rfl|exact ab hx
   rcases cases2 with rfl|rfl
   ·obtain⟨c,hcm⟩:=lR (env:=env) (acc:=[]) hmem
    obtain⟨c',l1,l2⟩:=look c (cU hcm);refine⟨c',l1, ?_⟩;rw[if_pos rfl];rw[e1]at l2
    rcases bv l2 with m|⟨m,_⟩
    ·rcases dv hc m with m|⟨_,m⟩
     ·cases m
     ·obtain⟨c2,e2,hv⟩:=hc' x hmem
      rw[m]at e2;injections e2;exact(hv.keeps k).keeps kp
    ·have:=Ok.once.same hmem m;injections this
   ·obtain⟨c,hcm⟩:=bw (n:=h.objs.size+1) (acc:=fL env scope.names []) hmem
    obtain⟨c',l1,l2⟩:=look c hcm;refine⟨c',l1, ?_⟩;rw[if_neg (by rintro⟨⟩)];rw[e1]at l2
    rcases bv l2 with m|⟨_,_,m⟩
    ·rcases dv hc m with m|⟨m,_⟩
     ·cases m
     ·have:=Ok.once.same hmem m;injections this
    ·exact m
 ·refine dA (λx hx => ?_) (iw F.apart hc Ok.once (λn c hn=>by injections hn) List.Pairwise.nil)
  obtain⟨n,c⟩:=x
  rcases dv hc hx with m|⟨_,m⟩
  ·cases m
  ·obtain⟨o,e⟩:=S.alive c (.inr (.inl (.inr ⟨n,mem_of_lookup m⟩)))
   exact Nat.lt_succ_of_lt (Heap.lt_size (k c o e))
 ·rw[lT]
  cases e:scope.names.lookup x with
  |none=>trivial
  |some kk=>
   induction kk using NameKind.casesOn with
   |free=>
    have hfr:=Ok.free x (mem_of_lookup e);have hn:ae (env.kindOf x)=true:=by
     rw[En.names];cases hk:kd κ (nm x)with
     |none=>rw[hk]at hfr;cases hfr
     |some k'=>rw[hk]at hfr;induction k' using NameKind.casesOn<;>first|rfl|cases hfr
    have:=hg x hn;show fJ G _ _ none (uw (lk ρ (nm x))) (if scope.names.lookup x=some .free then g x else none);rw[if_pos e];cases hl:lk ρ (nm x)with
    |un=>trivial
    |own l=>trivial
    |val v=>
     rw[hl]at this;exact fJ.on on (λa e=>by injections e) (show fJ G (ag env X O) h0 none (.val v) (g x)from this)
   |_=>trivial
theorem q9 {M:Model} {A:Around} {E:Value->Shared->Prop} {s:Shared} {cl:List (Str×Addr)} {qual:Str} {Q:Env->Shared->Prop}
 (h:Q { scope,locals:=s.heap.objs.size,globals:=env.globals,cells:=cellsFrom (s.heap.objs.size+1) scope.names cl,qual,func:=none,code:=env.code,frame:=env.frame,builtins:=env.builtins }
   { s with heap:=pushCells (s.heap.push { cls := .type "dict",data := .dict #[] }) scope.names }):
 wpAny M A (newFunctionEnv scope env.globals cl [] qual none .none (some env)) Q E s:=by
 simp only[newFunctionEnv,Option.isSome_some,if_true];refine wpAny_bind (wpAny_alloc ?_);refine wpAny_bind (wpAny_layCells _ (λname kind cells=>by cases hkc:kind==NameKind.cell<;>simp) _ _ _ _ ?_);rw[show({ s with heap:=s.heap.push { cls := .type "dict",data := .dict #[] } }:Shared).heap.objs.size=s.heap.objs.size+1 from Heap.size_push ..];exact wpAny_bind (wpAny_pure (wpAny_pure h))
end
end
section
open PySem PySem.W PySem.Calls PyProof.Rows
section
variable {G:Cfg} {A:Around} {env:Env} {X:Addr->Prop} {κ:List (Str×NameKind)} {ρ:Rho} {O:Nm->Option Addr}
theorem bJ.skip{h h':Heap}{Z:Addr->Prop}(S:bJ G env X O ρ h)(hz:∀b,Z b->X b)(hzO:∀b,du env b->¬Z b)(k:∀b o,¬Z b->h.get? b=some o->h'.get? b=some o)(al:∀b,Z b->∃o,h'.get? b=some o):bJ G env X O ρ h' where
 old:=λb o e=>k b o (λz=>by have:=S.new b (.inl (hz b z));have e2:=e;rw[this]at e2;injections e2) (S.old b o e)
 new:=S.new
 alive:=λb fb=>by
  by_cases z:Z b
  ·exact al b z
  ·obtain⟨o,e⟩:=S.alive b fb;exact⟨o,k b o z e⟩
 look:=by
  obtain⟨g,F,hg⟩:=S.look;refine⟨g,⟨let⟨m,⟨o,es,ep,e,r⟩,hm⟩:=F.ns;⟨m,⟨o,es,ep,k _ _ (hzO _ (.inl rfl)) e,r⟩,hm⟩,λx hx => ?_,F.apart⟩,λx hx=>(hg x hx).on ⟨λb o nb e=>k b o (λz=>nb (.inl (hz b z))) e,λ_ _ _ y=>y⟩ λa ea o eo=>k a o (λz=>(S.apart _ a ea).1 (hz a z)) eo⟩;obtain⟨c,hc,o,e,r⟩:=F.cell x hx;exact⟨c,hc,o,k _ _ (hzO _ (.inr ⟨x,mem_of_lookup hc⟩)) e,r⟩
 inj:=S.inj
 apart:=S.apart
theorem bJ.less{h h':Heap}{Z X':Addr->Prop}(S:bJ G env X O ρ h)(hz:∀b,Z b->X b)(hX:∀b,X' b->X b/\¬Z b)(hzO:∀b,du env b->¬Z b)(k:∀b o,¬Z b->h.get? b=some o->h'.get? b=some o):bJ G env X' O ρ h':=by
 have full:∀b,ag env X' O b->ag env X O b/\¬Z b:=λb fb=>by
  rcases fb with f|f|⟨y,f⟩
  ·exact⟨.inl (hX b f).1,(hX b f).2⟩
  ·exact⟨.inr (.inl f),hzO b f⟩
  ·exact⟨.inr (.inr ⟨y,f⟩),λz=>(S.apart y b f).1 (hz b z)⟩
 refine⟨λb o e=>k b o (λz=>by have:=S.new b (.inl (hz b z));have e2:=e;rw[this]at e2;injections e2) (S.old b o e),λb fb=>S.new b (full b fb).1,λb fb => ?_, ?_,S.inj,λx a e=>⟨λh=>(S.apart x a e).1 (hX a h).1,(S.apart x a e).2⟩⟩
 ·obtain⟨o,e⟩:=S.alive b (full b fb).1;exact⟨o,k b o (full b fb).2 e⟩
 ·obtain⟨g,F,hg⟩:=S.look
  refine⟨g,⟨let⟨m,⟨o,es,ep,e,r⟩,hm⟩:=F.ns;⟨m,⟨o,es,ep,k _ _ (hzO _ (.inl rfl)) e,r⟩,hm⟩,λx hx => ?_,F.apart⟩,λx hx=>(hg x hx).on ⟨λb o nb e=>k b o (λz=>nb (.inl (hz b z))) e,λb o _ fb=>(full b fb).1⟩ λa ea o eo=>k a o (λz=>(S.apart _ a ea).1 (hz a z)) eo⟩;obtain⟨c,hc,o,e,r⟩:=F.cell x hx;exact⟨c,hc,o,k _ _ (hzO _ (.inr ⟨x,mem_of_lookup hc⟩)) e,r⟩
theorem j8(env:Env):∀ifs:List Expr,(forIn ifs false λc r=>if r=true then do let ok <-isTrue c env (eval c env);pure (ForInStep.yield ok)else pure (ForInStep.yield r))=(pure false:Sem Bool)
 |[]=>rfl
 |c::r=>by
  rw[List.forIn_cons];simp only[Bool.false_eq_true,if_false];exact j8 env r
theorem rh{E:Expr->R}(GT:g9 G A env X ρ E):∀{ifs:List Expr},(dP E ifs).1=true->∀O s,bJ G env X O ρ s.heap->∀(E':Value->Shared->Prop) (Q:Bool->Shared->Prop),(∀s',Keeps s s'->Q (dP E ifs).2 s') ->
 wpAny (model G.p G.w) A (forIn ifs true λc r=>if r=true then do let ok <-isTrue c env (eval c env);pure (ForInStep.yield ok)else pure (ForInStep.yield r)) Q E' s
 |[],_,O,s,S,E',Q,q=>wpAny_pure (q s (Kp.refl s))
 |c::r,ok,O,s,S,E',Q,q=>by
  rw[wZ]at ok q;have o1:=(ay (ay ok).1).1;have o2:=(ay (ay ok).1).2;have o3:=(ay ok).2;dsimp only at q;rw[List.forIn_cons];simp only[if_true];refine wpAny_bind (wpAny_bind (GT.ok c o1 o2 O s S _ _ λs1 k1=>wpAny_pure ?_));cases hc:(aa (E c).2).2 with
  |true=>
   rw[hc]at o3 q;simp only[cond_true,Bool.true_and]at o3 q;exact rh GT o3 O s1 (S.keeps (Kp.keep k1)) E' Q λs2 k2=>q s2 (Kp.trans k1 k2)
  |false=>
   rw[hc]at q;simp only[Bool.false_and]at q;show wpAny _ A (forIn r false _) Q E' s1;rw[j8];exact wpAny_pure (q s1 k1)
end
noncomputable abbrev O0:Nm->Option Addr:=λ_=>none
structure kH(G:Cfg)(A:Around)(cv:Env)(κ:List (Str×NameKind))(Y:Addr->Prop)(ρ0:Rho)(t:Expr)(ns:List Nm)(it:Value)(acc:Addr)(fp wr:List Addr)(xs:List V)(St:Nat->Heap->Prop)(X0:Addr->Prop)(hp:Heap)(s0:Shared):Prop where
 env:am cv κ
 tg:∀x∈az t,x∈ns/\ae (kd κ x)=true/\lk ρ0 x = .un
 it:It G A t X0 hp it fp wr xs St
 hwr:∀b∈wr,Y b
 hacc:Y acc
 own:∀b,du cv b->b≠acc/\b∉wr
 fpAcc:acc∉fp
 fpPl:∀x,nm x∈ns->∀b∈fp,¬eB cv x b
 on:On X0 (ag cv Y O0) hp s0.heap
structure JE(G:Cfg)(cv:Env)(Y:Addr->Prop)(ns:List Nm)(acc:Addr)(wr:List Addr)(s0:Shared)(ρ:Rho)(res:List V)(s:Shared):Prop where
 same:∃h tk,s={ s0 with heap:=h,toks:=tk }
 keep:∀b o,b≠acc->b∉wr->(∀x,nm x∈ns->¬eB cv x b)->s0.heap.get? b=some o->s.heap.get? b=some o
 live:∀b o,b∉wr->s0.heap.get? b=some o->∃o',s.heap.get? b=some o'
 sta:bJ G cv Y O0 ρ s.heap
 lst:∃us m,s.heap.get? acc=some { cls := .type "list",data := .seq us m }/\Reps G (ag cv Y O0) s.heap res us.toList
section
variable {G:Cfg} {A:Around} {cv:Env} {Y:Addr->Prop} {κ:List (Str×NameKind)} {ρ ρ0:Rho} {t:Expr} {ns:List Nm} {it:Value} {acc:Addr} {fp wr:List Addr} {xs:List V} {St:Nat->Heap->Prop} {X0:Addr->Prop} {hp:Heap} {s0 s:Shared} {res:List V}
theorem JE.keeps{s':Shared}(J:JE G cv Y ns acc wr s0 ρ res s)(k:Keeps s s'):JE G cv Y ns acc wr s0 ρ res s':=by
 have kk:=Kp.keep k;obtain⟨h,tk,rfl⟩:=J.same;obtain⟨h',tk',rfl,_⟩:=k;refine⟨⟨h',tk',rfl⟩,λb o n1 n2 n3 e=>kk b o (J.keep b o n1 n2 n3 e),λb o nw e => ?_,J.sta.keeps kk, ?_⟩
 ·obtain⟨o',e'⟩:=J.live b o nw e;exact⟨o',kk b o' e'⟩
 ·obtain⟨us,m,e,r⟩:=J.lst;exact⟨us,m,kk _ _ e,Reps.on (On.of_keeps kk) r⟩
theorem uL:∀{ts:List Expr} {vs:List V} {ρ:Rho} {y:Nm},y∉ts.filterMap nmT->lk (jx ts vs ρ).2 y=lk ρ y
 |[],[],ρ,y,_=>rfl
 |[],_::_,ρ,y,_=>rfl
 |t::ts,vs,ρ,y,h=>by
  induction t using Expr.casesOn with
  |Name x p=>
   induction vs using List.casesOn with
   |nil=>rfl
   |cons v vs=>
    have h':y≠nm x/\y∉ts.filterMap nmT:=not_or.mp (mt List.mem_cons.mpr h);show lk (jx ts vs (put ρ (nm x) (.val v))).2 y=_;rw[uL h'.2];exact(dU _ _ ρ y).2 h'.1
  |_=>rfl
theorem xH{v:V}{y:Nm}(h:y∉az t):lk (aT t v ρ).2 y=lk ρ y:=by
 induction t using Expr.casesOn with
 |Name x p=>exact(dU _ _ ρ y).2 (mt List.mem_singleton.mpr h)
 |Tuple ts k p=>induction v using V.casesOn with
  |tup vs=>exact uL h
  |_=>rfl
 |_=>rfl
theorem JE.back{v:V}(C:kH G A cv κ Y ρ0 t ns it acc fp wr xs St X0 hp s0)(J:JE G cv Y ns acc wr s0 (aT t v ρ0).2 res s):JE G cv Y ns acc wr s0 ρ0 res s:=
 ⟨J.same,J.keep,J.live,J.sta.weaken λx=>by
   by_cases h:x∈az t
   ·exact .inl (C.tg x h).2.2
   ·exact .inr (xH h).symm,J.lst⟩
theorem kH.onAt(C:kH G A cv κ Y ρ0 t ns it acc fp wr xs St X0 hp s0)(J:JE G cv Y ns acc wr s0 ρ res s):On X0 (ag cv Y O0) hp s.heap:=by
 refine C.on.trans ⟨λb o nb e=>J.keep b o (λh=>nb (.inl (h▸C.hacc))) (λh=>nb (.inl (C.hwr b h))) (λx _ pl=>nb (.inr (.inl pl.own))) e,λ_ _ _ y=>y⟩
theorem C6 (Fh:A.handled=none) (C:kH G A cv κ Y ρ0 t ns it acc fp wr xs St X0 hp s0) (J:JE G cv Y ns acc wr s0 ρ0 res s) {i:Nat} (hi:i<xs.length) (st:St i s.heap) (ok:(aT t (xs.getD i .none) ρ0).1=true)
 {E:Value->Shared->Prop} {Q:Shared->Prop} (q:∀s',JE G cv Y ns acc wr s0 (aT t (xs.getD i .none) ρ0).2 res s'->St (i+1) s'.heap->Q s'):
 wpAny (model G.p G.w) A (pyNext it) (λr s₁=>∃v,r=some v/\wpAny (model G.p G.w) A (letOwnedTupleGo t it v) (λ_ s₂=>wpAny (model G.p G.w) A (assign t cv v) (λ_ s₃=>Q s₃) E s₂) E s₁) E s:=by
 have hw:∀b∈wr,ag cv Y O0 b:=λb hb => .inl (C.hwr b hb)
 refine C.it.item i s (ag cv Y O0) hi st (C.onAt J) J.sta.full hw E _ λv h' tk r st' k => ?_
 have lv:=C.it.live (i+1) h' st';have S':bJ G cv Y O0 ρ0 h':=J.sta.skip (Z:=λb=>b∈wr) C.hwr (λb hb=>(C.own b hb).2) (λb o nz e=>k b o nz e) λb hb=>lv b (C.it.sub b hb)
 have accW:acc∉wr:=λh=>C.fpAcc (C.it.sub _ h)
 obtain⟨us,m,el,rl⟩:=J.lst;have al:∀b o,s.heap.get? b=some o->∃o',h'.get? b=some o':=λb o e=>by
  by_cases hb:b∈wr
  ·exact lv b (C.it.sub b hb)
  ·exact⟨o,k b o hb e⟩
 have onY:On (ag cv Y O0) (ag cv Y O0) s.heap h':=⟨λb o nb e=>k b o (λhb=>nb (hw b hb)) e,λ_ _ _ y=>y⟩;refine tq (s:={ s with heap:=h',toks:=tk }) Fh C.env ok (λx hx=>(C.tg x hx).2.1) S' r E _ λs3 S3 mv => ?_
 obtain⟨h3,tk3,rfl,k3,al3⟩:=mv;have upd0:iX O0 (az t)=O0:=by funext y;simp[iX]
 rw[upd0]at S3;have on3:On (ag cv Y O0) (ag cv Y O0) h' h3:=⟨λb o nb e=>k3 b o (λx _ pl=>nb (.inr (.inl pl.own))) e,λ_ _ _ y=>y⟩;refine q _ ⟨?_,λb o n1 n2 n3 e => ?_,λb o nw e => ?_,S3,us,m, ?_,Reps.on on3 (Reps.on onY rl)⟩ ?_
 ·obtain⟨h,tk',e⟩:=J.same;rw[e];exact⟨h3,tk3,rfl⟩
 ·exact k3 b o (λx hx=>n3 x (C.tg _ hx).1) (k b o n2 (J.keep b o n1 n2 n3 e))
 ·obtain⟨o',e'⟩:=J.live b o nw e
  obtain⟨o2,e2⟩:=al b o' e';exact al3 b o2 e2
 ·exact k3 _ _ (λx hx pl=>(C.own _ pl.own).1 rfl) (k _ _ accW el)
 ·exact C.it.frame _ _ _ st' λb hb o e=>k3 b o (λx hx pl=>C.fpPl x (C.tg _ hx).1 b hb pl) e
theorem xI (C:kH G A cv κ Y ρ0 t ns it acc fp wr xs St X0 hp s0) (J:JE G cv Y ns acc wr s0 ρ0 res s) (st:St xs.length s.heap) {Y1:Addr->Prop} (hY:∀b,Y1 b->Y b/\b∉wr)
 {E:Value->Shared->Prop} {Q:Option Value->Shared->Prop} (q:∀s',JE G cv Y1 ns acc wr s0 ρ0 res s'->Q none s'):wpAny (model G.p G.w) A (pyNext it) Q E s:=by
 refine C.it.done s st E Q λh' tk k=>q _ ?_
 have accW:acc∉wr:=λh=>C.fpAcc (C.it.sub _ h)
 obtain⟨us,m,el,rl⟩:=J.lst;have on:On (ag cv Y O0) (ag cv Y1 O0) s.heap h':=⟨λb o nb e=>k b o (λh=>nb (.inl (C.hwr b h))) e,λb o e fb=>by
  rcases fb with f|f|⟨y,f⟩
  ·exact .inl (hY b f).1
  ·exact .inr (.inl f)
  ·cases f⟩
 refine⟨?_,λb o n1 n2 n3 e=>k b o n2 (J.keep b o n1 n2 n3 e),λb o nw e => ?_,J.sta.less (Z:=λb=>b∈wr) C.hwr hY (λb hb=>(C.own b hb).2) (λb o nz e=>k b o nz e),us,m,k _ _ accW el,Reps.on on rl⟩
 ·obtain⟨h,tk',e⟩:=J.same;rw[e];exact⟨h',tk,rfl⟩
 ·obtain⟨o',e'⟩:=J.live b o nw e;exact⟨o',k b o' nw e'⟩
theorem C7 (C:kH G A cv κ Y ρ0 t ns it acc fp wr xs St X0 hp s0) (J:JE G cv Y ns acc wr s0 ρ res s) {x:V} {u:Value} (r:ah G (ag cv Y O0) s.heap x u) (hn:res.length<=cap) {i:Nat} (st:St i s.heap)
 {E:Value->Shared->Prop} {Q:Value->Shared->Prop} (q:∀s',JE G cv Y ns acc wr s0 ρ (res++[x]) s'->St i s'.heap->(∀b o,b≠acc->s.heap.get? b=some o->s'.heap.get? b=some o)->Q .none s'):
 wpAny (model G.p G.w) A (call (.builtin "list.append") [.ref acc,u]) Q E s:=by
 obtain⟨us,m,el,rl⟩:=J.lst;have hsz:us.size=res.length:=by rw[<-Array.length_toList,<-rl.length]
 refine append_at el (λh' hs e' => ?_) (by rw[hsz];exact b0 hn);have k:∀b o,b≠acc->s.heap.get? b=some o->h'.get? b=some o:=λb o nb e=>(hs.2 b nb).trans e
 have on:On (ag cv Y O0) (ag cv Y O0) s.heap h':=⟨λb o nb e=>k b o (λh=>nb (.inl (h▸C.hacc))) e,λ_ _ _ y=>y⟩;have S':bJ G cv Y O0 ρ h':=J.sta.skip (Z:=λb=>b=acc) (λb h=>h▸C.hacc) (λb hb=>(C.own b hb).1) (λb o nz e=>k b o nz e) λb hb=>by rw[hb];exact⟨_,e'⟩
 refine q _ ⟨?_,λb o n1 n2 n3 e=>k b o n1 (J.keep b o n1 n2 n3 e),λb o nw e => ?_,S',_,_,e', ?_⟩ ?_ k
 ·obtain⟨h,tk',e⟩:=J.same;rw[e];exact⟨h',_,rfl⟩
 ·obtain⟨o',e2⟩:=J.live b o nw e
  by_cases h:b=acc
  ·subst h;exact⟨_,e'⟩
  ·exact⟨o',k b o' h e2⟩
 ·rw[Array.toList_push]
  exact Reps.append (Reps.on on rl) (Reps.cons (r.on on) Reps.nil)
 ·exact C.it.frame _ _ _ st λb hb o e=>k b o (λh=>C.fpAcc (h▸hb)) e
end
end
section
open PySem PySem.W PySem.Calls PyProof.Rows
section
variable {G:Cfg} {A:Around} {cv:Env} {Y:Addr->Prop} {ρ ρ0:Rho} {t:Expr} {ns:List Nm} {it:Value} {acc:Addr} {fp wr:List Addr} {xs:List V} {St:Nat->Heap->Prop} {X0:Addr->Prop} {hp:Heap} {s0 s:Shared} {res:List V}
theorem p8{xs:List V}{i:Nat}(h:i<xs.length):xs.drop i=xs.getD i .none::xs.drop (i+1):=by
 rw[List.drop_eq_getElem_cons h]
 congr 1
 simp[h]
theorem lV(f:V->Bool×Bool×R)(x:V)(xs:List V):a9 f (x::xs)=((f x).1&&(bif (f x).2.1 then(f x).2.2.1 else true)&&(a9 f xs).1,bif (f x).2.1 then(f x).2.2.2::(a9 f xs).2 else(a9 f xs).2):=rfl
theorem tB(f:V->Bool×Bool×List V)(x:V)(xs:List V):dq f (x::xs)=((f x).1&&(f x).2.1&&(dq f xs).1,(f x).2.2++(dq f xs).2):=rfl
noncomputable def AN(e:Expr)(d:Nat)(elt:Expr)(ifs:List Expr)(it ac:Value)(cv:Env):Sem Fin:=do
 let mut ok:=true
 for c in ifs do
  if ok then ok <-isTrue c cv (eval c cv)
 if ok then
  (do let _ <-call (.builtin "list.append") [ac,<-eval elt cv])
 again (.compLoop e d it ac cv)
noncomputable def C8(e iter':Expr)(it ac:Value)(cv:Env):Sem Fin:=do
 let x <-eval iter' cv
 standAt iter'.pos
 let x <-foldedSetIterable iter' cv x;let _ <-runOwn (.compStart e 1 (<-holding [x] (pyIter x)) ac cv) cv
 again (.compLoop e 0 it ac cv)
theorem xJ {κ:List (Str×NameKind)} (Fh:A.handled=none) (C:kH G A cv κ Y ρ0 t ns it acc fp wr xs St X0 hp s0) (J:JE G cv Y ns acc wr s0 ρ0 res s) {i:Nat} (hi:i<xs.length) (st:St i s.heap) (ok:(aT t (xs.getD i .none) ρ0).1=true)
 {E:Value->Shared->Prop} {T:Sem Fin} {P:Fin->Shared->Prop} (q:∀s',JE G cv Y ns acc wr s0 (aT t (xs.getD i .none) ρ0).2 res s'->St (i+1) s'.heap->wpAny (model G.p G.w) A T P E s'):
 wpAny (model G.p G.w) A (pyNext it) (λr s₁=>wpAny (model G.p G.w) A (match r with
  |none=>pure (.done .next)
  |some v=>(do
   letOwnedTupleGo t it v
   assign t cv v
   T)) P E s₁) E s:=
 wpAny_mono (C6 Fh C J hi st ok q) (λr s1 h=>by
  obtain⟨v,rfl,h⟩:=h;exact wpAny_bind (wpAny_mono h (λ_ s2 h2=>wpAny_bind h2) λ_ _ e=>e)) λ_ _ e=>e
theorem AO {elt:Expr} {ifs:List Expr} {gens:List Comprehension} {scope:Scope} {pos p:Pos} {d:Nat} {E:Ev} {R:Result->Shared->Prop}
 (hT:compTurn (.ListComp elt gens scope pos) d it (.ref acc) cv=(do
   standAt p
   match <-pyNext it with
   |none=>pure (.done .next)
   |some v=>
    letOwnedTupleGo t it v
    assign t cv v
    AN (.ListComp elt gens scope pos) d elt ifs it (.ref acc) cv))
 (Fh:A.handled=none) (C:kH G A cv scope.names Y ρ0 t ns it acc fp wr xs St X0 hp s0) (GE:∀ρ,ar G A cv Y ρ (E scope.names ρ)) (GT:∀ρ,g9 G A cv Y ρ (E scope.names ρ))
 (J:JE G cv Y ns acc wr s0 ρ0 res s) (st:St 0 s.heap) (ok:(a9 (cK E elt t ifs scope ρ0) xs).1=true) (hn:(res++(a9 (cK E elt t ifs scope ρ0) xs).2).length<=cap) {Y1:Addr->Prop} (hY:∀b,Y1 b->Y b/\b∉wr)
 (q:∀s',JE G cv Y1 ns acc wr s0 ρ0 (res++(a9 (cK E elt t ifs scope ρ0) xs).2) s'->R (.ok .next) s'):
 codeAny (model G.p G.w) A (.compLoop (.ListComp elt gens scope pos) d it (.ref acc) cv) R s:=by
 refine codeAny_loop rfl (λk s'=>∃i re,k=xs.length-i/\i<=xs.length/\JE G cv Y ns acc wr s0 ρ0 re s'/\St i s'.heap /\
  res++(a9 (cK E elt t ifs scope ρ0) xs).2=re++(a9 (cK E elt t ifs scope ρ0) (xs.drop i)).2/\(a9 (cK E elt t ifs scope ρ0) (xs.drop i)).1=true) (λk s' hI => ?_) xs.length
  ⟨0,res,rfl,Nat.zero_le _,J,st,rfl,ok⟩
 obtain⟨i,re,rfl,hi,J',st',e1,e2⟩:=hI;show wpAny _ A ((compTurn (.ListComp elt gens scope pos) d it (.ref acc) cv).onRaise (λx=>do noteFrame x cv;theTreesLotGoes x)) _ _ s';refine wpAny_noted ?_;rw[hT];refine wpAny_bind (wpAny_standAt (wpAny_bind ?_))
 by_cases hlt:i<xs.length
 ·rw[p8 hlt]at e1 e2
  generalize hx:xs.getD i .none=x at e1 e2;rw[lV]at e1 e2;simp only[Bool.and_eq_true]at e2;obtain⟨⟨g1,g2⟩,g3⟩:=e2;unfold cK at g1;simp only[Bool.and_eq_true]at g1;obtain⟨o1,o2⟩:=g1;have g2':(bif (dP (E scope.names (aT t x ρ0).2) ifs).2 then(E scope.names (aT t x ρ0).2 elt).1 else true)=true:=g2;have e1':res++(a9 (cK E elt t ifs scope ρ0) xs).2=re++(bif (dP (E scope.names (aT t x ρ0).2) ifs).2 then(E scope.names (aT t x ρ0).2 elt).2::(a9 (cK E elt t ifs scope ρ0) (xs.drop (i+1))).2 else(a9 (cK E elt t ifs scope ρ0) (xs.drop (i+1))).2):=e1;refine xJ Fh C J' hlt st' (by rw[hx];exact o1) λs3 J3 st3 => ?_
  rw[hx]at J3;refine wpAny_bind (rh (GT _) o2 O0 s3 J3.sta _ _ λs4 k4 => ?_);have J4:=J3.keeps k4;have st4:St (i+1) s4.heap:=C.it.frame _ _ _ st3 λb _ o e=>Kp.keep k4 b o e
  cases hc:(dP (E scope.names (aT t x ρ0).2) ifs).2 with
  |false=>
   rw[hc]at e1';simp only[cond_false]at e1';exact wpAny_pure ⟨rfl,_,(by omega:xs.length-(i+1)<xs.length-i),i+1,re,rfl,hlt,J4.back C,st4,e1',g3⟩
  |true=>
   rw[hc]at e1' g2';simp only[cond_true]at e1' g2';refine wpAny_bind (wpAny_bind ((GE _).ok elt g2' O0 s4 J4.sta _ _ λu s5 k5 r5 => ?_));have J5:=J4.keeps k5;have st5:St (i+1) s5.heap:=C.it.frame _ _ _ st4 λb _ o e=>Kp.keep k5 b o e
   have hre:re.length<=cap:=by
    rw[e1']at hn;rw[List.length_append]at hn;omega
   refine wpAny_bind (C7 C J5 r5 hre st5 λs6 J6 st6 _=>wpAny_pure (wpAny_pure ⟨rfl,_,(by omega:xs.length-(i+1)<xs.length-i),i+1,re++[(E scope.names (aT t x ρ0).2 elt).2],rfl,hlt,J6.back C,st6, ?_,g3⟩));rw[e1',List.append_assoc];rfl
 ·have hi':i=xs.length:=⋯
  subst hi';refine xI C J' st' hY λs2 J2=>wpAny_pure (q s2 ?_)
  rw[List.drop_length]at e1;rw[e1];rw[show ∀(l:List V) f,l++(a9 f []).2=l from λl f=>List.append_nil l];exact J2
theorem BF {elt:Expr} {g0:Comprehension} {t' it':Expr} {ifs:List Expr} {scope:Scope} {pos:Pos} {i:Value} {ac:Value} {R:Result->Shared->Prop}
 (h0:codeAny (model G.p G.w) A (.compLoop (.ListComp elt [g0,⟨t',it',ifs,0⟩] scope pos) 1 i ac cv) R s)
 (h:wpAny (model G.p G.w) A (pyIter i) (λi' s'=>codeAny (model G.p G.w) A (.compLoop (.ListComp elt [g0,⟨t',it',ifs,0⟩] scope pos) 1 i' ac cv) R s') (notedBy (model G.p G.w) A cv λx s'=>R (.error x) s') s):
 codeAny (model G.p G.w) A (.compStart (.ListComp elt [g0,⟨t',it',ifs,0⟩] scope pos) 1 i ac cv) R s:=by
 refine codeAny_of_tree ?_;show wpAny _ _ ((compStart (.ListComp elt [g0,⟨t',it',ifs,0⟩] scope pos) 1 i ac cv).onRaise (λx=>do noteFrame x cv;standAt theWindowsPlace)) _ _ s;refine wpAny_notedAt ?_;unfold compStart;show wpAny _ _ (ask>>=_) _ _ s;refine wpAny_bind (wpAny_askSetting (wpAny_ite ?_))
 split
 ·first
   |exact wpAny_bind (wpAny_pure (wpAny_pure (And.intro rfl h0)))
   |exact wpAny_pure (And.intro rfl h0)
 ·first
   |exact wpAny_bind (wpAny_rule (wpAny_bind (wpAny_standAt (wpAny_bind (wpAny_mono h (λit' s' h'=>wpAny_pure (And.intro rfl h')) λ_ _ x=>x)))))
   |(refine wpAny_bind (wpAny_rule ?_);show wpAny _ _ (standAt it'.pos>>=_) _ _ s;exact wpAny_bind (wpAny_standAt (wpAny_bind (wpAny_mono h (λit' s' h'=>wpAny_pure (And.intro rfl h')) λ_ _ x=>x))))
theorem BG(elt t iter t' iter':Expr)(ifs:List Expr)(scope:Scope)(pos:Pos)(it ac:Value)(cv:Env):
 compTurn (.ListComp elt [⟨t,iter,[],0⟩,⟨t',iter',ifs,0⟩] scope pos) 0 it ac cv=(do
  standAt iter.pos
  match <-pyNext it with
  |none=>pure (.done .next)
  |some v=>
   letOwnedTupleGo t it v
   assign t cv v
   C8 (.ListComp elt [⟨t,iter,[],0⟩,⟨t',iter',ifs,0⟩] scope pos) iter' it ac cv):=by rfl
theorem BH(elt t iter t' iter':Expr)(ifs:List Expr)(scope:Scope)(pos:Pos)(it ac:Value)(cv:Env):
 compTurn (.ListComp elt [⟨t,iter,[],0⟩,⟨t',iter',ifs,0⟩] scope pos) 1 it ac cv=(do
  standAt iter'.pos
  match <-pyNext it with
  |none=>pure (.done .next)
  |some v=>
   letOwnedTupleGo t' it v
   assign t' cv v
   AN (.ListComp elt [⟨t,iter,[],0⟩,⟨t',iter',ifs,0⟩] scope pos) 1 elt ifs it ac cv):=by rfl
theorem p9{κ:List (Str×NameKind)}{E:Expr->R}{X:Addr->Prop}{env:Env}(GE:ar G A env X ρ E){tt e:Expr}(ok:(aQ κ E tt e).1=true)(x:Value):foldedSetIterable e env x=pure x:=by
 induction e using Expr.casesOn with
 |Set es k p=>
  have:(jZ κ E tt (.Set es k p)).1=true:=ok;unfold jZ at this;simp only[GE.noSet,Bool.false_and]at this;injections this
 |_=>rfl
theorem bJ.more{env:Env}{X:Addr->Prop}{O:Nm->Option Addr}{h h':Heap}{Z:Addr->Prop}(S:bJ G env X O ρ h)(k:∀b o,h.get? b=some o->h'.get? b=some o)(hz:∀b,Z b->h.get? b=none/\∃o,h'.get? b=some o):
 bJ G env (λb=>X b\/Z b) O ρ h'/\On (ag env X O) (ag env (λb=>X b\/Z b) O) h h':=by
 have full:∀b,ag env (λb=>X b\/Z b) O b->ag env X O b\/Z b:=λb fb=>by
  rcases fb with(f|f)|f|f
  ·exact .inl (.inl f)
  ·exact .inr f
  ·exact .inl (.inr (.inl f))
  ·exact .inl (.inr (.inr f))
 have on:On (ag env X O) (ag env (λb=>X b\/Z b) O) h h':=⟨λb o _ e=>k b o e,λb o e fb=>by
  rcases full b fb with f|f
  ·exact f
  ·rw[(hz b f).1]at e;cases e⟩
 refine⟨⟨λb o e=>k b o (S.old b o e),λb fb => ?_,λb fb => ?_, ?_,S.inj,λx a e=>⟨λh => ?_,(S.apart x a e).2⟩⟩,on⟩
 ·rcases full b fb with f|f
  ·exact S.new b f
  ·cases e:G.h0.get? b with
   |none=>rfl
   |some o=>have:=S.old b o e;rw[(hz b f).1]at this;injections this
 ·rcases full b fb with f|f
  ·obtain⟨o,e⟩:=S.alive b f;exact⟨o,k b o e⟩
  ·exact(hz b f).2
 ·obtain⟨g,F,hg⟩:=S.look
  exact⟨g,F.keeps k,λx hx=>(hg x hx).on on λa _ o e=>k a o e⟩
 ·rcases h with h|h
  ·exact(S.apart x a e).1 h
  ·obtain⟨o,e'⟩:=S.alive a (.inr (.inr ⟨x,e⟩));rw[(hz a h).1]at e';cases e'
theorem C9 {Φ:Fns} {elt t' iter iter':Expr} {ifs:List Expr} {scope:Scope} {pos:Pos} {E:Ev} {R:Result->Shared->Prop}
 (Fa:av G A Φ) (C:kH G A cv scope.names Y ρ0 t ns it acc fp wr xs St X0 hp s0) (GE:∀X ρ,ar G A cv X ρ (E scope.names ρ)) (GT:∀X ρ,g9 G A cv X ρ (E scope.names ρ))
 (ht':∀x∈az t',x∈ns/\ae (kd scope.names x)=true/\lk ρ0 x = .un/\x∉az t)
 (J:JE G cv Y ns acc wr s0 ρ0 res s) (st:St 0 s.heap) (ok:(dq (g7 E elt t t' iter' ifs scope ρ0) xs).1=true) (hn:(res++(dq (g7 E elt t t' iter' ifs scope ρ0) xs).2).length<=cap)
 {Y1:Addr->Prop} (hY:∀b,Y1 b->Y b/\b∉wr)
 (q:∀s',JE G cv Y1 ns acc wr s0 ρ0 (res++(dq (g7 E elt t t' iter' ifs scope ρ0) xs).2) s'->R (.ok .next) s'):
 codeAny (model G.p G.w) A (.compLoop (.ListComp elt [⟨t,iter,[],0⟩,⟨t',iter',ifs,0⟩] scope pos) 0 it (.ref acc) cv) R s:=by
 refine codeAny_loop rfl (λk s'=>∃i re,k=xs.length-i/\i<=xs.length/\JE G cv Y ns acc wr s0 ρ0 re s'/\St i s'.heap /\
  res++(dq (g7 E elt t t' iter' ifs scope ρ0) xs).2=re++(dq (g7 E elt t t' iter' ifs scope ρ0) (xs.drop i)).2/\(dq (g7 E elt t t' iter' ifs scope ρ0) (xs.drop i)).1=true) (λk s' hI => ?_) xs.length
  ⟨0,res,rfl,Nat.zero_le _,J,st,rfl,ok⟩
 obtain⟨i,re,rfl,hi,J',st',e1,e2⟩:=hI;show wpAny _ A ((compTurn (.ListComp elt [⟨t,iter,[],0⟩,⟨t',iter',ifs,0⟩] scope pos) 0 it (.ref acc) cv).onRaise (λx=>do noteFrame x cv;theTreesLotGoes x)) _ _ s';refine wpAny_noted ?_;rw[BG];refine wpAny_bind (wpAny_standAt (wpAny_bind ?_))
 by_cases hlt:i<xs.length
 ·rw[p8 hlt]at e1 e2
  generalize hx:xs.getD i .none=x at e1 e2;rw[tB]at e1 e2;simp only[Bool.and_eq_true]at e2;obtain⟨⟨g1,g2⟩,g3⟩:=e2;unfold g7 at g1;simp only[Bool.and_eq_true]at g1;obtain⟨o1,o2⟩:=g1;refine xJ Fa.none C J' hlt st' (by rw[hx];exact o1) λs3 J3 st3 => ?_
  rw[hx]at J3;refine wpAny_bind (wpAny_mono (p0 (t:=t') (ρ:=(aT t x ρ0).2) Fa C.env (GE Y (aT t x ρ0).2) o2 O0 s3 J3.sta _ _ λi' s4 k4 I4 => ?_) (λu s4 h4=>wpAny_bind (wpAny_standAt (wpAny_bind (wpAny_of_eq (p9 (GE Y _) o2 u) (wpAny_bind (wpAny_holding h4)))))) λ_ _ e=>e);obtain⟨s5,fp',wr',St',k5,k6,I,st6,nfp,nwr⟩:=I4;have al':∀b∈wr',∃o,s4.heap.get? b=some o:=λb hb=>I.live _ _ st6 b (I.sub b hb)
  have J4:=J3.keeps k4;have st4:St (i+1) s4.heap:=C.it.frame _ _ _ st3 λb _ o e=>Kp.keep k4 b o e
  have J5:=J3.keeps k5;have dead:∀b,(∃o,s5.heap.get? b=some o)->b∉wr':=λb ⟨o,e⟩ hb=>by rw[nwr b hb]at e;injections e
  have hz:∀b,b∈wr'->s5.heap.get? b=none/\∃o,s4.heap.get? b=some o:=λb hb=>⟨nwr b hb,al' b hb⟩
  obtain⟨Sm,onm⟩:=J5.sta.more (Kp.keep k6) (Z:=λb=>b∈wr') hz;obtain⟨us,m,el,rl⟩:=J5.lst;have onx:On (ag cv Y O0) (ag cv (λb=>Y b\/b∈wr') O0) s5.heap s4.heap:=onm;have C':kH G A cv scope.names (λb=>Y b\/b∈wr') (aT t x ρ0).2 t' ns i' acc fp' wr' (aQ scope.names (E scope.names (aT t x ρ0).2) t' iter').2 St' (ag cv Y O0) s5.heap s4:=
   { env:=C.env
     tg:=λy hy=>⟨(ht' y hy).1,(ht' y hy).2.1,by rw[xH (ht' y hy).2.2.2];exact(ht' y hy).2.2.1⟩
     it:=I
     hwr:=λb hb => .inr hb
     hacc := .inl C.hacc
     own:=λb hb=>⟨(C.own b hb).1,dead b (J5.sta.alive b (.inr (.inl hb)))⟩
     fpAcc:=λh=>nfp acc h (.inl C.hacc)
     fpPl:=λy _ b hb pl=>nfp b hb (.inr (.inl pl.own))
     on:=onx }
  have Jn:JE G cv (λb=>Y b\/b∈wr') ns acc wr' s4 (aT t x ρ0).2 re s4:=
   ⟨⟨s4.heap,s4.toks,rfl⟩,λb o _ _ _ e=>e,λb o _ e=>⟨o,e⟩,Sm,us,m,Kp.keep k6 _ _ el,Reps.on onx rl⟩
  have e1':res++(dq (g7 E elt t t' iter' ifs scope ρ0) xs).2=re++((a9 (cK E elt t' ifs scope (aT t x ρ0).2) (aQ scope.names (E scope.names (aT t x ρ0).2) t' iter').2).2++(dq (g7 E elt t t' iter' ifs scope ρ0) (xs.drop (i+1))).2):=e1;have hn':(re++(a9 (cK E elt t' ifs scope (aT t x ρ0).2) (aQ scope.names (E scope.names (aT t x ρ0).2) t' iter').2).2).length<=cap:=by
   rw[e1',<-List.append_assoc,List.length_append]at hn;omega
  refine wpAny_bind (wpAny_runOwn ?_);have hY':∀b,Y b->(Y b\/b∈wr')/\b∉wr':=λb hb=>⟨.inl hb,dead b (J5.sta.alive b (.inl hb))⟩
  have lp:∀R':Result->Shared->Prop,(∀s',JE G cv Y ns acc wr' s4 (aT t x ρ0).2 (re++(a9 (cK E elt t' ifs scope (aT t x ρ0).2) (aQ scope.names (E scope.names (aT t x ρ0).2) t' iter').2).2) s'->R' (.ok .next) s') ->
   codeAny (model G.p G.w) A (.compLoop (.ListComp elt [⟨t,iter,[],0⟩,⟨t',iter',ifs,0⟩] scope pos) 1 i' (.ref acc) cv) R' s4:=λR' q'=>
   AO (BH elt t iter t' iter' ifs scope pos i' (.ref acc) cv) Fa.none C' (GE _) (GT _) Jn st6 g2 hn' hY' q'
  refine BF (lp _ ?_) (I.self 0 s4 _ _ st6 (lp _ ?_))
  all_goals
   intro s7 J7;refine wpAny_pure ⟨rfl,_,(by omega:xs.length-(i+1)<xs.length-i),i+1,re++(a9 (cK E elt t' ifs scope (aT t x ρ0).2) (aQ scope.names (E scope.names (aT t x ρ0).2) t' iter').2).2,rfl,hlt,JE.back C (v:=x) ⟨?_,λb o n1 n2 n3 e => ?_,λb o nw e => ?_,J7.sta,J7.lst⟩, ?_, ?_,g3⟩
   ·obtain⟨h,tk,e⟩:=J4.same
    obtain⟨h',tk',e'⟩:=J7.same;rw[e',e];exact⟨h',tk',rfl⟩
   ·have e5:=J5.keep b o n1 n2 n3 e
    exact J7.keep b o n1 (dead b ⟨o,e5⟩) n3 (Kp.keep k6 b o e5)
   ·obtain⟨o',e5⟩:=J5.live b o nw e
    exact J7.live b o' (dead b ⟨o',e5⟩) (Kp.keep k6 b o' e5)
   ·have lv:=C.it.live _ _ st4
    refine C.it.frame _ _ _ st4 λb hb o e=>J7.keep b o (λh=>C.fpAcc (h▸hb)) (λh => ?_) (λy hy pl=>C.fpPl y hy b hb pl) e
    have lv3:=C.it.live _ _ st3 b hb;obtain⟨o3,e3⟩:=lv3;exact dead b ⟨o3,Kp.keep k5 b o3 e3⟩ h
   ·rw[e1',List.append_assoc]
 ·have hi':i=xs.length:=⋯
  subst hi';refine xI C J' st' hY λs2 J2=>wpAny_pure (q s2 ?_)
  rw[List.drop_length]at e1;rw[e1];rw[show ∀(l:List V) f,l++(dq f []).2=l from λl f=>List.append_nil l];exact J2
end
end
section
open PySem PySem.W PySem.Calls PyProof.Rows
section
variable {G:Cfg} {A:Around} {env:Env} {X:Addr->Prop} {κ:List (Str×NameKind)} {ρ:Rho} {O:Nm->Option Addr} {scope:Scope} {Φ:Fns}
theorem xK{t:Expr}{x:Nm}(h:x∈az t):∃y:Str,x=nm y:=by
 induction t using Expr.casesOn with
 |Name y p=>exact⟨y,List.mem_singleton.mp h⟩
 |Tuple ts k p=>
  obtain⟨e,_,he⟩:=List.mem_filterMap.mp h;exact Bm he
 |_=>injections h
theorem iY{t:Expr}(h:mY scope.names t=true)(x:Nm)(hx:x∈az t):ae (kd scope.names x)=true/\lk (bD scope ρ) x = .un/\∀y:Str,x=nm y->(y,NameKind.free)∉scope.names\/¬iu scope.names:=by
 have:=List.all_eq_true.mp h x hx;obtain⟨y,rfl⟩:=xK hx;rw[bq]at this;rw[bq,lT];cases e:scope.names.lookup y with
 |none=>rw[e]at this;injections this
 |some k=>
  rw[e]at this;refine⟨?_, ?_,λz ez => ?_⟩
  ·induction k using NameKind.casesOn<;>first|rfl|injections this
  ·induction k using NameKind.casesOn<;>first|rfl|injections this
  ·by_cases ho:iu scope.names
   ·left
    intro hm;rw[<-bQ ez]at hm;have h2:=ho.lookup hm;rw[e]at h2;injection h2 with h2;subst h2;injections this
   ·exact .inr ho
theorem jK(Ok:gI κ scope)(hc:∀n,(n,NameKind.free)∈scope.names->∃c,env.cells.lookup n=some c){h:Heap}{t:Expr}(ho:mY scope.names t=true){x:Str}(hx:nm x∈az t){b:Addr}(pl:eB (eX scope env h.objs.size) x b):h.objs.size<=b:=by
 rcases pl with⟨e,_⟩|⟨_,e⟩
 ·rw[e];exact Nat.le_refl _
 ·have m:=mem_of_lookup e
  have e1:h.objs.size+1=(h.push { cls := .type "dict",data := .dict #[] }).objs.size:=(Heap.size_push ..).symm
  change (x,b)∈cellsFrom (h.objs.size+1) scope.names (fL env scope.names [])at m
  rw[e1]at m
  rcases bv m with m|⟨_,m,_⟩
  ·rcases dv hc m with m|⟨m,_⟩
   ·cases m
   ·rcases(iY (ρ:=[]) ho _ hx).2.2 x rfl with h'|h'
    ·exact absurd m h'
    ·exact absurd Ok.once h'
  ·rw[<-e1]at m;omega
theorem zK(hc:∀n,(n,NameKind.free)∈scope.names->∃c,env.cells.lookup n=some c){h:Heap}{Z:Addr->Prop}{b:Addr}(fb:ag (eX scope env h.objs.size) (λb=>ag env X O b\/Z b) O0 b):ag env X O b\/Z b\/h.objs.size<=b:=by
 rcases fb with(fb|fb)|fb|⟨y,fb⟩
 ·exact .inl fb
 ·exact .inr (.inl fb)
 ·rcases jJ hc fb with e|e|e
  ·exact .inr (.inr (by rw[e];exact Nat.le_refl _))
  ·exact .inr (.inr ⋯)
  ·exact .inl (.inr (.inl e))
 ·cases fb
structure ED(G:Cfg)(P:Addr->Prop)(s:Shared)(res:List V)(acc C:Addr)(s':Shared):Prop where
 keeps:Keeps s s'
 dead:s.heap.get? acc=none
 loc:s.heap.get? C=none
 ne:C≠acc
 ns:∃m,s'.heap.Ns C m
 lst:∃us m,s'.heap.get? acc=some { cls := .type "list",data := .seq us m }/\Reps G (λb=>P b\/(b=acc\/b=C)) s'.heap res us.toList
theorem ri (Fa:av G A Φ) (En:am env κ) {E:Ev} (GE:∀κ env X ρ,am env κ->ar G A env X ρ (E κ ρ)) {elt t iter:Expr} {ifs:List Expr} {rest:List Comprehension} {pos:Pos} {ns:List Nm} {res:List V}
 (Ok:gI κ scope) (ow:mY scope.names t=true) (hns:∀x∈az t,x∈ns) (hnew:∀(h:Heap) (x:Str) (b:Addr),nm x∈ns->eB (eX scope env h.objs.size) x b->(∀n,(n,NameKind.free)∈scope.names->∃c,env.cells.lookup n=some c)->h.objs.size<=b)
 (oi:(aQ κ (E κ ρ) t iter).1=true)
 (lp:∀(cv:Env) (Y Y1:Addr->Prop) (it:Value) (acc:Addr) (fp wr:List Addr) (St:Nat->Heap->Prop) (X0:Addr->Prop) (hp:Heap) (s4:Shared),
   kH G A cv scope.names Y (bD scope ρ) t ns it acc fp wr (aQ κ (E κ ρ) t iter).2 St X0 hp s4->JE G cv Y ns acc wr s4 (bD scope ρ) [] s4->St 0 s4.heap->(∀b,Y1 b->Y b/\b∉wr) ->
   ∀R:Result->Shared->Prop,(∀s',JE G cv Y1 ns acc wr s4 (bD scope ρ) res s'->R (.ok .next) s')->codeAny (model G.p G.w) A (.compLoop (.ListComp elt (⟨t,iter,ifs,0⟩::rest) scope pos) 0 it (.ref acc) cv) R s4)
 {s:Shared} (S:bJ G env X O ρ s.heap) {use:Option (Value->Sem Unit)} {E':Value->Shared->Prop} {Q:Value->Shared->Prop} {pp:Pos}
 (q:∀acc C s',ED G (ag env X O) s res acc C s'->compPost (model G.p G.w) A E' use Q (.ref acc) C (.ok .next) s'):
 wpAny (model G.p G.w) A (comprehension (.ListComp elt (⟨t,iter,ifs,0⟩::rest) scope pos) scope env pp (newList []) false (eval iter env) use) Q E' s:=by
 obtain⟨g,F,hg⟩:=S.look;have hc':=lU Ok En F;have hc:∀n,(n,NameKind.free)∈scope.names->∃c,env.cells.lookup n=some c:=λn hn=>let⟨c,e,_⟩:=hc' n hn;⟨c,e⟩
 refine wpAny_comprehension_free (g:=⟨t,iter,ifs,0⟩) (gs:=rest) rfl (p9 (GE _ _ X _ En) oi) (tz hc) Ok.kind (λx hx hl=>Ok.once.lookup (by rw[<-hl];exact hx)) ?_;refine p0 (t:=t) Fa En (GE _ _ _ _ En) oi O s S _ _ λit s2 k2 I2 => ?_
 obtain⟨s1,fp,wr,St,k1,k12,I,st2,nfp,nwr⟩:=I2;have live2:=I.live _ _ st2;refine wpAny_newList ?_ (Nat.zero_le _);generalize hs3:({ s2 with heap:=s2.heap.push { cls := .type "list",data := .seq ([]:List Value).toArray } }:Shared)=s3;have h3:s3.heap=s2.heap.push { cls := .type "list",data := .seq ([]:List Value).toArray }:=by rw[<-hs3]
 have sz3:s3.heap.objs.size=s2.heap.objs.size+1:=by rw[h3,Heap.size_push]
 have k23:∀b o,s2.heap.get? b=some o->s3.heap.get? b=some o:=λb o e=>by rw[h3];exact Heap.get?_push_of_some _ e
 have acc3:s3.heap.get? s2.heap.objs.size=some { cls := .type "list",data := .seq ([]:List Value).toArray }:=by rw[h3];exact Heap.get?_push_size _ rfl
 have ks3:∀b o,s.heap.get? b=some o->s3.heap.get? b=some o:=λb o e=>k23 b o (Kp.keep k2 b o e)
 refine q9 ?_;have wrLt:∀b∈wr,b<s2.heap.objs.size:=λb hb=>by obtain⟨o,e⟩:=live2 b (I.sub b hb);exact Heap.lt_size e
 have fpLt:∀b∈fp,b<s2.heap.objs.size:=λb hb=>by obtain⟨o,e⟩:=live2 b hb;exact Heap.lt_size e
 have hz:∀b,(b∈wr\/b=s2.heap.objs.size)->s.heap.get? b=none/\∃o,s3.heap.get? b=some o:=λb hb=>by
  rcases hb with hb|hb
  ·refine⟨?_, ?_⟩
   ·cases e:s.heap.get? b with
    |none=>rfl
    |some o=>have:=Kp.keep k1 b o e;rw[nwr b hb]at this;injections this
   ·obtain⟨o,e⟩:=live2 b (I.sub b hb);exact⟨o,k23 b o e⟩
  ·rw[hb]
   refine⟨?_,_,acc3⟩;cases e:s.heap.get? s2.heap.objs.size with
   |none=>rfl
   |some o=>exact absurd (Heap.lt_size (Kp.keep k2 _ o e)) (Nat.lt_irrefl _)
 have S4:=BE Ok En S ks3 (Z:=λb=>b∈wr\/b=s2.heap.objs.size) hz;generalize hs4:({ s3 with heap:=pushCells (s3.heap.push { cls := .type "dict",data := .dict #[] }) scope.names }:Shared)=s4;have h4:s4.heap=pushCells (s3.heap.push { cls := .type "dict",data := .dict #[] }) scope.names:=by rw[<-hs4]
 rw[<-h4]at S4;have k34:∀b o,s3.heap.get? b=some o->s4.heap.get? b=some o:=λb o e=>by rw[h4];exact pushCells_keeps _ _ _ _ (Heap.get?_push_of_some _ e)
 have k14:∀b o,s1.heap.get? b=some o->s4.heap.get? b=some o:=λb o e=>k34 b o (k23 b o (Kp.keep k12 b o e))
 have same4:∃h tk,s4={ s with heap:=h,toks:=tk }:=by
  obtain⟨h2,t2,e2,_⟩:=k2;refine⟨s4.heap,t2, ?_⟩;rw[<-hs4,<-hs3,e2]
 have aboveDead1:∀b,s2.heap.objs.size<=b->s1.heap.get? b=none:=λb hb=>by
  cases e:s1.heap.get? b with
  |none=>rfl
  |some o=>exact absurd (Heap.lt_size (Kp.keep k12 b o e)) (Nat.not_lt.mpr hb)
 have accwr:s2.heap.objs.size∉wr:=λh=>Nat.lt_irrefl _ (wrLt _ h)
 have st4:St 0 s4.heap:=I.frame _ _ _ st2 λb _ o e=>k34 b o (k23 b o e)
 have C4:kH G A (eX scope env s3.heap.objs.size) scope.names (λb=>ag env X O b\/(b∈wr\/b=s2.heap.objs.size)) (bD scope ρ) t ns it s2.heap.objs.size fp wr (aQ κ (E κ ρ) t iter).2 St (ag env X O) s1.heap s4:=
  { env:=xG Ok En _
    tg:=λx hx=>⟨hns x hx,(iY (ρ:=ρ) ow x hx).1,(iY (ρ:=ρ) ow x hx).2.1⟩
    it:=I
    hwr:=λb hb => .inr (.inl hb)
    hacc := .inr (.inr rfl)
    own:=λb hb=>by
     rcases jJ hc hb with e|e|e
     ·rw[e,sz3];exact⟨Nat.succ_ne_self _,λh=>Nat.lt_irrefl _ (Nat.lt_trans (Nat.lt_succ_self _) (wrLt _ h))⟩
     ·rw[sz3]at e
      have e' : @LE.le Nat _ (s2.heap.objs.size+1+1) b:=e;refine⟨λh => ?_,λh => ?_⟩
      ·have h : @Eq Nat b s2.heap.objs.size:=h
       omega
      ·have h : @LT.lt Nat _ b s2.heap.objs.size:=wrLt _ h
       omega
     ·obtain⟨o,e'⟩:=S.alive b (.inr (.inl e))
      refine⟨λh => ?_,λh => ?_⟩
      ·exact absurd (h▸Heap.lt_size (Kp.keep k2 b o e')) (Nat.lt_irrefl _)
      ·have:=Kp.keep k1 b o e';rw[nwr b h]at this;injections this
    fpAcc:=λh=>Nat.lt_irrefl _ (fpLt _ h)
    fpPl:=λx hx b hb pl=>by
     have h1:=hnew s3.heap x b hx pl hc;have h2 : @LT.lt Nat _ b s2.heap.objs.size:=fpLt b hb;rw[sz3]at h1;have h1 : @LE.le Nat _ (s2.heap.objs.size+1) b:=h1
     omega
    on:=⟨λb o _ e=>k14 b o e,λb o e fb=>by
     rcases zK hc fb with f|(f|f)|f
     ·exact f
     ·rw[nwr b f]at e;injections e
     ·rw[aboveDead1 b (by rw[f];exact Nat.le_refl _)]at e;injections e
     ·rw[aboveDead1 b (by rw[sz3]at f;exact Nat.le_of_succ_le f)]at e;cases e⟩ }
 have J4:JE G (eX scope env s3.heap.objs.size) (λb=>ag env X O b\/(b∈wr\/b=s2.heap.objs.size)) ns s2.heap.objs.size wr s4 (bD scope ρ) [] s4:=
  ⟨⟨s4.heap,s4.toks,rfl⟩,λb o _ _ _ e=>e,λb o _ e=>⟨o,e⟩,S4,_,_,k34 _ _ acc3,Reps.nil⟩
 have hY1:∀b,(ag env X O b\/b=s2.heap.objs.size)->(ag env X O b\/(b∈wr\/b=s2.heap.objs.size))/\b∉wr:=λb hb=>by
  rcases hb with hb|hb
  ·refine⟨.inl hb,λh => ?_⟩
   obtain⟨o,e⟩:=S.alive b hb;have:=Kp.keep k1 b o e;rw[nwr b h]at this;injections this
  ·exact⟨.inr (.inr hb),by rw[hb];exact accwr⟩
 have loop:codeAny (model G.p G.w) A (.compLoop (.ListComp elt (⟨t,iter,ifs,0⟩::rest) scope pos) 0 it (.ref s2.heap.objs.size) (eX scope env s3.heap.objs.size)) (compPost (model G.p G.w) A E' use Q (.ref s2.heap.objs.size) s3.heap.objs.size) s4:=by
  refine lp _ _ (λb=>ag env X O b\/b=s2.heap.objs.size) it _ fp wr St _ _ s4 C4 J4 st4 hY1 _ λs5 J5=>q _ _ s5 ⟨?_, ?_, ?_, ?_, ?_, ?_⟩
  ·obtain⟨h4',t4',e4⟩:=same4
   obtain⟨h5',t5',e5⟩:=J5.same;refine⟨s5.heap,t5',by rw[e5,e4],λb o e => ?_⟩;have e3:=ks3 b o e;have lt2:b<s2.heap.objs.size:=Heap.lt_size (Kp.keep k2 b o e);refine J5.keep b o (Nat.ne_of_lt lt2) (λh => ?_) (λx hx pl => ?_) (k34 b o e3)
   ·have:=Kp.keep k1 b o e;rw[nwr b h]at this;injections this
   ·have h1:=hnew s3.heap x b hx pl hc
    rw[sz3]at h1;exact Nat.lt_irrefl _ (Nat.lt_trans lt2 h1)
  ·exact(hz _ (.inr rfl)).1
  ·cases e:s.heap.get? s3.heap.objs.size with
   |none=>rfl
   |some o=>exact absurd (Heap.lt_size (ks3 _ o e)) (Nat.lt_irrefl _)
  ·rw[sz3];exact Nat.succ_ne_self _
  ·obtain⟨g5,F5,_⟩:=J5.sta.look
   obtain⟨m,hm,_⟩:=F5.ns;exact⟨m,hm⟩
  ·obtain⟨us,m,el,rl⟩:=J5.lst
   refine⟨us,m,el,Reps.on ⟨λb o nb e=>e,λb o e fb => ?_⟩ rl⟩
   rcases fb with f|f|f
   ·exact .inl (.inl f)
   ·exact .inl (.inr f)
   ·exact .inr (.inl (.inl f))
 refine codeAny_compStart_list loop (I.self 0 s4 _ _ st4 loop)
theorem ov(f:V->Bool×Bool×R):∀l:List V,(a9 f l).2.length<=l.length
 |[]=>Nat.le_refl _
 |x::l=>by
  have ih:=ov f l;rw[lV];cases(f x).2.1 with
  |true=>show((f x).2.2.2::(a9 f l).2).length<=_;simp only[List.length_cons];omega
  |false=>show(a9 f l).2.length<=_;simp only[List.length_cons];omega
theorem oA (Fa:av G A Φ) (En:am env κ) {E:Ev} (GE:∀κ env X ρ,am env κ->ar G A env X ρ (E κ ρ)) (GT:∀κ env X ρ,am env κ->g9 G A env X ρ (E κ ρ)) {elt:Expr} {gs:List Comprehension} {pos:Pos}
 (ok:(ik E κ ρ elt gs scope).1=true) {s:Shared} (S:bJ G env X O ρ s.heap) {use:Option (Value->Sem Unit)} {E':Value->Shared->Prop} {Q:Value->Shared->Prop}:
 ∃res,(ik E κ ρ elt gs scope).2 = .list res/\((∀acc C s',ED G (ag env X O) s res acc C s'->compPost (model G.p G.w) A E' use Q (.ref acc) C (.ok .next) s') ->
 wpAny (model G.p G.w) A (comprehension (.ListComp elt gs scope pos) scope env (firstIterPos gs pos) (newList []) (firstAsync gs) (firstIter gs env) use) Q E' s):=by
 have two:∀{a b c d e f:Bool},(a&&b&&c&&d&&e&&f)=true->a=true/\b=true/\c=true/\d=true/\e=true/\f=true:=λ{a b c d e f} h=>by
  have h5:=ay h;have h4:=ay h5.1;have h3:=ay h4.1;have h2:=ay h3.1;exact⟨(ay h2.1).1,(ay h2.1).2,h2.2,h3.2,h4.2,h5.2⟩
 induction gs using List.casesOn with
 |nil=>exact ab ok
 |cons g gs=>induction gs using List.casesOn with
 |nil=>
  obtain⟨t,it,ifs,n⟩:=g;obtain⟨o0,o1,o2,o3,o4,o5⟩:=two ok;have o5:=of_decide_eq_true o5;obtain rfl:=of_decide_eq_true o0;refine⟨_,rfl,λq => ?_⟩;have Ok:=lS o1;refine ri (ns:=az t) (rest:=[]) Fa En GE Ok o2 (λ_ h=>h) (λh x b hx pl hc=>jK Ok hc o2 hx pl) o3 (λcv Y Y1 it' acc fp wr St X0 hp s4 C J st hY R qR => ?_) S q;refine AO (compTurn_list elt t it ifs scope pos it' (.ref acc) cv) Fa.none C (λρ'=>GE _ _ _ _ C.env) (λρ'=>GT _ _ _ _ C.env) J st o4 ?_ hY (λs' J'=>qR s' (by simpa using J'));rw[List.nil_append];exact Nat.le_trans (ov _ _) o5
 |cons g' gs=>induction gs using List.casesOn with
 |cons=>exact ab ok
 |nil=>
  obtain⟨t,it,ifs0,n⟩:=g;obtain⟨t',it',ifs,n'⟩:=g';obtain⟨o1,o2',o3',o3,o4,o5⟩:=two ok;have k1:=ay o1;have k2:=ay k1.1;have k3:=ay k2.1;have o5:=of_decide_eq_true o5;obtain rfl:=List.isEmpty_iff.mp k3.2;obtain rfl:=of_decide_eq_true (ay k3.1).1;obtain rfl:=of_decide_eq_true (ay k3.1).2;have o2:=k1.2;have o1:=k2.2;refine⟨_,rfl,λq => ?_⟩;have Ok:=lS o1;refine ri (ns:=az t++az t') (rest:=[⟨t',it',ifs,0⟩]) Fa En GE Ok o2 (λ_ h=>List.mem_append_left _ h) (λh x b hx pl hc => ?_) o3 (λcv Y Y1 itv acc fp wr St X0 hp s4 C J st hY R qR => ?_) S q
  ·rcases List.mem_append.mp hx with hx|hx
   ·exact jK Ok hc o2 hx pl
   ·exact jK Ok hc o2' hx pl
  ·refine C9 (Φ:=Φ) Fa C (λX ρ'=>GE _ _ _ _ C.env) (λX ρ'=>GT _ _ _ _ C.env) (λx hx=>⟨List.mem_append_right _ hx,(iY (ρ:=ρ) o2' x hx).1,(iY (ρ:=ρ) o2' x hx).2.1,λh => ?_⟩) J st o4 ?_ hY (λs' J'=>qR s' (by simpa using J'))
   ·have:=List.all_eq_true.mp o3' x hx
    rw[Bool.not_eq_true',<-Bool.not_eq_true,mem_iff]at this;exact this h
   ·rw[List.nil_append];exact o5
theorem j9 (Fa:av G A Φ) (En:am env κ) {E:Ev} (GE:∀κ env X ρ,am env κ->ar G A env X ρ (E κ ρ)) (GT:∀κ env X ρ,am env κ->g9 G A env X ρ (E κ ρ)) {elt:Expr} {gs:List Comprehension} {pos:Pos}
 (ok:(ik E κ ρ elt gs scope).1=true):gF G A env X ρ (eval (.ListComp elt gs scope pos) env) (ik E κ ρ elt gs scope).2:=by
 intro O s S E' Q q;rw[arm_eval_ListComp];obtain⟨res,e,run⟩:=oA (pos:=pos) (use:=none) (Q:=Q) (E':=E') Fa En GE GT ok S;rw[e]at q;refine run λacc C s' Rn => ?_
 obtain⟨us,m,el,rl⟩:=Rn.lst;refine⟨_,Rn.ns.choose_spec,λh' hs => ?_⟩;have k':∀b o,b≠C->s'.heap.get? b=some o->h'.get? b=some o:=λb o n e=>(hs.2 b n).trans e
 obtain⟨hh,tk,e',kk⟩:=Rn.keeps;subst e';refine q _ _ ⟨h',tk,rfl,λb o e=>k' b o (λh => ?_) (kk b o e)⟩ (ah.list_iff.mpr ⟨acc,us,rfl,λfa => ?_,⟨_,k' _ _ Rn.ne.symm el,rfl,_,rfl⟩,Reps.on ⟨λb o nb e=>k' b o (λh=>nb (.inr (.inr h))) e,λb o e fb => .inl fb⟩ rl⟩)
 ·rw[h,Rn.loc]at e;injections e
 ·obtain⟨o,e⟩:=S.alive acc fa;rw[Rn.dead]at e;injections e
end
end
section
open PySem PySem.W PySem.Calls PyProof.Rows
section
variable {G:Cfg} {A:Around} {env:Env} {X:Addr->Prop} {κ:List (Str×NameKind)} {ρ:Rho} {Φ:Fns}
theorem rj(Fa:av G A Φ){E:Expr->R}(GE:ar G A env X ρ E){a:Expr}{ops:List CmpOp}{bs:List Expr}{pos:Pos}(ok:(ux E a ops bs).1=true):
 gF G A env X ρ (eval (.Compare a ops bs pos) env) (ux E a ops bs).2/\∀m,BB G A env X ρ (isTrue (.Compare a ops bs pos) env m) (aa (ux E a ops bs).2).2:=by
 induction ops using List.casesOn with
 |nil=>exact ab ok
 |cons op ops=>induction ops using List.casesOn with
  |nil=>induction bs using List.casesOn with
   |nil=>exact ab ok
   |cons b bs=>induction bs using List.casesOn with
    |nil=>exact⟨zE Fa GE ok,λm=>vu Fa GE ok⟩
    |cons _ _=>exact ab ok
  |cons _ _=>exact ab ok
theorem BI(Fa:av G A Φ)(En:am env κ){E:Ev}{τ:Tau}(GE:ar G A env X ρ (E κ ρ)){o i:Expr}{pos:Pos}(ok:(uy E τ κ ρ o i).1=true):
 gF G A env X ρ (eval (.Subscript o i pos) env) (uy E τ κ ρ o i).2:=by
 induction i using Expr.casesOn with
 |Slice lo hi st p=>exact xu GE ok
 |_=>exact zF Fa En GE ok
theorem iZ{as bs:List Expr}(h:iN as=some bs):∃p q,as=[.Call (.Name "range" p) bs [] q]:=by
 induction as using List.casesOn with
 |nil=>exact ao h
 |cons a r=>induction r using List.casesOn with
  |nil=>
   have h:uu (fo a)=some bs:=h;generalize e:fo a=o at h
   induction o using Option.casesOn with
   |none=>exact ao h
   |some x=>
    obtain⟨p,q,rfl⟩:=ga e;have h:(bif af (nm x.1) (nm "range")then some x.2 else none)=some bs:=h;generalize c:af (nm x.1) (nm "range")=b at h
    induction b using Bool.casesOn with
    |true=>rw[<-Option.some.inj h,g8 c];exact⟨p,q,rfl⟩
    |false=>exact ao h
  |cons _ _=>exact ao h
theorem vB (Fa:av G A Φ) (En:am env κ) {E:Ev} (GE:ar G A env X ρ (E κ ρ)) {f:Str} {p:Pos} {as:List Expr} {pos:Pos} {o:Option (List Expr)} (ho:(bif af (nm f) (nm "list")then iN as else none)=o)
 (ok:(kN o (bt (E κ ρ) κ (nm f) (nm "range")) (eA Φ (E κ ρ) κ (nm f) as)).1=true):
 gF G A env X ρ (eval (.Call (.Name f p) as [] pos) env) (kN o (bt (E κ ρ) κ (nm f) (nm "range")) (eA Φ (E κ ρ) κ (nm f) as)).2:=by
 induction o using Option.casesOn with
 |none=>exact xw Fa En GE ok
 |some bs=>
  generalize c:af (nm f) (nm "list")=b at ho
  induction b using Bool.casesOn with
  |false=>exact ao ho
  |true=>
   have ef:=g8 c;obtain⟨p',q,rfl⟩:=iZ ho;subst ef;exact pY Fa En GE ok
theorem zL(Fa:av G A Φ)(En:am env κ){E:Ev}(GE:ar G A env X ρ (E κ ρ)){f:Expr}{as:List Expr}{pos:Pos}(ok:(jz Φ E κ ρ f as pos).1=true):
 gF G A env X ρ (eval (.Call f as [] pos) env) (jz Φ E κ ρ f as pos).2:=by
 induction f using Expr.casesOn with
 |Attribute o m q=>
  unfold jz at ok |-;dsimp only at ok |-;generalize h:(q.endLine==pos.line&&decide (as.length<30))=b at ok |-
  induction b using Bool.casesOn with
  |true=>
   have h:=ay h;exact zG Fa GE (eq_of_beq h.1) (of_decide_eq_true h.2) ok
  |false=>exact ab ok
 |Name f p=>
  unfold jz at ok |-;dsimp only at ok |-;generalize c1:af (nm f) (nm "len")=b at ok |-
  induction b using Bool.casesOn with
  |true=>
   have ef:=g8 c1;subst ef
   induction as using List.casesOn with
   |nil=>exact ab ok
   |cons a r=>induction r using List.casesOn with
    |nil=>exact BC Fa En GE ok
    |cons _ _=>exact ab ok
  |false=>exact vB Fa En GE rfl ok
 |_=>exact ab ok
theorem oC{v:V}{e:Expr}(h:∀m:Sem Value,isTrue e env m=(do let v <-m;standAt e.pos;holding [v] (truthy v)))(r:gF G A env X ρ (eval e env) v)(tr:(aa v).1=true):BB G A env X ρ (isTrue e env (eval e env)) (aa v).2:=by
 intro O s S E Q q;rw[h];exact wpAny_bind (r O s S _ _ λu s1 k1 r1=>wpAny_bind (wpAny_standAt (wpAny_holding (jF tr r1 λs2 k2=>q s2 (Kp.trans k1 k2)))))
theorem fw(Fa:av G A Φ)(τ:Tau):∀(n:Nat) (κ:List (Str×NameKind)) (env:Env) (X:Addr->Prop) (ρ:Rho),am env κ->ar G A env X ρ (ev Φ τ n κ ρ)/\g9 G A env X ρ (ev Φ τ n κ ρ)
 |0,κ,env,X,ρ,En=>⟨⟨λe ok=>absurd ok Bool.false_ne_true,λ_ _ _=>rfl,λ_ _=>rfl⟩,⟨λe ok=>absurd ok Bool.false_ne_true⟩⟩
 |n+1,κ,env,X,ρ,En=>by
  have ih:=fw Fa τ n;have GE:=λκ env X ρ h=>(ih κ env X ρ h).1
  have GT:=λκ env X ρ h=>(ih κ env X ρ h).2
  have ge:=GE κ env X ρ En;have gt:=GT κ env X ρ En;have main:∀e,(ev Φ τ (n+1) κ ρ e).1=true->gF G A env X ρ (eval e env) (ev Φ τ (n+1) κ ρ e).2:=by
   intro e ok
   induction e using Expr.casesOn with
   |Constant c k p=>exact xn ok
   |Name x p=>exact C2 Fa En ok
   |BinOp a op b p=>exact xo Fa En ge ok
   |BoolOp op es p=>induction op using BoolOp.casesOn with
    |And=>exact xq ge p ok
    |Or=>exact AL ge p ok
   |UnaryOp op a p=>exact zv ge ok
   |IfExp t a b p=>exact zx ge gt ok
   |Compare a ops bs p=>exact(rj Fa ge ok).1
   |Subscript o i p=>exact BI Fa En ge ok
   |Attribute o a p=>exact xv Fa ge ok
   |List es p=>exact zw ge ok
   |Tuple es k p=>exact BA ge ok
   |ListComp elt gs scope p=>exact j9 Fa En GE GT ok
   |Call f as kw p=>induction kw using List.casesOn with
    |nil=>exact zL Fa En ge ok
    |cons k kw=>injections ok
   |_=>injections ok
  refine⟨⟨main,λ_ _ _=>rfl,λ_ _=>rfl⟩,⟨λe ok tr => ?_⟩⟩
  induction e using Expr.casesOn with
  |UnaryOp op a p=>induction op using UnaryOp.casesOn with
   |Not=>
    have ok':((ev Φ τ n κ ρ a).1&&(aa (ev Φ τ n κ ρ a).2).1)=true:=ok;rw[Bool.and_eq_true]at ok';intro O s S E Q q;rw[arm_isTrue_UnaryOp];exact wpAny_bind (gt.ok a ok'.1 ok'.2 O s S _ _ λs1 k1=>wpAny_pure (q s1 k1))
   |_=>exact oC (λ_=>rfl) (main _ ok) tr
  |BoolOp op es p=>induction op using BoolOp.casesOn with
   |And=>exact uG gt ok tr
   |Or=>exact xr gt ok tr
  |IfExp t a b p=>
   have ok':(mZ (ev Φ τ n κ ρ) t a b).1=true:=ok;have tr':(aa (mZ (ev Φ τ n κ ρ) t a b).2).1=true:=tr;show BB G A env X ρ _ (aa (mZ (ev Φ τ n κ ρ) t a b).2).2;unfold mZ at ok' tr' |-;simp only[Bool.and_eq_true]at ok';simp only[bo]at tr' |-;obtain⟨⟨o1,o2⟩,o3⟩:=ok';intro O s S E Q q;rw[arm_isTrue_IfExp];refine wpAny_bind (gt.ok t o1 o2 O s S _ _ λs1 k1 => ?_);cases c:(aa (ev Φ τ n κ ρ t).2).2 with
   |true=>
    rw[c]at o3 q tr';simp only[cond_true]at o3 q tr';exact gt.ok a o3 tr' O s1 (S.keeps (Kp.keep k1)) _ _ λs2 k2=>q s2 (Kp.trans k1 k2)
   |false=>
    rw[c]at o3 q tr';simp only[cond_false]at o3 q tr';exact gt.ok b o3 tr' O s1 (S.keeps (Kp.keep k1)) _ _ λs2 k2=>q s2 (Kp.trans k1 k2)
  |Compare a ops bs p=>exact(rj Fa ge ok).2 _
  |_=>exact oC (λ_=>rfl) (main _ ok) tr
end
end
section
open PySem PySem.W PySem.Calls PyProof.Rows
noncomputable def ix(t s:Mine.Slot):Prop:=t = .un\/t=s\/∃l,s = .own l/\t = .val (.list l)
noncomputable def uM:Mine.Slot->Bool
 | .own _=>true
 |_=>false
noncomputable abbrev jt:Addr->Prop:=λ_=>False
noncomputable def Mv(env:Env)(O O':Nm->Option Addr)(s s':Shared):Prop:=∃h tk,s'={ s with heap:=h,toks:=tk }/\On (ag env jt O) (ag env jt O') s.heap h
section
variable {G:Cfg} {A:Around} {env:Env} {X:Addr->Prop} {κ:List (Str×NameKind)} {ρ ρ':Rho} {O:Nm->Option Addr} {Φ:Fns}
theorem Mv.refl(s:Shared):Mv env O O s s:=⟨s.heap,s.toks,rfl,λ_ _ _ e=>e,λ_ _ _ f=>f⟩
theorem Mv.trans{O' O'':Nm->Option Addr}{a b c:Shared}(x:Mv env O O' a b)(y:Mv env O' O'' b c):Mv env O O'' a c:=by
 obtain⟨h,t,rfl,k⟩:=x;obtain⟨h',t',rfl,k'⟩:=y;exact⟨h',t',rfl,k.trans k'⟩
theorem Mv.of_keeps{s s':Shared}(k:Keeps s s'):Mv env O O s s':=by
 obtain⟨h,t,rfl,k⟩:=k;exact⟨h,t,rfl,λb o _ e=>k b o e,λ_ _ _ f=>f⟩
theorem bJ.coarse{h:Heap}(S:bJ G env X O ρ h)(w:∀x,ix (lk ρ' x) (lk ρ x)):
 ∃O',bJ G env X O' ρ' h/\∀P b,ag env P O' b->ag env P O b:=by
 refine⟨λy=>if uM (lk ρ' y)=true then O y else none, ?_⟩;have sub:∀P b,ag env P (λy=>if uM (lk ρ' y)=true then O y else none) b->ag env P O b:=λP b fb=>by
  rcases fb with f|f|⟨y,f⟩
  ·exact .inl f
  ·exact .inr (.inl f)
  ·dsimp only at f
   split at f
   ·exact .inr (.inr ⟨y,f⟩)
   ·cases f
 have on:On (ag env X O) (ag env X (λy=>if uM (lk ρ' y)=true then O y else none)) h h:=⟨λ_ _ _ e=>e,λb o _ f=>sub X b f⟩;refine⟨⟨S.old,λb f=>S.new b (sub X b f),λb f=>S.alive b (sub X b f), ?_,λx y a e e' => ?_,λx a e => ?_⟩,sub⟩
 ·obtain⟨g,F,hg⟩:=S.look
  refine⟨g,F,λx hx => ?_⟩;have hs:=hg x hx
  rcases w (nm x)with e|e|⟨l,e1,e2⟩
  ·rw[e];trivial
  ·have hs':fJ G (ag env X O) h (O (nm x)) (lk ρ' (nm x)) (g x):=by rw[e];exact hs
   cases hv:lk ρ' (nm x)with
   |un=>trivial
   |val v=>
    rw[hv]at hs';obtain⟨u,e3,r⟩:=hs';exact⟨u,e3,r.on on⟩
   |own l=>
    rw[hv]at hs';obtain⟨a,vs,e3,e4,e5,r⟩:=hs';exact⟨a,vs,e3,by show(if uM (.own l)=true then O (nm x)else none)=some a;exact e4,e5,Reps.on on r⟩
  ·rw[e1]at hs
   obtain⟨a,vs,e3,e4,⟨m,e5⟩,r⟩:=hs;rw[e2];refine⟨.ref a,e3,ah.list_iff.mpr ⟨a,vs,rfl,λfa => ?_,⟨_,e5,rfl,_,rfl⟩,Reps.on on r⟩⟩
   rcases fa with f|f|⟨y,f⟩
   ·exact(S.apart _ a e4).1 f
   ·exact(S.apart _ a e4).2 f
   ·dsimp only at f
    split at f
    ·rename_i hy
     have:=S.inj y (nm x) a f e4;rw[this,e2]at hy;injections hy
    ·cases f
 ·split at e<;>split at e'
  ·exact S.inj x y a e e'
  all_goals first|injections e|cases e'
 ·split at e
  ·exact S.apart x a e
  ·injections e
theorem oD(ns:List Nm):∀(ρ:Rho) (x:Nm),ix (lk (freeze ns ρ) x) (lk ρ x)
 |[],x => .inl rfl
 |(y,s)::r,x=>by
  have ih:=oD ns r x;cases c:af x y with
  |true=>
   induction s using Mine.Slot.casesOn with
   |own l=>
    show ix (lk ((y,bif iM y ns then .val (.list l)else .own l)::freeze ns r) x) (lk ((y, .own l)::r) x);rw[ii,ii,c];simp only[cond_true];cases iM y ns with
    |true=>exact .inr (.inr ⟨l,rfl,rfl⟩)
    |false=>exact .inr (.inl rfl)
   |un=>show ix (lk ((y, .un)::freeze ns r) x) _;rw[ii,ii,c];exact .inr (.inl rfl)
   |val v=>show ix (lk ((y, .val v)::freeze ns r) x) _;rw[ii,ii,c];exact .inr (.inl rfl)
  |false=>
   have e2:lk ((y,s)::r) x=lk r x:=by
    show(bif af x y then s else lk r x)=_;rw[c];rfl
   rw[e2]
   induction s using Mine.Slot.casesOn with
   |own l=>
    show ix (lk ((y,bif iM y ns then .val (.list l)else .own l)::freeze ns r) x) _;have:lk ((y,bif iM y ns then .val (.list l)else .own l)::freeze ns r) x=lk (freeze ns r) x:=by
     show(bif af x y then _ else lk (freeze ns r) x)=_;rw[c];rfl
    rw[this];exact ih
   |un=>
    have:lk (freeze ns ((y, .un)::r)) x=lk (freeze ns r) x:=by
     show(bif af x y then _ else lk (freeze ns r) x)=_;rw[c];rfl
    rw[this];exact ih
   |val v=>
    have:lk (freeze ns ((y, .val v)::r)) x=lk (freeze ns r) x:=by
     show(bif af x y then _ else lk (freeze ns r) x)=_;rw[c];rfl
    rw[this];exact ih
theorem qa:∀(ρ0 ρ:Rho) (x:Nm),ix (lk (mask ρ0 ρ) x) (lk ρ x)
 |[],ρ,x=>by
  have:mask [] ρ=[]:=by cases ρ<;>rfl
  rw[this];exact .inl rfl
 |(y0,s0)::r0,[],x=>by
  have:mask ((y0,s0)::r0) []=[]:=by induction s0 using Mine.Slot.casesOn<;>rfl
  rw[this];exact .inl rfl
 |(y0,s0)::r0,(y,s)::r,x=>by
  have ih:=qa r0 r x;have key:∃s',mask ((y0,s0)::r0) ((y,s)::r)=(y,s')::mask r0 r/\ix s' s:=by
   induction s0 using Mine.Slot.casesOn with
   |un=>exact⟨.un,rfl, .inl rfl⟩
   |val v=>exact⟨s,rfl, .inr (.inl rfl)⟩
   |own l=>exact⟨s,rfl, .inr (.inl rfl)⟩
  obtain⟨s',e,hl⟩:=key;rw[e];show ix (bif af x y then s' else lk (mask r0 r) x) (bif af x y then s else lk r x);cases af x y with
  |true=>exact hl
  |false=>exact ih
theorem oE {X1:Addr->Prop} {s:Shared} {a:Addr} {vs:Array Value} {m:Nat} {l:List V} (S:bJ G env X1 O ρ s.heap) (En:am env κ) {x:Str} (hx:ae (kd κ (nm x))=true) (ha:X1 a) (hX:∀b,X b->X1 b/\b≠a) (hO:¬du env a)
 (el:s.heap.get? a=some { cls := .type "list",data := .seq vs m }) (rl:Reps G (ag env X1 O) s.heap l vs.toList) {E:Value->Shared->Prop} {Q:Unit->Shared->Prop}
 (q:∀h' tk,bJ G env X (upd O (nm x) (some a)) (put ρ (nm x) (.own l)) h'->(∀b o,¬eB env x b->s.heap.get? b=some o->h'.get? b=some o)->(∀b o,s.heap.get? b=some o->∃o',h'.get? b=some o')->Q () { s with heap:=h',toks:=tk }):
 wpAny (model G.p G.w) A (storeName env x (.ref a)) Q E s:=by
 obtain⟨g,F,hg⟩:=S.look;have hx':ae (env.kindOf x)=true:=(En.names x).trans hx;have full:∀b,ag env X (upd O (nm x) (some a)) b->ag env X1 O b:=λb fb=>by
  rcases fb with h|h|⟨y,h⟩
  ·exact .inl (hX b h).1
  ·exact .inr (.inl h)
  ·unfold upd at h
   split at h
   ·injection h with h;exact .inl (h▸ha)
   ·exact .inr (.inr ⟨y,h⟩)
 refine j2 En.kind F hx' λh' tk c hc F' kc al=>q h' tk ?_ (λb o nb e=>kc b o (λe'=>nb (e'▸hc)) e) al
 have hcO:du env c:=hc.own;have on:On (ag env X1 O) (ag env X (upd O (nm x) (some a))) s.heap h':=⟨λb o nb e=>kc b o (λe'=>nb (.inr (.inl (e'▸hcO)))) e,λb o _ f=>full b f⟩;refine⟨λb o e => ?_,λb fb=>S.new b (full b fb),λb fb => ?_,⟨_,F',λy hy => ?_⟩,λy z b e e' => ?_,λy b e => ?_⟩
 ·refine kc b o (λe' => ?_) (S.old b o e)
  have:=S.new b (.inr (.inl (e'▸hcO)));rw[this]at e;injections e
 ·obtain⟨o,e⟩:=S.alive b (full b fb);exact al b o e
 ·by_cases ey:y=x
  ·subst ey
   rcases(dU (.own l) (nm y) ρ (nm y)).1 rfl with e|e
   ·rw[e,if_pos rfl]
    refine⟨a,vs,rfl,by unfold upd;rw[if_pos rfl],⟨m,kc _ _ (λe'=>hO (e'▸hcO)) el⟩,Reps.on on rl⟩
   ·rw[e];trivial
  ·have ny:nm y≠nm x:=λe=>ey (bQ e)
   rw[(dU (.own l) (nm x) ρ (nm y)).2 ny,if_neg ey];have:upd O (nm x) (some a) (nm y)=O (nm y):=by unfold upd;rw[if_neg ny]
   rw[this];exact(hg y hy).on on λb eb o eo=>kc b o (λe'=>(S.apart (nm y) b eb).2 (e'▸hcO)) eo
 ·unfold upd at e e'
  by_cases e1:y=nm x<;>by_cases e2:z=nm x
  ·rw[e1,e2]
  ·rw[if_pos e1]at e;rw[if_neg e2]at e'
   injection e with e;subst e
   exact absurd ha (S.apart z _ e').1
  ·rw[if_neg e1]at e;rw[if_pos e2]at e'
   injection e' with e';subst e'
   exact absurd ha (S.apart y _ e).1
  ·rw[if_neg e1]at e;rw[if_neg e2]at e'
   exact S.inj y z b e e'
 ·unfold upd at e
  split at e
  ·injection e with e;subst e
   exact⟨λh=>(hX _ h).2 rfl,hO⟩
  ·exact⟨λh=>(S.apart y b e).1 (hX b h).1,(S.apart y b e).2⟩
theorem bJ.own_set {h h':Heap} {x:Str} {l l':List V} {a:Addr} {vs':Array Value} {m':Nat} (S:bJ G env X O ρ h) (hx:ae (env.kindOf x)=true) (hl:lk ρ (nm x) = .own l) (hO:O (nm x)=some a) (k:∀b o,b≠a->h.get? b=some o->h'.get? b=some o)
 (el:h'.get? a=some { cls := .type "list",data := .seq vs' m' }) (rl:Reps G (ag env X O) h l' vs'.toList):bJ G env X O (put ρ (nm x) (.own l')) h':=by
 have fa:ag env X O a := .inr (.inr ⟨_,hO⟩);have ap:=S.apart _ a hO;have on:On (ag env X O) (ag env X O) h h':=⟨λb o nb e=>k b o (λe'=>nb (e'▸fa)) e,λ_ _ _ f=>f⟩;refine⟨λb o e=>k b o (λe'=>by have:=S.new b (e'▸fa);rw[this]at e;injections e) (S.old b o e),S.new,λb fb => ?_, ?_,S.inj,S.apart⟩
 ·by_cases e:b=a
  ·rw[e];exact⟨_,el⟩
  ·obtain⟨o,e'⟩:=S.alive b fb;exact⟨o,k b o e e'⟩
 ·obtain⟨g,F,hg⟩:=S.look
  refine⟨g,⟨let⟨m,⟨o,es,ep,e,r⟩,hm⟩:=F.ns;⟨m,⟨o,es,ep,k _ _ (λe'=>ap.2 (e' ▸ .inl rfl)) e,r⟩,hm⟩,λy hy => ?_,F.apart⟩,λy hy => ?_⟩
  ·obtain⟨c,hc,o,e,r⟩:=F.cell y hy
   exact⟨c,hc,o,k _ _ (λe'=>ap.2 (e' ▸ .inr ⟨y,mem_of_lookup hc⟩)) e,r⟩
  ·by_cases ey:nm y=nm x
   ·rcases(dU (.own l') (nm x) ρ (nm y)).1 ey with e|e
    ·rw[e]
     have hs:=hg x hx;rw[hl]at hs;obtain⟨a',vs,e1,e2,_,_⟩:=hs;rw[hO]at e2;injection e2 with e2;subst e2
     rw[bQ ey];exact⟨a,vs',e1,hO,⟨m',el⟩,Reps.on on rl⟩
    ·rw[e];trivial
   ·rw[(dU (.own l') (nm x) ρ (nm y)).2 ey]
    exact(hg y hy).on on λb eb o eo=>k b o (λe'=>ey (S.inj (nm y) (nm x) a (e'▸eb) hO)) eo
theorem rk{E:Expr->R}(GE:ar G A env X ρ E){es:List Expr}{pos:Pos}(ok:il (cy E es)=true):j6 G A env X ρ (eval (.List es pos) env) (cy E es).2:=by
 unfold il at ok;simp only[Bool.and_eq_true,decide_eq_true_eq]at ok;intro O s S E' Q q;refine wpAny_List_spliced (cS GE pos ok.1 O s S _ _ λus s1 k1 r1=>⟨by rw[<-r1.length];exact b0 ok.2, ?_⟩);refine q _ us.toArray 0 _ (Kp.trans k1 (Kp.push s1 _ s1.toks)) ?_ (Heap.get?_push_size _ rfl) ?_
 ·cases e:s.heap.get? s1.heap.objs.size with
  |none=>rfl
  |some o=>exact absurd (Heap.lt_size (Kp.keep k1 _ o e)) (Nat.lt_irrefl _)
 ·exact Reps.addNew (by simpa using r1) (dg _ _) (aW _ (Nat.le_refl _))
end
end
section
open PySem PySem.W PySem.Calls PyProof.Rows
noncomputable def ju(s t:Mine.Slot):Prop:=t=s\/∃l,s = .own l/\t = .val (.list l)
theorem ju.refl(s:Mine.Slot):ju s s := .inl rfl
theorem ju.trans{a b c:Mine.Slot}(x:ju a b)(y:ju b c):ju a c:=by
 rcases x with rfl|⟨l,rfl,rfl⟩
 ·exact y
 ·rcases y with rfl|⟨l',e,_⟩
  ·exact .inr ⟨l,rfl,rfl⟩
  ·injections e
noncomputable def keys(ρ:Rho):List Nm:=ρ.map Prod.fst
structure aX(ns:List Nm)(ρ ρ':Rho):Prop where
 keys:keys ρ'=keys ρ
 le:∀x,x∉ns->ju (lk ρ x) (lk ρ' x)
theorem aX.refl(ns:List Nm)(ρ:Rho):aX ns ρ ρ:=⟨rfl,λx _ => .refl _⟩
theorem aX.trans{ns:List Nm}{a b c:Rho}(x:aX ns a b)(y:aX ns b c):aX ns a c:=⟨y.keys.trans x.keys,λz h=>(x.le z h).trans (y.le z h)⟩
theorem aX.more{ns ms:List Nm}{a b:Rho}(x:aX ns a b)(h:∀z,z∈ns->z∈ms):aX ms a b:=⟨x.keys,λz hz=>x.le z λh'=>hz (h z h')⟩
theorem i0(x:Nm)(t:Mine.Slot):∀ρ:Rho,keys (put ρ x t)=keys ρ
 |[]=>rfl
 |(y,s)::r=>by
  have ih:=i0 x t r;rw[wU];cases af x y with
  |true=>rfl
  |false=>show y::keys (put r x t)=y::keys r;rw[ih]
theorem aX.put{ns:List Nm}{x:Nm}{t:Mine.Slot}{ρ:Rho}(h:x∈ns):aX ns ρ (put ρ x t):=⟨i0 x t ρ,λy hy=>by rw[(dU t x ρ y).2 (λe=>hy (e▸h))];exact .refl _⟩
theorem ka(ns:List Nm):∀ρ:Rho,keys (freeze ns ρ)=keys ρ
 |[]=>rfl
 |(y,s)::r=>by
  have ih:=ka ns r
  induction s using Mine.Slot.casesOn<;>(show y::keys (freeze ns r)=y::keys r;rw[ih])
theorem oG(ns:List Nm):∀(ρ:Rho) (x:Nm),ju (lk ρ x) (lk (freeze ns ρ) x)
 |[],x => .refl _
 |(y,s)::r,x=>by
  have ih:=oG ns r x;have key:∃s',freeze ns ((y,s)::r)=(y,s')::freeze ns r/\ju s s':=by
   induction s using Mine.Slot.casesOn with
   |own l=>
    refine⟨_,rfl, ?_⟩;cases iM y ns with
    |true=>exact .inr ⟨l,rfl,rfl⟩
    |false=>exact .refl _
   |un=>exact⟨_,rfl, .refl _⟩
   |val v=>exact⟨_,rfl, .refl _⟩
  obtain⟨s',e,hl⟩:=key;rw[e];show ju (bif af x y then s else lk r x) (bif af x y then s' else lk (freeze ns r) x);cases af x y with
  |true=>exact hl
  |false=>exact ih
theorem aX.freeze{ns ms:List Nm}{ρ:Rho}:aX ns ρ (freeze ms ρ):=⟨ka ms ρ,λx _=>oG ms ρ x⟩
theorem vC{ns:List Nm}:∀{ρ0 ρ:Rho},keys ρ=keys ρ0->(∀x,x∉ns->ju (lk ρ0 x) (lk ρ x))->keys (mask ρ0 ρ)=keys ρ0/\∀x,ju (lk ρ0 x) (lk ρ x)->ju (lk ρ0 x) (lk (mask ρ0 ρ) x)
 |[],ρ,hk,_=>by
  have:ρ=[]:=by cases ρ with|nil=>rfl|cons a r=>injections hk
  subst this;exact⟨rfl,λx h=>h⟩
 |(y0,s0)::r0,[],hk,_=>by injections hk
 |(y0,s0)::r0,(y,s)::r,hk,h=>by
  have hk':y=y0/\keys r=keys r0:=by
   injection hk with h1 h2;exact⟨h1,h2⟩
  obtain⟨rfl,hk'⟩:=hk';have key:∃s',mask ((y,s0)::r0) ((y,s)::r)=(y,s')::mask r0 r/\(ju s0 s->ju s0 s'):=by
   induction s0 using Mine.Slot.casesOn with
   |un=>exact⟨.un,rfl,λ_ => .refl _⟩
   |val v=>exact⟨s,rfl,id⟩
   |own l=>exact⟨s,rfl,id⟩
  obtain⟨s',e,hl⟩:=key;have rest:keys (mask r0 r)=keys r0/\∀x,ju (lk r0 x) (lk r x)->ju (lk r0 x) (lk (mask r0 r) x):=mask_aux r0 r hk'
  rw[e];refine⟨by show y::keys (mask r0 r)=y::keys r0;rw[rest.1],λx => ?_⟩;show ju (bif af x y then s0 else lk r0 x) (bif af x y then s else lk r x)->ju (bif af x y then s0 else lk r0 x) (bif af x y then s' else lk (mask r0 r) x);cases af x y with
  |true=>exact hl
  |false=>exact rest.2 x
where mask_aux:∀(r0 r:Rho),keys r=keys r0->keys (mask r0 r)=keys r0/\∀x,ju (lk r0 x) (lk r x)->ju (lk r0 x) (lk (mask r0 r) x)
 |[],ρ,hk=>by
  have:ρ=[]:=by cases ρ with|nil=>rfl|cons a r=>injections hk
  subst this;exact⟨rfl,λx h=>h⟩
 |(y0,s0)::r0,[],hk=>by injections hk
 |(y0,s0)::r0,(y,s)::r,hk=>by
  have hk':y=y0/\keys r=keys r0:=by
   injection hk with h1 h2;exact⟨h1,h2⟩
  obtain⟨rfl,hk'⟩:=hk';have key:∃s',mask ((y,s0)::r0) ((y,s)::r)=(y,s')::mask r0 r/\(ju s0 s->ju s0 s'):=by
   induction s0 using Mine.Slot.casesOn with
   |un=>exact⟨.un,rfl,λ_ => .refl _⟩
   |val v=>exact⟨s,rfl,id⟩
   |own l=>exact⟨s,rfl,id⟩
  obtain⟨s',e,hl⟩:=key;have rest:=mask_aux r0 r hk';rw[e];refine⟨by show y::keys (mask r0 r)=y::keys r0;rw[rest.1],λx => ?_⟩;show ju (bif af x y then s0 else lk r0 x) (bif af x y then s else lk r x)->ju (bif af x y then s0 else lk r0 x) (bif af x y then s' else lk (mask r0 r) x);cases af x y with
  |true=>exact hl
  |false=>exact rest.2 x
theorem aX.mask{ns:List Nm}{ρ0 ρ:Rho}(h:aX ns ρ0 ρ):aX ns ρ0 (mask ρ0 ρ):=
 let m:=vC (ns:=ns) h.keys h.le
 ⟨m.1,λx hx=>m.2 x (h.le x hx)⟩
theorem rm{ns:List Nm}{c:Bool}:∀{a b:Rho},keys a=keys b->keys (et ns c a b)=keys a/\∀x,lk (et ns c a b) x=bif iM x ns then lg c (lk a x) (lk b x)else lh (lk a x) (lk b x)
 |[],[],_=>⟨rfl,λx=>by show Mine.Slot.un=_;cases iM x ns<;>rfl⟩
 |[],(_,_)::_,h=>by injections h
 |(_,_)::_,[],h=>by injections h
 |(y,s)::r,(y',t)::q,h=>by
  have h':y=y'/\keys r=keys q:=by injection h with h1 h2;exact⟨h1,h2⟩
  obtain⟨rfl,h'⟩:=h';have ih:=rm (ns:=ns) (c:=c) h';refine⟨by show y::keys (et ns c r q)=y::keys r;rw[ih.1],λx => ?_⟩;show(bif af x y then(bif iM y ns then lg c s t else lh s t)else lk (et ns c r q) x)=bif iM x ns then lg c (bif af x y then s else lk r x) (bif af x y then t else lk q x)else lh (bif af x y then s else lk r x) (bif af x y then t else lk q x)
  cases e:af x y with
  |true=>rw[ai.mp e];rfl
  |false=>exact ih.2 x
theorem uN{r s t:Mine.Slot}(h1:ju r s)(h2:ju r t):ju r (lh s t)/\ix (lh s t) s/\ix (lh s t) t:=by
 rcases h1 with rfl|⟨l,rfl,rfl⟩
 ·rcases h2 with rfl|⟨l,rfl,rfl⟩
  ·induction t using Mine.Slot.casesOn with
   |un=>exact⟨.refl _, .inl rfl, .inl rfl⟩
   |val v=>exact⟨.refl _, .inr (.inl rfl), .inr (.inl rfl)⟩
   |own l=>exact⟨.refl _, .inr (.inl rfl), .inr (.inl rfl)⟩
  ·exact⟨.inr ⟨l,rfl,rfl⟩, .inr (.inr ⟨l,rfl,rfl⟩), .inr (.inl rfl)⟩
 ·rcases h2 with rfl|⟨l',e,rfl⟩
  ·exact⟨.inr ⟨l,rfl,rfl⟩, .inr (.inl rfl), .inr (.inr ⟨l,rfl,rfl⟩)⟩
  ·injection e with e;subst e
   exact⟨.inr ⟨l,rfl,rfl⟩, .inr (.inl rfl), .inr (.inl rfl)⟩
theorem tC{s t:Mine.Slot}{c:Bool}:ix (lg c s t) (bif c then s else t):=by
 induction s using Mine.Slot.casesOn with
 |val a=>induction t using Mine.Slot.casesOn with
  |val b=>
   show ix (.val (cQ c a b)) _;rw[bo];induction c using Bool.casesOn<;>exact .inr (.inl rfl)
  |_=>exact .inl rfl
 |own a=>induction t using Mine.Slot.casesOn with
  |own b=>induction c using Bool.casesOn<;>exact .inr (.inl rfl)
  |_=>exact .inl rfl
 |un=>exact .inl rfl
theorem ro{ns:List Nm}{c:Bool}{ρ a b:Rho}(ha:aX ns ρ a)(hb:aX ns ρ b):aX ns ρ (et ns c a b)/\∀x,ix (lk (et ns c a b) x) (lk (bif c then a else b) x):=by
 have hk:keys a=keys b:=ha.keys.trans hb.keys.symm;have m:=rm (ns:=ns) (c:=c) hk;refine⟨⟨m.1.trans ha.keys,λx hx => ?_⟩,λx => ?_⟩
 ·rw[m.2 x]
  have:iM x ns=false:=by rw[<-Bool.not_eq_true,mem_iff];exact hx
  rw[this];exact(uN (ha.le x hx) (hb.le x hx)).1
 ·rw[m.2 x]
  cases e:iM x ns with
  |true=>
   have:=tC (s:=lk a x) (t:=lk b x) (c:=c)
   induction c using Bool.casesOn<;>exact this
  |false=>
   have hx:x∉ns:=by rw[<-mem_iff,e];exact Bool.false_ne_true
   have k:=uN (ha.le x hx) (hb.le x hx);cases c
   ·exact k.2.2
   ·exact k.2.1
noncomputable def ak(ns:List Nm)(ρ:Rho):em->Prop
 | .next ρ'=>aX ns ρ ρ'
 | .brk ρ'=>aX ns ρ ρ'
 |_=>True
theorem ak.from{ns:List Nm}{a b:Rho}{o:em}(h:aX ns a b)(x:ak ns b o):ak ns a o:=by
 induction o using em.casesOn with
 |next r=>exact h.trans x
 |brk r=>exact h.trans x
 |_=>trivial
theorem ak.more{ns ms:List Nm}{a:Rho}{o:em}(x:ak ns a o)(h:∀z,z∈ns->z∈ms):ak ms a o:=by
 induction o using em.casesOn with
 |next r=>exact aX.more x h
 |brk r=>exact aX.more x h
 |_=>trivial
theorem ak.seq{ns:List Nm}{ρ:Rho}{r:Res}{k:Rho->Res}(x:ak ns ρ r.2)(y:∀ρ',ak ns ρ' (k ρ').2):ak ns ρ (seq r k).2:=by
 obtain⟨b,o⟩:=r
 induction o using em.casesOn with
 |next r=>exact ak.from x (y r)
 |brk r=>exact x
 |_=>trivial
theorem oH:∀{ts:List Expr} {vs:List V} {ρ:Rho},aX (ts.filterMap nmT) ρ (jx ts vs ρ).2
 |[],[],ρ => .refl _ _
 |[],_::_,ρ => .refl _ _
 |t::ts,vs,ρ=>by
  induction t using Expr.casesOn with
  |Name x p=>induction vs using List.casesOn with
   |nil=>exact .refl _ _
   |cons v vs=>
    rw[iO];exact(aX.put (List.mem_cons_self ..)).trans ((oH (ts:=ts) (vs:=vs)).more λz hz=>List.mem_cons_of_mem _ hz)
  |_=>exact .refl _ _
theorem lW{μ:List Nm}:∀{ts es:List Expr} {vs:List V} {ρ:Rho},aX (ts.filterMap nmT) ρ (dG μ ts es vs ρ).2
 |[],es,vs,ρ=>by induction es using List.casesOn<;>induction vs using List.casesOn<;>exact .refl _ _
 |t::ts,[],vs,ρ=>by induction t using Expr.casesOn<;>exact .refl _ _
 |t::ts,e::es,[],ρ=>by induction t using Expr.casesOn<;>exact .refl _ _
 |t::ts,e::es,v::vs,ρ=>by
  induction t using Expr.casesOn with
  |Name x p=>
   rw[iO];exact(aX.put (List.mem_cons_self ..)).trans ((lW (ts:=ts) (es:=es) (vs:=vs)).more λz hz=>List.mem_cons_of_mem _ hz)
  |_=>exact .refl _ _
theorem rq{t:Expr}{v:V}{ρ:Rho}:aX (az t) ρ (aT t v ρ).2:=by
 induction t using Expr.casesOn with
 |Name x p=>exact aX.put (List.mem_singleton.mpr rfl)
 |Tuple ts k p=>induction v using V.casesOn with
  |tup vs=>exact oH
  |_=>exact .refl _ _
 |_=>exact .refl _ _
theorem iy{v:V}:∀{ts:List Expr} {ρ:Rho},aX (ts.flatMap lq) ρ (qQ v ts ρ).2
 |[],ρ => .refl _ _
 |t::ts,ρ=>by
  induction t using Expr.casesOn with
  |Name x p=>exact(aX.put (List.mem_cons_self ..)).trans ((iy (ts:=ts)).more λz hz=>List.mem_cons_of_mem _ hz)
  |_=>exact .refl _ _
theorem vD{t:Expr}:∀z,z∈az t->z∈lq t:=by
 intro z hz
 induction t using Expr.casesOn<;>first|exact hz|injections hz
theorem xL{E:Expr->R}{κ:List (Str×NameKind)}{μ:List Nm}{ρ:Rho}{ts:List Expr}{e:Expr}{o:Option (List Expr)}:ak (az (.Tuple ts 0 default)) ρ (zi E κ μ ρ ts e o).2:=by
 induction o using Option.casesOn with
 |none=>exact rq (t := .Tuple ts 0 default)
 |some es=>exact lW
theorem vE{ok:Bool}{ρ:Rho}{x:Nm}{k v:R}{s:Mine.Slot}:ak [x] ρ (zh ok ρ x k v s).2:=by
 induction s using Mine.Slot.casesOn with
 |own l=>
  show ak [x] ρ (Bp (ok&&k.1) ρ x l v k.2).2;generalize k.2=j
  induction j using V.casesOn with
  |int j=>exact aX.put (List.mem_singleton.mpr rfl)
  |_=>trivial
 |_=>trivial
theorem xM{E:Expr->R}{κ:List (Str×NameKind)}{μ:List Nm}{ρ:Rho}{t e:Expr}:ak (lq t) ρ (zj E κ μ ρ t e).2:=by
 induction t using Expr.casesOn with
 |Name x p=>exact aX.put (List.mem_singleton.mpr rfl)
 |Tuple ts k p=>exact xL
 |Subscript o i p=>induction o using Expr.casesOn with
  |Name x q=>exact vE
  |_=>trivial
 |_=>trivial
theorem m6{E:Expr->R}{κ:List (Str×NameKind)}{μ:List Nm}{ρ:Rho}{ts:List Expr}{e:Expr}:ak (ts.flatMap lq) ρ (ds E κ μ ρ ts e).2:=by
 induction ts using List.casesOn with
 |nil=>trivial
 |cons t ts=>induction ts using List.casesOn with
  |nil=>
   rw[List.flatMap_cons,List.flatMap_nil,List.append_nil];exact xM
  |cons t2 ts=>induction ts using List.casesOn with
   |nil=>exact iy
   |cons t3 ts=>induction ts using List.casesOn with
    |nil=>exact iy
    |cons _ _=>trivial
theorem tD{E:Expr->R}{κ:List (Str×NameKind)}{Φ:Fns}{ρ:Rho}{t:Expr}{op:Operator}{e:Expr}:ak (lq t) ρ (nF E κ Φ ρ t op e).2:=by
 induction t using Expr.casesOn with
 |Name x p=>exact aX.put (List.mem_singleton.mpr rfl)
 |_=>trivial
theorem vF{ok:Bool}{ρ:Rho}{x:Nm}{v:R}{s:Mine.Slot}:ak [x] ρ (zk ok ρ x v s).2:=by
 induction s using Mine.Slot.casesOn with
 |own l=>exact aX.put (List.mem_singleton.mpr rfl)
 |_=>trivial
theorem rt{E:Expr->R}{κ:List (Str×NameKind)}{ρ:Rho}{e:Expr}:ak (zg e) ρ (lr E κ ρ e).2:=by
 unfold zg lr;generalize qP e=o
 induction o using Option.casesOn with
 |none=>trivial
 |some x=>exact vF
theorem oJ{f:V->Rho->Res}{ns:List Nm}(hf:∀v ρ,ak ns ρ (f v ρ).2):∀(xs:List V) {ρ0 ρ:Rho},aX ns ρ0 ρ->ak ns ρ0 (bK f ρ0 xs ρ).2
 |[],ρ0,ρ,h=>h
 |x::xs,ρ0,ρ,h=>by
  have h1:=hf x ρ;rw[fY];cases e:(f x ρ).2 with
  |next r=>
   rw[e]at h1;exact oJ hf xs (h.trans h1).mask
  |brk r=>
   rw[e]at h1;exact(h.trans h1).mask
  |ret v=>trivial
  |bad=>trivial
theorem kb{t:Rho->R}{f:Rho->Res}{ns:List Nm}(hf:∀ρ,ak ns ρ (f ρ).2):∀(W:Nat) (ρ:Rho),ak ns ρ (bE t f W ρ).2
 |0,ρ=>trivial
 |W+1,ρ=>by
  have h1:=hf ρ;rw[iP];cases(aa (t ρ).2).2 with
  |false=>exact aX.refl _ _
  |true=>
   simp only[cond_true];cases e:(f ρ).2 with
   |next r=>
    rw[e]at h1;exact ak.from h1 (kb hf W r)
   |brk r=>rw[e]at h1;exact h1
   |ret v=>trivial
   |bad=>trivial
theorem qb:∀{k:Nat} {s:Stmt},fits k s=true->fits (k+1) s=true/\c9 (k+1) s=c9 k s
 |0,s,h=>by injections h
 |k+1,s,h=>by
  have lists:∀ss:List Stmt,aq (fits k) ss=true->aq (fits (k+1)) ss=true/\aC (c9 (k+1)) ss=aC (c9 k) ss:=λss=>by
   induction ss with
   |nil=>intro _;exact⟨rfl,rfl⟩
   |cons a r ih=>
    intro hs;have hs':fits k a=true/\aq (fits k) r=true:=ay hs;have h1:=qb hs'.1;have h2:=ih hs'.2;exact⟨Bool.and_eq_true_iff.mpr ⟨h1.1,h2.1⟩,by rw[jA,jA,h1.2,h2.2]⟩
  induction s using Stmt.casesOn with
  |For t it b els p=>
   have h':aq (fits k) b=true:=h;have:=lists b h';exact⟨this.1,by show lq t++aC (c9 (k+1)) b=lq t++aC (c9 k) b;rw[this.2]⟩
  |While t b els p=>
   have h':aq (fits k) b=true:=h;have:=lists b h';exact⟨this.1,this.2⟩
  |If t a b p=>
   have h':(aq (fits k) a&&aq (fits k) b)=true:=h;rw[Bool.and_eq_true]at h';have h1:=lists a h'.1;have h2:=lists b h'.2;exact⟨by show(aq (fits (k+1)) a&&aq (fits (k+1)) b)=true;rw[h1.1,h2.1];rfl,by show aC (c9 (k+1)) a++aC (c9 (k+1)) b=aC (c9 k) a++aC (c9 k) b;rw[h1.2,h2.2]⟩
  |_=>exact⟨rfl,rfl⟩
theorem lX{k:Nat}{s:Stmt}(h:fits k s=true):∀j,fits (k+j) s=true/\c9 (k+j) s=c9 k s
 |0=>⟨h,rfl⟩
 |j+1=>by
  have ih:=lX h j;have:=qb ih.1;exact⟨this.1,this.2.trans ih.2⟩
theorem zM{j k:Nat}{s:Stmt}(h:fits j s=true)(h':fits k s=true):c9 j s=c9 k s:=by
 rcases Nat.le_total j k with e|e
 ·obtain⟨d,rfl⟩:=Nat.le.dest e
  exact(lX h d).2.symm
 ·obtain⟨d,rfl⟩:=Nat.le.dest e
  exact(lX h' d).2
theorem gf{j k:Nat}:∀{ss:List Stmt},aq (fits j) ss=true->aq (fits k) ss=true->aC (c9 j) ss=aC (c9 k) ss
 |[],_,_=>rfl
 |a::r,h,h'=>by
  have h1:fits j a=true/\aq (fits j) r=true:=ay h;have h2:fits k a=true/\aq (fits k) r=true:=ay h';rw[jA,jA,zM h1.1 h2.1,gf h1.2 h2.2]
theorem gh{k:Nat}:∀{ss:List Stmt},aq (fits k) ss=true->aq (fits (k+1)) ss=true
 |[],_=>rfl
 |a::r,h=>by
  have h1:fits k a=true/\aq (fits k) r=true:=ay h;exact Bool.and_eq_true_iff.mpr ⟨(qb h1.1).1,gh h1.2⟩
theorem fx{f:Stmt->Bool}:∀{a b:List Stmt},aq f (a++b)=(aq f a&&aq f b)
 |[],b=>rfl
 |x::a,b=>by rw[List.cons_append,uz,uz,fx (a:=a),Bool.and_assoc]
theorem gi{f:Stmt->List Nm}:∀{a b:List Stmt},aC f (a++b)=aC f a++aC f b
 |[],b=>rfl
 |x::a,b=>by rw[List.cons_append,jA,jA,gi (a:=a),List.append_assoc]
theorem tE{ns:List Nm}{okc c:Bool}{a b:Res}:(∃ra rb,a.2 = .next ra/\b.2 = .next rb/\(nG ns okc c a b).2 = .next (et ns c ra rb))\/(nG ns okc c a b).2 = .bad:=by
 obtain⟨a1,a2⟩:=a;obtain⟨b1,b2⟩:=b
 induction a2 using em.casesOn with
 |next ra=>induction b2 using em.casesOn with
  |next rb=>exact .inl ⟨ra,rb,rfl,rfl,rfl⟩
  |_=>exact .inr rfl
 |_=>exact .inr rfl
theorem qc{Φ:Fns}{τ:Tau}{μ:List Nm}{W:Nat}{κ:List (Str×NameKind)}:∀(n:Nat) (ss:List Stmt) (ρ:Rho) (k:Nat),aq (fits k) ss=true->ak (aC (c9 k) ss) ρ (ex Φ τ μ W κ n ss ρ).2
 |0,ss,ρ,k,_=>trivial
 |n+1,[],ρ,k,_=>aX.refl _ _
 |n+1,s::rest,ρ,0,h=>by
  have h1:(fits 0 s&&aq (fits 0) rest)=true:=h;exact ab h1
 |n+1,s::rest,ρ,k+1,h=>by
  have ih:=qc (Φ:=Φ) (τ:=τ) (μ:=μ) (W:=W) (κ:=κ) n;have h1:fits (k+1) s=true/\aq (fits (k+1)) rest=true:=ay h;have inR:∀z,z∈aC (c9 (k+1)) rest->z∈aC (c9 (k+1)) (s::rest):=λz hz=>List.mem_append_right _ hz
  have inS:∀z,z∈c9 (k+1) s->z∈aC (c9 (k+1)) (s::rest):=λz hz=>List.mem_append_left _ hz
  have tail:∀ρ',ak (aC (c9 (k+1)) (s::rest)) ρ' (ex Φ τ μ W κ n rest ρ').2:=λρ'=>(ih rest ρ' (k+1) h1.2).more inR
  induction s using Stmt.casesOn with
  |Assign ts e p=>exact ak.from aX.freeze (ak.seq (m6.more inS) tail)
  |AugAssign t op e p=>exact ak.from aX.freeze (ak.seq (tD.more inS) tail)
  |Expr e p=>exact ak.from aX.freeze (ak.seq (rt.more inS) tail)
  |Pass p=>exact tail ρ
  |Break p=>exact aX.refl _ _
  |Return v p=>induction v using Option.casesOn<;>trivial
  |If t a b p=>
   have h2:aq (fits k) a=true/\aq (fits k) b=true:=by
    have:(aq (fits k) a&&aq (fits k) b)=true:=h1.1
    rwa [Bool.and_eq_true]at this
   have ea:aC (c9 (k+1)) a=aC (c9 k) a:=gf (gh h2.1) h2.1;have eb:aC (c9 (k+1)) b=aC (c9 k) b:=gf (gh h2.2) h2.2;have inA:∀z,z∈aC (c9 k) a->z∈aC (c9 (k+1)) (.If t a b p::rest):=λz hz=>inS z (List.mem_append_left _ hz)
   have inB:∀z,z∈aC (c9 k) b->z∈aC (c9 (k+1)) (.If t a b p::rest):=λz hz=>inS z (List.mem_append_right _ hz)
   refine ak.from aX.freeze (b:=freeze (aB 40 t) ρ) ?_;show ak _ (freeze (aB 40 t) ρ) (bif aI a&&aI b&&aq (fits 20) a&&aq (fits 20) b then _ else _:Res).2;cases hc:(aI a&&aI b&&aq (fits 20) a&&aq (fits 20) b)with
   |true=>
    simp only[cond_true];simp only[Bool.and_eq_true]at hc;refine ak.seq ?_ tail;have sa:=ih a (freeze (aB 40 t) ρ) k h2.1;have sb:=ih b (freeze (aB 40 t) ρ) k h2.2
    rcases tE (ns:=aC (c9 20) a++aC (c9 20) b) (okc:=(ev Φ τ 40 κ (freeze (aB 40 t) ρ) t).1&&(aa (ev Φ τ 40 κ (freeze (aB 40 t) ρ) t).2).1) (c:=(aa (ev Φ τ 40 κ (freeze (aB 40 t) ρ) t).2).2) (a:=ex Φ τ μ W κ n a (freeze (aB 40 t) ρ)) (b:=ex Φ τ μ W κ n b (freeze (aB 40 t) ρ))with⟨ra,rb,e1,e2,ej⟩|ej
    ·rw[ej]
     rw[e1]at sa;rw[e2]at sb;have e20:aC (c9 20) a++aC (c9 20) b=aC (c9 k) a++aC (c9 k) b:=by rw[gf hc.1.2 h2.1,gf hc.2 h2.2]
     rw[e20];have sa':aX (aC (c9 k) a++aC (c9 k) b) (freeze (aB 40 t) ρ) ra:=aX.more sa λz hz=>List.mem_append_left _ hz
     have sb':aX (aC (c9 k) a++aC (c9 k) b) (freeze (aB 40 t) ρ) rb:=aX.more sb λz hz=>List.mem_append_right _ hz
     exact(ro sa' sb').1.more λz hz=>by
      rcases List.mem_append.mp hz with hz|hz
      ·exact inA z hz
      ·exact inB z hz
    ·rw[ej];trivial
   |false=>
    simp only[cond_false];unfold iQ;have fa:aq (fits (k+1)) (a++rest)=true:=by rw[fx,gh h2.1,h1.2];rfl
    have fb:aq (fits (k+1)) (b++rest)=true:=by rw[fx,gh h2.2,h1.2];rfl
    have sa:=(ih (a++rest) (freeze (aB 40 t) ρ) (k+1) fa).more (ms:=aC (c9 (k+1)) (.If t a b p::rest)) λz hz=>by
     rw[gi,ea]at hz
     rcases List.mem_append.mp hz with hz|hz
     ·exact inA z hz
     ·exact inR z hz
    have sb:=(ih (b++rest) (freeze (aB 40 t) ρ) (k+1) fb).more (ms:=aC (c9 (k+1)) (.If t a b p::rest)) λz hz=>by
     rw[gi,eb]at hz
     rcases List.mem_append.mp hz with hz|hz
     ·exact inB z hz
     ·exact inR z hz
    dsimp only;cases(aa (ev Φ τ 40 κ (freeze (aB 40 t) ρ) t).2).2 with
    |true=>exact sa
    |false=>exact sb
  |For t it b els p=>
   induction els using List.casesOn with
   |cons _ _=>trivial
   |nil=>
    have h2:aq (fits k) b=true:=h1.1;refine ak.from aX.freeze (b:=freeze (aB 40 it) ρ) (ak.seq ?_ tail);generalize freeze (aB 40 it) ρ=ρ1;refine ak.more (ns:=lq t++aC (c9 k) b) ?_ inS;dsimp only;refine oJ (λv ρ' => ?_) _ (aX.refl _ ρ1);dsimp only;exact ak.from ((rq).more λz hz=>List.mem_append_left _ (vD z hz)) ((ih b _ k h2).more λz hz=>List.mem_append_right _ hz)
  |While t b els p=>
   induction els using List.casesOn with
   |cons _ _=>trivial
   |nil=>
    have h2:aq (fits k) b=true:=h1.1;refine ak.from aX.freeze (b:=freeze (aB 40 t) ρ) (ak.seq ?_ tail);generalize freeze (aB 40 t) ρ=ρ1;exact(kb (λρ'=>ih b ρ' k h2) W ρ1).more inS
  |_=>trivial
theorem ke{x:Nm}:∀{ρ:Rho},x∉keys ρ->lk ρ x = .un
 |[],_=>rfl
 |(y,s)::r,h=>by
  have h':x≠y/\x∉keys r:=by simpa[keys]using h
  show(bif af x y then s else lk r x)=_;have:af x y=false:=by rw[<-Bool.not_eq_true,ai];exact h'.1
  rw[this];exact ke h'.2
theorem kf{x:Nm}{t:Mine.Slot}:∀{ρ:Rho},x∈keys ρ->lk (put ρ x t) x=t
 |[],h=>by injections h
 |(y,s)::r,h=>by
  rw[wU];cases c:af x y with
  |true=>
   show(bif af x y then t else lk r x)=t;rw[c];rfl
  |false=>
   show(bif af x y then s else lk (put r x t) x)=t;rw[c];have h':x∈keys r:=by
    rcases List.mem_cons.mp h with e|h
    ·rw[ai.mpr e]at c;cases c
    ·exact h
   exact kf h'
section
variable {G:Cfg} {A:Around} {env:Env} {X:Addr->Prop} {κ:List (Str×NameKind)} {ρ:Rho} {O:Nm->Option Addr} {Φ:Fns}
noncomputable def da(G:Cfg)(env:Env)(X:Addr->Prop)(O:Nm->Option Addr)(s:Shared):em->Flow->Shared->Prop
 | .next ρ', .next,s'=>∃O',bJ G env X O' ρ' s'.heap/\Mv env O O' s s'
 | .brk ρ', .brk,s'=>∃O',bJ G env X O' ρ' s'.heap/\Mv env O O' s s'
 | .ret v, .ret u,s'=>∃O',ah G (ag env X O') s'.heap v u/\Mv env O O' s s'
 |_,_,_=>False
theorem da.from{O':Nm->Option Addr}{s s' s'':Shared}{o:em}{f:Flow}(m:Mv env O O' s s')(h:da G env X O' s' o f s''):da G env X O s o f s'':=by
 induction o using em.casesOn<;>cases f<;>first|exact h.elim|(obtain⟨O2,h1,h2⟩:=h;exact⟨O2,h1,m.trans h2⟩)
noncomputable def db(G:Cfg)(A:Around)(env:Env)(X:Addr->Prop)(ρ:Rho)(t:Sem Flow)(r:Res):Prop:=
 r.1=true->∀O s,bJ G env X O ρ s.heap->∀(E:Value->Shared->Prop) (Q:Flow->Shared->Prop),(∀f s',da G env X O s r.2 f s'->Q f s')->wpAny (model G.p G.w) A t Q E s
theorem bA{x:Nm}{b:Addr}{P:Addr->Prop}(h:ag env P (upd O x none) b):ag env P O b:=by
 rcases h with h|h|⟨y,h⟩
 ·exact .inl h
 ·exact .inr (.inl h)
 ·unfold upd at h
  split at h
  ·injections h
  ·exact .inr (.inr ⟨y,h⟩)
theorem tF{s s1:Shared}(k:Keeps s s1){h':Heap}{tk:Nat}{x:Str}(kp:∀b o,¬eB env x b->s1.heap.get? b=some o->h'.get? b=some o):Mv env O (upd O (nm x) none) s { s1 with heap:=h',toks:=tk }:=by
 obtain⟨h1,t1,rfl,k1⟩:=k;exact⟨h',tk,rfl,λb o nb e=>kp b o (λpl=>nb (.inr (.inl pl.own))) (k1 b o e),λb o _ f=>bA f⟩
theorem kg{E:Expr->R}(En:am env κ){x:Str}{p pos:Pos}{e:Expr}{v:V}(he:gF G A env X ρ (eval e env) v)(hx:ae (kd κ (nm x))=true)(hs:swapsWith e (some (.Name x p)) pos.line env=pure false):
 db G A env X ρ (exec (.Assign [.Name x p] e pos) env) (true, .next (put ρ (nm x) (.val v))):=by
 intro _ O s S E' Q q;refine wpAny_Assign_Name (he O s S _ _ λu s1 k1 r1=>bp (S.keeps (Kp.keep k1)) En hx r1 λh' tk S' kp al => ?_) hs;exact q _ _ ⟨_,S',tF k1 kp⟩
theorem i4(S:bJ G env X O ρ h){a:Addr}(d:h.get? a=none){b:Addr}(f:ag env X O b):b≠a:=λe=>by
 subst e;obtain⟨o,e'⟩:=S.alive b f;rw[d]at e';cases e'
theorem tG{x:Str}{p pos:Pos}{e:Expr}{l:List V}(En:am env κ)(he:j6 G A env X ρ (eval e env) l)(hx:ae (kd κ (nm x))=true)(hs:swapsWith e (some (.Name x p)) pos.line env=pure false):
 db G A env X ρ (exec (.Assign [.Name x p] e pos) env) (true, .next (put ρ (nm x) (.own l))):=by
 intro _ O s S E' Q q;refine wpAny_Assign_Name (he O s S _ _ λa vs m s1 k1 d el rl => ?_) hs;obtain⟨S1,on1⟩:=S.more (Kp.keep k1) (Z:=λb=>b=a) λb hb=>by rw[hb];exact⟨d,_,el⟩
 have ne:=λb (f:ag env X O b)=>i4 S d f
 refine oE (l:=l) (X:=X) (X1:=λb=>X b\/b=a) S1 En hx (.inr rfl) (λb hb=>⟨.inl hb,ne b (.inl hb)⟩) (λh=>ne a (.inr (.inl h)) rfl) el ?_ λh' tk S' kp al => ?_
 ·refine Reps.on ⟨λ_ _ _ e=>e,λb o _ f => ?_⟩ rl
  rcases f with(f|f)|f|f
  ·exact .inl (.inl f)
  ·exact .inr f
  ·exact .inl (.inr (.inl f))
  ·exact .inl (.inr (.inr f))
 ·refine q _ _ ⟨_,S', ?_⟩
  obtain⟨h1,t1,e1,kk⟩:=k1;subst e1;refine⟨h',tk,rfl,λb o nb e=>kp b o (λpl=>nb (.inr (.inl pl.own))) (kk b o e),λb o e f => ?_⟩
  rcases f with f|f|⟨y,f⟩
  ·exact .inl f
  ·exact .inr (.inl f)
  ·unfold upd at f
   split at f
   ·injection f with f;subst f;rw[d]at e;injections e
   ·exact .inr (.inr ⟨y,f⟩)
theorem xN {E:Ev} (En:am env κ) (GE:ar G A env X ρ (E κ ρ)) {es:List Expr} {b:Expr} {p pos:Pos} {l:List V} {n:Int}
 (o1:(E κ ρ (.List es p)).1=true) (o2:(E κ ρ b).1=true) (e1:(E κ ρ (.List es p)).2 = .list l) (e2:(E κ ρ b).2 = .int n) (hn : -1000<=n/\n<=1000) (hl:l.length<=1000):
 j6 G A env X ρ (eval (.BinOp (.List es p) .Mult b pos) env) (ei l n):=by
 intro O s S E' Q q;refine wpAny_BinOp (GE.ok _ o1 O s S _ _ λu s1 k1 r1=>GE.ok b o2 O s1 (S.keeps (Kp.keep k1)) _ _ λv s2 k2 r2 => ?_);rw[e1]at r1;rw[e2]at r2;obtain⟨t,rfl⟩:=ah.int_iff.mp r2;refine ly (Seen.of (r1.on (On.of_keeps (Kp.keep k2)))) hn.2 ⋯ hl _ _ λvs tk r => ?_
 refine q _ vs.toArray 0 _ (Kp.trans k1 (Kp.trans k2 (Kp.push s2 _ tk))) ?_ (Heap.get?_push_size _ rfl) ?_
 ·cases e:s.heap.get? s2.heap.objs.size with
  |none=>rfl
  |some o=>exact absurd (Heap.lt_size (Kp.keep k2 _ o (Kp.keep k1 _ o e))) (Nat.lt_irrefl _)
 ·exact Reps.addNew (by simpa using r) (dg _ _) (aW _ (Nat.le_refl _))
theorem zN {E:Ev} (Fa:av G A Φ) (En:am env κ) (GE:ar G A env X ρ (E κ ρ)) {a b:Expr} {pos:Pos} {l l':List V}
 (o1:(look κ ρ (E κ ρ) a).1=true) (o2:(E κ ρ b).1=true) (e1:(look κ ρ (E κ ρ) a).2 = .list l) (e2:(E κ ρ b).2 = .list l') (hl:l.length+l'.length<=cap):
 j6 G A env X ρ (eval (.BinOp a .Add b pos) env) (l++l'):=by
 intro O s S E' Q q;refine wpAny_BinOp (kQ Fa En GE o1 O s S _ _ λu s1 k1 r1=>GE.ok b o2 O s1 (S.keeps (Kp.keep k1)) _ _ λv s2 k2 r2 => ?_);rw[e1]at r1;rw[e2]at r2;refine lx (r1.keeps (Kp.keep k2)) r2 hl _ _ λvs tk r => ?_
 refine q _ vs.toArray 0 _ (Kp.trans k1 (Kp.trans k2 (Kp.push s2 _ tk))) ?_ (Heap.get?_push_size _ rfl) ?_
 ·cases e:s.heap.get? s2.heap.objs.size with
  |none=>rfl
  |some o=>exact absurd (Heap.lt_size (Kp.keep k2 _ o (Kp.keep k1 _ o e))) (Nat.lt_irrefl _)
 ·exact Reps.addNew (by simpa using r) (dg _ _) (aW _ (Nat.le_refl _))
noncomputable def cV:Expr->Bool
 | .ListComp _ _ _ _=>true
 | .SetComp _ _ _ _=>true
 | .DictComp _ _ _ _ _=>true
 |_=>false
inductive hJ:Expr->Prop
 |list (es:List Expr) (p:Pos):hJ (.List es p)
 |mult (es:List Expr) (p:Pos) (b:Expr) (q:Pos):hJ (.BinOp (.List es p) .Mult b q)
 |add (a b:Expr) (q:Pos):hJ (.BinOp a .Add b q)
 |range (p q:Pos) (bs:List Expr) (r s:Pos):hJ (.Call (.Name "list" p) [.Call (.Name "range" q) bs [] r] [] s)
theorem vG{a b:Expr}{p:Pos}(h:uA a=true):hJ (.BinOp a .Mult b p):=by
 induction a using Expr.casesOn with
 |List es q=>exact .mult es q b p
 |_=>exact ab h
theorem tH{e:Expr}(h:w8 (fo e)=true):hJ e:=by
 generalize c:fo e=o at h
 induction o using Option.casesOn with
 |none=>exact ab h
 |some x=>
  obtain⟨p,q,rfl⟩:=ga c;have h:=ay h;obtain⟨bs,hb⟩:=Option.isSome_iff_exists.mp h.2;obtain⟨p',q',e2⟩:=iZ hb;rw[e2,g8 h.1];exact .range p p' bs q' q
theorem lY{e:Expr}(h:fW e=true):hJ e:=by
 induction e using Expr.casesOn with
 |List es p=>exact .list es p
 |BinOp a op b q=>induction op using Operator.casesOn with
  |Add=>exact .add a b q
  |Mult=>exact vG h
  |_=>exact ab h
 |_=>exact tH h
theorem xO{xs l:List V}{v:V}(ok:(bW .Mult (.list xs) v).1=true)(h:(bW .Mult (.list xs) v).2 = .list l):∃i,v = .int i/\uq i xs.length=true/\ei xs i=l:=by
 induction v using V.casesOn with
 |int i=>exact⟨i,rfl,ok,V.list.inj h⟩
 |_=>exact ab ok
theorem zO{l:List V}{u v:V}(ok:(bW .Add u v).1=true)(h:(bW .Add u v).2 = .list l):∃xs ys,u = .list xs/\v = .list ys/\xs.length+ys.length<=cap/\xs++ys=l:=by
 induction u using V.casesOn with
 |list xs=>induction v using V.casesOn with
  |list ys=>exact⟨xs,ys,rfl,rfl,of_decide_eq_true ok,V.list.inj h⟩
  |_=>exact ab ok
 |int i=>induction v using V.casesOn with
  |int j=>injections h
  |_=>exact ab ok
 |str i=>induction v using V.casesOn with
  |str j=>injections h
  |_=>exact ab ok
 |_=>exact ab ok
theorem xP(Fa:av G A Φ)(En:am env κ){τ:Tau}{n:Nat}{e:Expr}{l:List V}(hf:fW e=true)(ok:(ev Φ τ (n+2) κ ρ e).1=true)(hv:(ev Φ τ (n+2) κ ρ e).2 = .list l):j6 G A env X ρ (eval e env) l:=by
 have GE:=(fw Fa τ (n+1) κ env X ρ En).1
 rcases lY hf with⟨es,p⟩|⟨es,p,b,q⟩|⟨a,b,q⟩|⟨p,q,bs,r,s⟩
 ·rw[<-V.list.inj hv]
  exact rk GE ok
 ·have o2:=ay ok
  have o1:=ay o2.1;obtain⟨i,hb,ht,e⟩:=xO (xs:=(cy (ev Φ τ n κ ρ) es).2) o2.2 hv;have ht:=dS ht;rw[<-e];exact xN En GE o1.1 o1.2 rfl hb ⟨ht.1,ht.2.1⟩ ht.2.2
 ·have o2:=ay ok
  have o1:=ay o2.1;obtain⟨xs,ys,ha,hb,hl,e⟩:=zO o2.2 hv;rw[<-e];exact zN Fa En GE o1.1 o1.2 ha hb hl
 ·obtain⟨l',e,h⟩:=oj (p:=p) (p':=q) (q':=r) (pos:=s) Fa En GE ok
  rw[<-V.list.inj (e.symm.trans hv)];exact h
theorem i5{e:Expr}(h:cV e=false)(t:Expr)(k:Nat):swapsWith e (some t) k env=pure false:=by
 induction e using Expr.casesOn<;>first|rfl|exact ab h.symm
theorem hJ.comp{e:Expr}(h:hJ e):cV e=false:=by
 induction h using hJ.casesOn<;>rfl
noncomputable def Em(e:Expr):Prop:=∃elt gs scope p,e = .ListComp elt gs scope p
theorem vH{τ:Tau}{n:Nat}{e:Expr}(h:cV e=true)(ok:(ev Φ τ (n+1) κ ρ e).1=true):Em e:=by
 induction e using Expr.casesOn with
 |ListComp elt gs scope p=>exact⟨elt,gs,scope,p,rfl⟩
 |SetComp elt gs scope p=>exact ab ok
 |DictComp a b gs scope p=>exact ab ok
 |_=>exact ab h
theorem rx (Fa:av G A Φ) (En:am env κ) {E:Ev} (GE:∀κ env X ρ,am env κ->ar G A env X ρ (E κ ρ)) (GT:∀κ env X ρ,am env κ->g9 G A env X ρ (E κ ρ)) {elt:Expr} {gs:List Comprehension} {scope:Scope} {cp p pos:Pos} {x:Str}
 (ok:(ik E κ ρ elt gs scope).1=true) (hx:ae (kd κ (nm x))=true):db G A env X ρ (exec (.Assign [.Name x p] (.ListComp elt gs scope cp) pos) env) (true, .next (put ρ (nm x) (.val (ik E κ ρ elt gs scope).2))):=by
 intro _ O s S E' Q q;have hsw:swapsWith (.ListComp elt gs scope cp) (some (.Name x p)) pos.line env=pure (env.blockKind == .function&&env.kindOf x==some .local&&p.line==cp.line && !(scope.names.any λ(n,k)=>n==x&&(k == .local||k == .cell))):=rfl;cases hb:(env.blockKind == .function&&env.kindOf x==some .local&&p.line==cp.line && !(scope.names.any λ(n,k)=>n==x&&(k == .local||k == .cell)))with
 |false=>
  rw[hb]at hsw;exact kg (E:=E κ ρ) En (j9 Fa En GE GT ok) hx hsw rfl O s S E' Q q
 |true=>
  rw[hb]at hsw;rw[exec_Assign_Name_used _ _ _ _ hsw];refine wpAny_bind (wpAny_standAt (wpAny_bind ?_));show wpAny _ A (do let _ <-comprehension (.ListComp elt gs scope cp) scope env (firstIterPos gs cp) (newList []) (firstAsync gs) (firstIter gs env) (some (assign (.Name x p) env))) _ _ s;obtain⟨res,e,run⟩:=oA (pos:=cp) (use:=some (assign (.Name x p) env)) (Q:=λ_ s'=>Q .next s') (E':=E') Fa En GE GT ok S;rw[e]at q;refine wpAny_bind (wpAny_mono (run λacc C s' Rn => ?_) (λ_ s' hq=>wpAny_pure (wpAny_pure hq)) λ_ _ e=>e);obtain⟨us,m,el,rl⟩:=Rn.lst;obtain⟨m',hns⟩:=Rn.ns;have alC:∃o,s'.heap.get? C=some o:=by obtain⟨o,_,_,eo,_⟩:=hns;exact⟨o,eo⟩
  obtain⟨S1,on1⟩:=S.more (Kp.keep Rn.keeps) (Z:=λb=>b=C) λb hb=>by rw[hb];exact⟨Rn.loc,alC⟩
  have neC:=λb (f:ag env X O b)=>i4 S Rn.loc f
  have neA:=λb (f:ag env X O b)=>i4 S Rn.dead f
  refine wpAny_assign_Name (bp S1 En hx (v := .list res) (ah.list_iff.mpr ⟨acc,us,rfl,λfa => ?_,⟨_,el,rfl,_,rfl⟩,Reps.on ⟨λ_ _ _ e=>e,λb o _ f => ?_⟩ rl⟩) λh' tk S' kp al => ?_)
  ·rcases fa with(f|f)|f|f
   ·exact neA _ (.inl f) rfl
   ·exact Rn.ne f.symm
   ·exact neA _ (.inr (.inl f)) rfl
   ·exact neA _ (.inr (.inr f)) rfl
  ·rcases f with(f|f)|f|f
   ·exact .inl (.inl f)
   ·exact .inr (.inr f)
   ·exact .inl (.inr (.inl f))
   ·exact .inl (.inr (.inr f))
  ·have nplC:¬eB env x C:=λpl=>neC C (.inr (.inl pl.own)) rfl
   refine⟨m', ?_,λh'' hs => ?_⟩
   ·obtain⟨o,es,ep,eo,r⟩:=hns
    exact⟨o,es,ep,kp _ _ nplC eo,r⟩
   ·have S2:bJ G env X (upd O (nm x) none) (put ρ (nm x) (.val (.list res))) h'':=
     S'.less (Z:=λb=>b=C) (λb hb => .inr hb) (λb hb=>⟨.inl hb,neC b (.inl hb)⟩) (λb hb=>neC b (.inr (.inl hb))) λb o nb e=>(hs.2 b nb).trans e
    refine q _ _ ⟨_,S2, ?_⟩;obtain⟨h1,t1,e1,kk⟩:=Rn.keeps;subst e1;refine⟨h'',tk,rfl,λb o nb e=>(hs.2 b λh => ?_).trans (kp b o (λpl=>nb (.inr (.inl pl.own))) (kk b o e)),λb o _ f=>bA f⟩;rw[h,Rn.loc]at e;injections e
end
end
section
open PySem PySem.W PySem.Calls PyProof.Rows
noncomputable abbrev fy:=Str×Option V×Value
noncomputable def ry:Option V->Mine.Slot
 |some v => .val v
 |none => .own []
noncomputable def qd:List fy->Rho->Rho
 |[],ρ=>ρ
 |tr::L,ρ=>qd L (put ρ (nm tr.1) (ry tr.2.1))
noncomputable def di(L:List fy)(b:Addr):Prop:=∃tr∈L,tr.2.1=none/\tr.2.2 = .ref b
noncomputable def xQ(h:Heap)(u:Value):Prop:=∃a m,u = .ref a/\h.get? a=some { cls := .type "list",data := .seq #[] m }
noncomputable def lZ(G:Cfg)(P:Addr->Prop)(h:Heap)(tr:fy):Prop:=match tr.2.1 with
 |some v=>ah G P h v tr.2.2
 |none=>xQ h tr.2.2
noncomputable def xR(L:List fy):Prop:=L.Pairwise λp q=>p.2.1=none->q.2.1=none->p.2.2≠q.2.2
noncomputable def jL(G:Cfg)(A:Around)(env:Env)(f:Value->Sem Unit)(tr:fy):Prop:=
 ∀(s:Shared) (E:Value->Shared->Prop) (Q:Unit->Shared->Prop),wpAny (model G.p G.w) A (storeName env tr.1 tr.2.2) Q E s->wpAny (model G.p G.w) A (f tr.2.2) Q E s
section
variable {G:Cfg} {A:Around} {env:Env} {X:Addr->Prop} {κ:List (Str×NameKind)} {ρ:Rho} {O:Nm->Option Addr} {Φ:Fns}
theorem lZ.on{P P':Addr->Prop}{h h':Heap}{tr:fy}(e:On P P' h h')(k:∀a,tr.2.2 = .ref a->tr.2.1=none->∀o,h.get? a=some o->h'.get? a=some o)(t:lZ G P h tr):lZ G P' h' tr:=by
 obtain⟨x,sl,u⟩:=tr
 induction sl using Option.casesOn with
 |some v=>exact ah.on e t
 |none=>
  obtain⟨a,m,eu,el⟩:=show xQ h u from t;exact⟨a,m,eu,k a eu rfl _ el⟩
theorem dj{tr:fy}{L:List fy}{b:Addr}(h:di L b):di (tr::L) b:=let⟨x,m,r⟩:=h;⟨x,List.mem_cons_of_mem _ m,r⟩
theorem rz{b:Addr}:¬di [] b:=λ⟨_,m,_⟩=>nomatch m
theorem i6{x:Str}{v:V}{u:Value}{L:List fy}{b:Addr}(h:di ((x,some v,u)::L) b):di L b:=by
 obtain⟨t,m,ho,e⟩:=h
 rcases List.mem_cons.mp m with rfl|m
 ·exact ao ho.symm
 ·exact⟨t,m,ho,e⟩
theorem Da{P P':Addr->Prop}{b:Addr}(h:P b->P' b)(f:ag env P O b):ag env P' O b:=f.imp h id
theorem tI (En:am env κ) {L:List fy} {O:Nm->Option Addr} {ρ:Rho} {s:Shared} {fs:List (Value->Sem Unit)} (S:bJ G env (λb=>X b\/di L b) O ρ s.heap) (hT:∀tr∈L,lZ G (ag env (λb=>X b\/di L b) O) s.heap tr) (hA:xR L)
 (hx:∀tr∈L,ae (kd κ (nm tr.1))=true) (hW:∀b,di L b->¬X b/\¬du env b) (hf:jB (jL G A env) fs L) {E:Value->Shared->Prop} {Q:Unit->Shared->Prop}
 (q:∀O' h' tk,bJ G env X O' (qd L ρ) h'->(∀b o,¬du env b->s.heap.get? b=some o->h'.get? b=some o)->(∀b,ag env jt O' b->ag env jt O b\/di L b)->Q () { s with heap:=h',toks:=tk }):
 wpAny (model G.p G.w) A (assignInOrder fs (L.map λtr=>tr.2.2)) Q E s:=by
 induction L generalizing O ρ s fs with
 |nil=>cases hf with
  |nil=>
   have:(λb=>X b\/di [] b)=X:=funext λb=>propext ⟨λh=>h.elim id λw=>(rz w).elim, .inl⟩
   rw[this]at S;exact wpAny_pure (q O s.heap s.toks S (λ_ _ _ e=>e) λb f => .inl f)
 |cons tr L ih=>cases hf with
  |cons h1 hr=>
   obtain⟨hA1,hA2⟩:=List.pairwise_cons.mp hA;refine wpAny_assignInOrder_more (h1 s _ _ ?_);have ht:=hT tr (List.mem_cons_self ..);have hx1:=hx tr (List.mem_cons_self ..);have cont:∀(O1:Nm->Option Addr) (h':Heap) (tk:Nat),bJ G env (λb=>X b\/di L b) O1 (put ρ (nm tr.1) (ry tr.2.1)) h'->(∀b o,¬eB env tr.1 b->s.heap.get? b=some o->h'.get? b=some o) ->
    (∀b,ag env (λb=>X b\/di L b) O1 b->ag env (λb=>X b\/di (tr::L) b) O b)->(∀b,ag env jt O1 b->ag env jt O b\/di (tr::L) b) ->
    wpAny (model G.p G.w) A (assignInOrder _ (L.map λtr=>tr.2.2)) Q E { s with heap:=h',toks:=tk }:=λO1 h' tk S1 kp sub subN=>by
    refine ih (s:={ s with heap:=h',toks:=tk }) S1 (λt m=>(hT t (List.mem_cons_of_mem _ m)).on ⟨λb o nb e=>kp b o (λpl=>nb (.inr (.inl pl.own))) e,λb o _ f=>sub b f⟩ λa ea ho o eo=>kp a o (λpl=>(hW a ⟨t,List.mem_cons_of_mem _ m,ho,ea⟩).2 pl.own) eo) hA2
     (λt m=>hx t (List.mem_cons_of_mem _ m)) (λb hb=>hW b (dj hb)) hr λO' h2 tk2 S2 kp2 sub2 => ?_
    exact q O' h2 tk2 S2 (λb o nb e=>kp2 b o nb (kp b o (λpl=>nb pl.own) e)) λb f=>(sub2 b f).elim (subN b) λf => .inr (dj f)
   obtain⟨x,sl,u⟩:=tr
   induction sl using Option.casesOn with
   |some v=>
    have eW:(λb=>X b\/di ((x,some v,u)::L) b)=λb=>X b\/di L b:=funext λb=>propext ⟨λh=>h.imp id i6,λh=>h.imp id dj⟩
    rw[eW]at S;have ht:ah G (ag env (λb=>X b\/di ((x,some v,u)::L) b) O) s.heap v u:=ht;rw[eW]at ht cont;exact bp S En hx1 ht λh' tk S1 kp al=>cont _ h' tk S1 kp (λb f=>bA f) λb f => .inl (bA f)
   |none=>
    obtain⟨a,m,eu,el⟩:=show xQ s.heap u from ht;have eu:u = .ref a:=eu;subst eu;have wa:di ((x,none, .ref a)::L) a:=⟨_,List.mem_cons_self ..,rfl,rfl⟩;have na:¬di L a:=λ⟨t,mt,ho,e⟩=>hA1 t mt rfl ho e.symm
    refine oE (l:=[]) (vs := #[]) (X:=λb=>X b\/di L b) S En hx1 (.inr wa) (λb hb=>⟨hb.imp id dj,λe=>(e▸hb).elim (hW a wa).1 na⟩) (hW a wa).2 el Reps.nil λh' tk S1 kp al=>cont _ h' tk S1 kp (λb f => ?_) λb f => ?_
    ·rcases f with(f|f)|f|⟨y,f⟩
     ·exact .inl (.inl f)
     ·exact .inl (.inr (dj f))
     ·exact .inr (.inl f)
     ·unfold upd at f
      split at f
      ·injection f with f;subst f;exact .inl (.inr wa)
      ·exact .inr (.inr ⟨y,f⟩)
    ·rcases f with f|f|⟨y,f⟩
     ·exact .inl (.inl f)
     ·exact .inl (.inr (.inl f))
     ·unfold upd at f
      split at f
      ·injection f with f;subst f;exact .inr wa
      ·exact .inl (.inr (.inr ⟨y,f⟩))
theorem i7:∀(L:List fy) (ρ:Rho) (y:Nm),(∀tr∈L,y≠nm tr.1)->lk (qd L ρ) y=lk ρ y
 |[],_,_,_=>rfl
 |tr::L,ρ,y,h=>(i7 L _ y λt m=>h t (List.mem_cons_of_mem _ m)).trans ((dU _ _ ρ y).2 (h tr (List.mem_cons_self ..)))
theorem uO(L:List fy):∀(ρ:Rho),(L.map λtr=>nm tr.1).Nodup->∀tr∈L,lk (qd L ρ) (nm tr.1)=if nm tr.1∈keys ρ then ry tr.2.1 else .un:=by
 induction L with
 |nil=>exact λ_ _ _ m=>nomatch m
 |cons tr L ih=>
  intro ρ hn t m;rw[List.map_cons,List.nodup_cons]at hn
  rcases List.mem_cons.mp m with rfl|m
  ·show lk (qd L (put ρ (nm t.1) (ry t.2.1))) (nm t.1)=_
   rw[i7 L _ _ λt' m' e=>hn.1 (List.mem_map.mpr ⟨t',m',e.symm⟩)]
   by_cases hk:nm t.1∈keys ρ
   ·rw[if_pos hk];exact kf hk
   ·rw[if_neg hk];exact ke (by rw[i0];exact hk)
  ·have:=ih (put ρ (nm tr.1) (ry tr.2.1)) hn.2 t m
   rw[i0]at this;exact this
theorem vJ{L L':List fy}(hp:L.Perm L')(hn:(L.map λtr=>nm tr.1).Nodup)(ρ:Rho)(y:Nm):lk (qd L ρ) y=lk (qd L' ρ) y:=by
 by_cases h:∃tr∈L,y=nm tr.1
 ·obtain⟨tr,m,rfl⟩:=h
  rw[uO L ρ hn tr m,uO L' ρ ((hp.map _).nodup_iff.mp hn) tr (hp.mem_iff.mp m)]
 ·have h1:∀tr∈L,y≠nm tr.1:=λtr m e=>h ⟨tr,m,e⟩
  rw[i7 L ρ y h1,i7 L' ρ y λtr m=>h1 tr (hp.mem_iff.mpr m)]
noncomputable def tJ:Expr->Option Str
 | .Name id _=>some id
 |_=>none
structure EE(G:Cfg)(A:Around)(env:Env)(P:Addr->Prop)(h:Heap)(ts:List Expr)(us:List Value)(L:List fy):Prop where
 names:(L.map λtr=>nm tr.1)=az (.Tuple ts 0 default)
 vals:(L.map λtr=>tr.2.2)=us
 ids:ts.filterMap tJ=L.map (·.1)
 len:ts.length=us.length
 alone:xR L
 rep:∀tr∈L,lZ G P h tr
 each:(assignEach ts env).length=ts.length/\(assignEach ts env).findIdx? (·.1)=none/\jB (jL G A env) ((assignEach ts env).map (·.2)) L
end
end
section
open PySem PySem.W PySem.Calls PyProof.Rows
theorem gj{α β:Type}{f g:α->Option β}(hfg:∀a b,f a=some b->g a=some b):∀{l:List α},(l.filterMap f).length=l.length->l.filterMap f=l.filterMap g
 |[],_=>rfl
 |a::l,h=>by
  rw[List.filterMap_cons]at h |-;rw[List.filterMap_cons];cases e:f a with
  |none=>
   rw[e]at h;have:=List.length_filterMap_le f l;simp only[List.length_cons]at h
   omega
  |some b=>
   rw[e]at h;rw[hfg a b e];simp only[List.length_cons]at h |-;rw[gj hfg ⋯]
noncomputable def DO(ts:List Expr)(m:Sem (Option (List Str))):Prop:=m=pure none\/(m=pure (some (ts.filterMap tJ))/\(ts.filterMap tJ).length=ts.length)
theorem DO.ite{ts:List Expr}{c:Prop}[Decidable c]{m:Sem (Option (List Str))}(h:¬c->DO ts m):DO ts (if c then pure none else m):=by
 by_cases e:c
 ·rw[if_pos e];exact .inl rfl
 ·rw[if_neg e];exact h e
theorem xS{es:List Expr}(h:cE es=false)(hf:¬es.all (foldedForSure 8)=true):¬es.all (constantsAlone 8)=true:=λe=>by
 unfold cE at h;rw[e,(Bool.not_eq_true _).mp hf]at h;exact ab h.symm
theorem l0{α β:Type}{f g:α->Option β}{l:List α}(h:(l.filterMap f).length=l.length)(hfg:∀a b,f a=some b->g a=some b):l.filterMap f=l.filterMap g:=gj hfg h
theorem zP{c:Prop}[Decidable c]{x y:Str}(h:(if c then some x else none)=some y):some x=some y:=by
 by_cases e:c
 ·rw[if_pos e]at h;exact h
 ·rw[if_neg e]at h;exact ao h
theorem tK{ts es:List Expr}{k k':Nat}{p p':Pos}{env:Env}(hc:cE es=false):DO ts (swappedStores [.Tuple ts k p] (.Tuple es k' p') env):=by
 unfold swappedStores;dsimp only;refine .ite λ_ => .ite λ_ => .ite λhn => .ite λhf => ?_
 rw[if_neg (xS hc hf)];rw[Bool.or_eq_true,not_or,bne_iff_ne,ne_eq,Decidable.not_not]at hn;have e:=l0 (g:=tJ) hn.1 λa b h=>by
  induction a using Expr.casesOn with
  |Name id q=>exact zP h
  |_=>exact ao h
 exact .inr ⟨by rw[e],by rw[<-e];exact hn.1⟩
section
variable {G:Cfg} {A:Around} {env:Env} {X:Addr->Prop} {κ:List (Str×NameKind)} {ρ:Rho} {O:Nm->Option Addr} {Φ:Fns}
theorem oK:∀(L:List fy),jB (jL G A env) (L.map λtr=>bindName env tr.1) L
 |[] => .nil
 |tr::L => .cons (λs E Q h=>wpAny_bindName h) (oK L)
noncomputable abbrev rA(X:Addr->Prop)(L:List fy):Addr->Prop:=λb=>X b\/di L b
theorem BJ{μ:List Nm}{x:Nm}{e:Expr}(h:w9 μ x e=true):∃p,e = .List [] p:=by
 induction e using Expr.casesOn with
 |List es p=>induction es using List.casesOn with
  |nil=>exact⟨p,rfl⟩
  |cons _ _=>exact ab (show false=true from(ay (show(false&&iM x μ)=true from h)).1)
 |_=>exact ab h
theorem xT{μ:List Nm}{t e:Expr}{ts es:List Expr}{v:V}{vs:List V}(ok:(dG μ (t::ts) (e::es) (v::vs) ρ).1=true):∃x p,t = .Name x p:=by
 induction t using Expr.casesOn with
 |Name x p=>exact⟨x,p,rfl⟩
 |_=>exact ab ok
theorem xU {E:Expr->R} (GE:∀X,ar G A env X ρ E) {μ:List Nm} {pos:Pos} {es ts:List Expr} {X:Addr->Prop} {ρ':Rho} (oe:(cy E es).1=true) (ok:(dG μ ts es (cy E es).2 ρ').1=true) {s:Shared} (S:bJ G env X O ρ s.heap) {E':Value->Shared->Prop} {Q:List Value->Shared->Prop}
 (q:∀us L s',Keeps s s'->(cy E es).2.length=us.length->EE G A env (ag env (rA X L) O) s'.heap ts us L->(∀ρ,(dG μ ts es (cy E es).2 ρ).2=qd L ρ)->(∀b,di L b->s.heap.get? b=none/\∃o,s'.heap.get? b=some o)->Q us s'):
 wpAny (model G.p G.w) A (spliced (backTo pos (starEach es env))) Q E' s:=by
 induction es generalizing ts X ρ' s Q with
 |nil=>induction ts using List.casesOn with
  |nil=>exact spliced_nil (q [] [] s (Kp.refl s) rfl ⟨rfl,rfl,rfl,rfl,List.Pairwise.nil,(λ_ m=>nomatch m),rfl,rfl, .nil⟩ (λ_=>rfl) λb w=>(rz w).elim)
  |cons t ts=>induction t using Expr.casesOn<;>exact ab ok
 |cons e es ih=>
  obtain⟨o1,o2⟩:=lL oe
  induction ts using List.casesOn with
  |nil=>exact ab ok
  |cons t ts=>
   obtain⟨x,p,rfl⟩:=xT ok;have ok':(dG μ ts es (cy E es).2 (put ρ' (nm x) (xa (w9 μ (nm x) e) (E e).2))).1=true:=ok;have ep:∀ρ,(dG μ (.Name x p::ts) (e::es) (cy E (e::es)).2 ρ).2=(dG μ ts es (cy E es).2 (put ρ (nm x) (xa (w9 μ (nm x) e) (E e).2))).2:=λ_=>rfl
   have el':(cy E (e::es)).2.length=(cy E es).2.length+1:=rfl;rw[el']at q;simp only[ep]at q;clear ep ok oe;rw[eC (GE X) o1];show wpAny _ A (spliced ((false,eval e env)::backTo pos (starEach es env))) Q E' s;have each:∀{u:Value} {L:List fy} {sl:Option V},(assignEach ts env).length=ts.length/\(assignEach ts env).findIdx? (·.1)=none/\jB (jL G A env) ((assignEach ts env).map (·.2)) L ->
    (assignEach (.Name x p::ts) env).length=(Expr.Name x p::ts).length/\(assignEach (.Name x p::ts) env).findIdx? (·.1)=none/\jB (jL G A env) ((assignEach (.Name x p::ts) env).map (·.2)) ((x,sl,u)::L):=λ{u L sl} I=>by
    refine⟨congrArg (· + 1) I.1, ?_, .cons (λs E Q h=>wpAny_assign_Name h) I.2.2⟩;show((false,assign (.Name x p) env)::assignEach ts env).findIdx? (·.1)=none;rw[List.findIdx?_cons,I.2.1];rfl
   cases hown:w9 μ (nm x) e with
   |true=>
    obtain⟨p',rfl⟩:=BJ hown;rw[hown]at ok' q;refine spliced_cons (rk (GE X) (es:=[]) rfl O s S _ _ λa vs m s1 k1 d el rl => ?_);have ev:vs = #[]:=Array.toList_eq_nil_iff.mp (Reps.nil_iff.mp rl);subst ev;obtain⟨S1,on1⟩:=S.more (Kp.keep k1) (Z:=λb=>b=a) λb hb=>by rw[hb];exact⟨d,_,el⟩
    refine ih o2 ok' S1 λus L s2 k2 hl I pe wt => ?_
    have same:∀b,rA (λb=>X b\/b=a) L b↔rA X ((x,none,Value.ref a)::L) b:=λb=>by
     constructor
     ·rintro((h|h)|h)
      ·exact .inl h
      ·exact .inr ⟨_,List.mem_cons_self ..,rfl,by rw[h]⟩
      ·exact .inr (dj h)
     ·rintro(h|⟨t,m',ho,ee⟩)
      ·exact .inl (.inl h)
      ·rcases List.mem_cons.mp m' with rfl|m'
       ·injection ee with ee;exact .inl (.inr ee.symm)
       ·exact .inr ⟨t,m',ho,ee⟩
    have fsame:rA (λb=>X b\/b=a) L=rA X ((x,none,Value.ref a)::L):=funext λb=>propext (same b)
    rw[fsame]at I;refine q (.ref a::us) ((x,none, .ref a)::L) s2 (Kp.trans k1 k2) (congrArg (· + 1) hl) ⟨congrArg (nm x :: ·) I.names,congrArg (Value.ref a :: ·) I.vals,congrArg (x :: ·) I.ids,congrArg (· + 1) I.len,List.pairwise_cons.mpr ⟨λt' m' _ ho ee => ?_,I.alone⟩,List.forall_mem_cons.mpr ⟨⟨a,m,rfl,Kp.keep k2 _ _ el⟩,I.rep⟩,each I.each⟩ (λρ=>pe _) ?_
    ·have:=(wt a ⟨t',m',ho,ee.symm⟩).1
     rw[el]at this;injections this
    ·rintro b ⟨t,m',ho,ee⟩
     rcases List.mem_cons.mp m' with rfl|m'
     ·injection ee with ee;subst ee;exact⟨d,_,Kp.keep k2 _ _ el⟩
     ·have:=wt b ⟨t,m',ho,ee⟩
      refine⟨?_,this.2⟩;cases e3:s.heap.get? b with
      |none=>rfl
      |some o=>have:=Kp.keep k1 b o e3;rw[(wt b ⟨t,m',ho,ee⟩).1]at this;injections this
   |false=>
    rw[hown]at ok' q;refine spliced_cons ((GE X).ok e o1 O s S _ _ λu s1 k1 r1 => ?_);refine ih o2 ok' (S.keeps (Kp.keep k1)) λus L s2 k2 hl I pe wt => ?_
    have fsame:rA X L=rA X ((x,some (E e).2,u)::L):=funext λb=>propext ⟨λh=>h.imp id dj,λh=>h.imp id i6⟩
    have dead:∀b,di L b->s.heap.get? b=none:=λb w=>by
     cases e3:s.heap.get? b with
     |none=>rfl
     |some o=>have:=Kp.keep k1 b o e3;rw[(wt b w).1]at this;injections this
    refine q (u::us) ((x,some (E e).2,u)::L) s2 (Kp.trans k1 k2) (congrArg (· + 1) hl) ⟨congrArg (nm x :: ·) I.names,congrArg (u :: ·) I.vals,congrArg (x :: ·) I.ids,congrArg (· + 1) I.len,List.pairwise_cons.mpr ⟨λt' m' ho=>ao ho.symm,I.alone⟩, ?_,each I.each⟩ (λρ=>pe _) λb w=>⟨dead b (i6 w),(wt b (i6 w)).2⟩
    rw[<-fsame];refine List.forall_mem_cons.mpr ⟨?_,I.rep⟩;refine r1.on ⟨λb o _ e=>Kp.keep k2 b o e,λb o e f => ?_⟩
    rcases f with(f|f)|f
    ·exact .inl f
    ·rw[(wt b f).1]at e;injections e
    ·exact .inr f
theorem vK{L L':List fy}(pm:L'.Perm L):di L'=di L:=funext λb=>propext ⟨λ⟨t,m,r⟩=>⟨t,pm.mem_iff.mp m,r⟩,λ⟨t,m,r⟩=>⟨t,pm.mem_iff.mpr m,r⟩⟩
theorem l6 (En:am env κ) {ρ':Rho} {ts:List Expr} {us:List Value} {L L':List fy} {fs:List (Value->Sem Unit)} {h:Heap} {s s2:Shared} (I:EE G A env (ag env (rA X L) O) h ts us L) (pe:ρ'=qd L ρ) (wt:∀b,di L b->s.heap.get? b=none/\∃o,h.get? b=some o) (pm:L'.Perm L) (S:bJ G env X O ρ s.heap) (k:Keeps s s2) (kh:∀b o,h.get? b=some o->s2.heap.get? b=some o)
 (nd:(L.map λtr=>nm tr.1).Nodup) (hx:fH κ (az (.Tuple ts 0 default))=true) (hf:jB (jL G A env) fs L') {E:Value->Shared->Prop} {Q:Flow->Shared->Prop} (q:∀f s',da G env X O s (.next ρ') f s'->Q f s'):
 wpAny (model G.p G.w) A (assignInOrder fs (L'.map λtr=>tr.2.2)) (λ_=>Q .next) E s2:=by
 have eW:=vK pm;obtain⟨S3,_⟩:=S.more (Kp.keep k) (Z:=di L) λb hb=>⟨(wt b hb).1,let⟨o,e⟩:=(wt b hb).2;⟨o,kh b o e⟩⟩
 refine tI (X:=X) (L:=L') En (by rw[eW];exact S3) (λtr m => ?_) ((List.Perm.pairwise_iff (λ{a b} h ho ho' e=>h ho' ho e.symm) pm).mpr I.alone) (λtr m=>List.all_eq_true.mp hx _ (by rw[<-I.names];exact List.mem_map.mpr ⟨tr,pm.mem_iff.mp m,rfl⟩)) (λb hb => ?_) hf λO' h' tk' S4 kp sub => ?_
 ·rw[eW]
  exact(I.rep tr (pm.mem_iff.mp m)).on (On.of_keeps kh) λa _ _ o e=>kh a o e
 ·rw[eW]at hb
  have d:=(wt b hb).1;exact⟨λh=>i4 S d (.inl h) rfl,λh=>i4 S d (.inr (.inl h)) rfl⟩
 ·obtain⟨O2,S5,f5⟩:=S4.coarse (ρ':=ρ') λy => .inr (.inl (by rw[pe];exact vJ pm.symm nd ρ y))
  refine q _ _ ⟨O2,S5, ?_⟩;rw[eW]at sub;obtain⟨h1,t1,rfl,kk⟩:=k;exact⟨h',tk',rfl,λb o nb e=>kp b o (λh=>nb (.inr (.inl h))) (kk b o e),λb o e f=>(sub b (f5 _ b f)).elim id λf'=>by rw[(wt b f').1]at e;injections e⟩
theorem tL (Fh:A.handled=none) (En:am env κ) {E:Expr->R} (GE:∀X,ar G A env X ρ E) {μ:List Nm} {ts es:List Expr} {k k':Nat} {p p' pos:Pos} (o1:il (cy E es)=true) (o2:(dG μ ts es (cy E es).2 ρ).1=true)
 (o3:cE es=false) (o4:dQ (az (.Tuple ts 0 default))=true) (o5:fH κ (az (.Tuple ts 0 default))=true):
 db G A env X ρ (exec (.Assign [.Tuple ts k p] (.Tuple es k' p') pos) env) (true, .next (dG μ ts es (cy E es).2 ρ).2):=by
 intro _ O s S E' Q q;have o1:=ay o1;rw[exec_Assign_arm];refine wpAny_bind (wpAny_standAt ?_);rw[show swapsWithSole [.Tuple ts k p] (.Tuple es k' p') pos.line env=pure false from rfl];refine wpAny_bind (wpAny_pure ?_);rw[if_neg nofun,arm_eval_Tuple];refine wpAny_bind (wpAny_bind (wpAny_standAt (wpAny_bind (xU GE o1.1 o2 S λus L s1 k1 hl I pe wt => ?_))));refine wpAny_newTuple ?_ (by rw[<-hl];exact b0 (of_decide_eq_true o1.2));have pe:=pe ρ;have k2:=Kp.push s1 { cls := .type "tuple",data := .seq us.toArray } s1.toks;have hT:(s1.heap.push { cls := .type "tuple",data := .seq us.toArray }).IsTuple s1.heap.objs.size us.toArray:=⟨_,Heap.get?_push_size _ rfl,rfl,_,rfl⟩
 have nd:(L.map λtr=>nm tr.1).Nodup:=by rw[I.names];exact nodup_iff.mp o4
 have he:∀{h3:Heap},(∀b o,b≠(s1.heap.push { cls := .type "tuple",data := .seq us.toArray }).objs.size->(s1.heap.push { cls := .type "tuple",data := .seq us.toArray }).get? b=some o->h3.get? b=some o)->Keeps s { s1 with heap:=h3 }/\∀b o,s1.heap.get? b=some o->h3.get? b=some o:=λ{h3} h=>by
  have kk:∀b o,s1.heap.get? b=some o->h3.get? b=some o:=λb o e=>h b o (Nat.ne_of_lt (Heap.lt_size (Kp.keep k2 b o e))) (Kp.keep k2 b o e)
  exact⟨Kp.trans k1 (Kp.heap s1.toks kk),kk⟩
 rcases tK (ts:=ts) (k:=k) (p:=p) (k':=k') (p':=p') (env:=env) o3 with hsw|⟨hsw,hlen⟩
 ·rw[hsw]
  refine wpAny_bind (wpAny_pure (wpAny_bind ?_));show wpAny _ A (assign (.Tuple ts k p) env (.ref s1.heap.objs.size)) _ _ _;refine wpAny_mono (wpAny_assign_Tuple Fh hT (by rw[I.each.1,I.len];simp) I.each.2.1 λh' e => ?_) (λ_ _ h=>wpAny_pure h) λ_ _ e=>e
  have:=l6 (E:=E') En I pe wt (List.Perm.refl _) S (he e).1 (he e).2 nd o5 I.each.2.2 q;rw[I.vals]at this
  simpa using this
 ·rw[hsw]
  refine wpAny_bind (wpAny_pure ?_);show wpAny _ A (do
   rule "assign.swapped-stores"
   let items <-unpackItems (.ref s1.heap.objs.size) (ts.filterMap tJ).length none
   assignInOrder ((ts.filterMap tJ).reverse.map λn=>bindName env n) items.reverse
   pure .next) Q E' _
  rw[show(ts.filterMap tJ).length=us.toArray.size by rw[hlen,I.len];simp];refine wpAny_bind (wpAny_rule (wpAny_bind (wpAny_unpackItems_tuple Fh hT λh' e=>wpAny_bind ?_)));refine wpAny_mono ?_ (λ_ _ h=>wpAny_pure h) λ_ _ e=>e
  have:=l6 (E:=E') En I pe wt (List.reverse_perm L) S (he e).1 (he e).2 nd o5 (oK L.reverse) q;rw[List.map_reverse,List.map_reverse,I.vals]at this;rw[I.ids,List.map_reverse,List.map_map];exact this
end
end
section
open PySem PySem.W PySem.Calls PyProof.Rows
section
variable {prog:Program} {w:World} {A:Around} {E:Value->Shared->Prop} {s:Shared}
theorem rC {l:Addr} {items:Array Value} {n:Nat} {k:Int} {t:Tok} {v:Value} {Q:Unit->Shared->Prop} (ho:s.heap.get? l=some { cls := .type "list",data := .seq items n })
 (h0:0<=k) (hfit:k<2^63) (hn:k<items.size)
 (hQ:∀h' n',h'.get? l=some { cls := .type "list",data := .seq (items.setIfInBounds k.toNat v) n' }->Heap.SameBut l s.heap h'->Q () { s with heap:=h' }):
 wpAny (model prog w) A (setItem (.ref l) (.int k t) v) Q E s:=by
 have hl:s.heap.IsList l items:=⟨_,ho,rfl,_,rfl⟩;unfold setItem
 try with_reducible refine wpAny_holding ?_
 first|refine wpAny_bind (wpAny_pure ?_)|skip
 refine wpAny_bind (wpAny_sequenceKey hl.typeIs nofun ?_);refine wpAny_bind (wpAny_callSpecial?_slot (name:=Str.ofString "__setitem__") hl.typeIs slot_list_setitem
  (wpAny_call_entry slot_list_setitem hl.typeIs entry_list_setitem ?_ (args_list_setitem _ _ _)))
 show wpAny _ _ (Builtin.List.listSubscript? (.int k t)>>=_) _ _ s;refine wpAny_bind (wpAny_listSubscript_int (fitsIndex_of h0 hfit) ?_);clear hfit;obtain⟨j,rfl⟩:=Int.eq_ofNat_of_zero_le h0;have hj:j<items.size:=⋯;have hx':items[j]? = some items[j]:=Array.getElem?_eq_getElem hj;show wpAny _ _ ((seqItemAt l j>>=λr=>pure (r.map (j,·)))>>=_) _ _ s;refine wpAny_bind (wpAny_bind (wpAny_seqItemAt ho rfl (wpAny_pure ?_)));rw[hx'];show wpAny _ _ (setSeqItemAt l j v>>=_) _ _ s;have hfin:=get?_update_seq ho (·.setIfInBounds j v);refine wpAny_bind (wpAny_setSeqItemAt ho rfl ?_)
 first
  |exact wpAny_bind (wpAny_pure (wpAny_pure ⟨.none,rfl,wpAny_pure (hQ _ _ hfin (Heap.SameBut.update ..))⟩))
  |exact wpAny_pure ⟨.none,rfl,wpAny_pure (hQ _ _ hfin (Heap.SameBut.update ..))⟩
end
section
variable {G:Cfg} {A:Around} {env:Env} {X:Addr->Prop} {κ:List (Str×NameKind)} {ρ:Rho} {O:Nm->Option Addr} {Φ:Fns}
theorem xV{s s1:Shared}(k:Keeps s s1){h':Heap}{tk:Nat}{x:Nm}{a:Addr}(hO:O x=some a)(kp:∀b o,b≠a->s1.heap.get? b=some o->h'.get? b=some o):Mv env O O s { s1 with heap:=h',toks:=tk }:=by
 obtain⟨h1,t1,rfl,k1⟩:=k;exact⟨h',tk,rfl,λb o nb e=>kp b o (λh=>nb (.inr (.inr ⟨x,h▸hO⟩))) (k1 b o e),λb o _ f=>f⟩
theorem xW{e o i:Expr}{p:Pos}{k:Nat}:swapsWith e (some (.Subscript o i p)) k env=pure false:=by
 induction e using Expr.casesOn<;>rfl
theorem xX{e:Expr}{ts:List Expr}{k l:Nat}{p:Pos}:swapsWith e (some (.Tuple ts k p)) l env=pure false:=by
 induction e using Expr.casesOn<;>rfl
theorem rD{e:Expr}{ts:List Expr}{k:Nat}{p:Pos}(h:j0 e=none):swappedStores [.Tuple ts k p] e env=pure none:=by
 induction e using Expr.casesOn with
 |Tuple es k p=>exact ao h.symm
 |_=>rfl
theorem rE {E:Expr->R} (En:am env κ) (GE:ar G A env X ρ E) {x:Str} {p p' pos:Pos} {i e:Expr} {l:List V} {j:Int} (hl:lk ρ (nm x) = .own l) (hj:(E i).2 = .int j) (oi:(E i).1=true) (oe:(E e).1=true) (hx:ae (kd κ (nm x))=true)
 (h0:0<=j) (h1:j<l.length) (hc:l.length<=cap):db G A env X ρ (exec (.Assign [.Subscript (.Name x p) i p'] e pos) env) (true, .next (put ρ (nm x) (.own (gS l j.toNat (E e).2)))):=by
 intro _ O s S E' Q q;have hx':ae (env.kindOf x)=true:=(En.names x).trans hx;have pl:=En.plain x (by rw[hx'];rfl);refine wpAny_Assign_Subscript (GE.ok e oe O s S _ _ λu s1 k1 r1 => ?_) (xW (env:=env) (o := .Name x p) (i:=i) (p:=p') (k:=pos.line));have S1:=S.keeps (Kp.keep k1);obtain⟨g,F,hg⟩:=S1.look;have hs:=hg x hx';rw[hl]at hs;obtain⟨a,vs,e1,e2,⟨m,e3⟩,rr⟩:=hs;refine wpAny_Name (bZ En.kind F hx' pl.2 e1 ?_) pl.1;refine GE.ok i oi O s1 S1 _ _ λv s2 k2 r2 => ?_
 rw[hj]at r2;obtain⟨t,rfl⟩:=ah.int_iff.mp r2;have e3':=Kp.keep k2 _ _ e3;have S2:=S1.keeps (Kp.keep k2);have rr2:=Reps.on (On.of_keeps (X:=ag env X O) (Kp.keep k2)) rr;have hsz:vs.size=l.length:=by rw[<-Array.length_toList,<-rr2.length]
 unfold cap at hc;refine rC e3' h0 ⋯ ⋯ λh' n' el hs => ?_
 have kp:∀b o,b≠a->s2.heap.get? b=some o->h'.get? b=some o:=λb o nb e=>(hs.2 b nb).trans e
 have S3:=S2.own_set (l':=gS l j.toNat (E e).2) hx' hl e2 kp el (by
  unfold gS;rw[Array.toList_setIfInBounds];exact Reps.set rr2 (r1.on (On.of_keeps (Kp.keep k2))))
 exact q _ _ ⟨O,S3,xV (tk:=s2.toks) (Kp.trans k1 k2) e2 kp⟩
theorem rF{E:Expr->R}(En:am env κ)(GE:ar G A env X ρ E){x:Str}{p q' pos spos:Pos}{e:Expr}{l:List V}(hl:lk ρ (nm x) = .own l)(oe:(E e).1=true)(hx:ae (kd κ (nm x))=true)(hq:q'.endLine=pos.line)(hc:l.length<=cap):
 db G A env X ρ (exec (.Expr (.Call (.Attribute (.Name x p) "append" q') [e] [] pos) spos) env) (true, .next (put ρ (nm x) (.own (l++[(E e).2])))):=by
 intro _ O s S E' Q q;have hx':ae (env.kindOf x)=true:=(En.names x).trans hx;have pl:=En.plain x (by rw[hx'];rfl);have hi:interactive env=false:=by unfold interactive;rw[En.kind];rfl
 refine wpAny_Expr ?_ hi rfl;have hst:starEach [e] env=[(false,eval e env)]:=eC GE oe [];refine wpAny_Call_append rfl (by rw[hst];rfl) (by rw[hq];exact beq_self_eq_true _) (by rw[hst];rfl) ?_;obtain⟨g,F,hg⟩:=S.look;have hs:=hg x hx';rw[hl]at hs;obtain⟨a,vs,e1,e2,⟨m,e3⟩,rr⟩:=hs;refine wpAny_Name (bZ En.kind F hx' pl.2 e1 ⟨a,vs,rfl,⟨_,_,e3,rfl,rfl,rfl⟩, ?_⟩) pl.1;refine GE.ok e oe O s S _ _ λu s1 k1 r1 => ?_
 have e3':=Kp.keep k1 _ _ e3;have S1:=S.keeps (Kp.keep k1);have rr1:=Reps.on (On.of_keeps (X:=ag env X O) (Kp.keep k1)) rr;have hsz:vs.size=l.length:=by rw[<-Array.length_toList,<-rr1.length]
 refine append_at e3' (λh' hs el => ?_) (by rw[hsz];exact b0 hc);have kp:∀b o,b≠a->s1.heap.get? b=some o->h'.get? b=some o:=λb o nb e=>(hs.2 b nb).trans e
 have S2:=S1.own_set (l':=l++[(E e).2]) hx' hl e2 kp el (by
  rw[Array.toList_push];exact Reps.append rr1 (Reps.cons r1 Reps.nil))
 exact q _ _ ⟨O,S2,xV (tk:=s1.toks) k1 e2 kp⟩
theorem zQ{a b:List Nat}{t t':Tok}{s:Shared}{P:Addr->Prop}(h:a.length+b.length<=cap):an G A P (inplaceOp .Add (.str (tx a) t) (.str (tx b) t')) (.str (a++b)) s:=
 cF λE Q q=>PyProof.Rows.iadd_str (by rw[<-nH];exact q) (by rw[aw,aw];exact b0 h)
theorem BK{op:Operator}{v w:V}{u u':Value}{s:Shared}{P:Addr->Prop}(ob:(bW op v w).1=true)(oa:nE op v=true)(r:ah G P s.heap v u)(r':ah G P s.heap w u'):an G A P (inplaceOp op u u') (bW op v w).2 s:=by
 induction v using V.casesOn with
 |int i=>
  obtain⟨t,rfl⟩:=ah.int_iff.mp r;refine f0 (c:=λu'=>inplaceOp op (.int i t) u') r' ob λj t' _ => ?_
  induction op using Operator.casesOn with
  |Add=>exact aP λE Q q=>iadd_int (q _ _)
  |Sub=>exact aP λE Q q=>isub_int (q _ _)
  |_=>exact ab oa
 |str a=>
  obtain⟨t,rfl⟩:=ah.str_iff.mp r
  induction op using Operator.casesOn with
  |Add=>exact fZ (c:=λu'=>inplaceOp .Add (.str (tx a) t) u') r' ob λb t' ok=>zQ (of_decide_eq_true ok)
  |_=>exact ab oa
 |_=>exact ab oa
theorem xY{E:Expr->R}(En:am env κ)(GE:ar G A env X ρ E){x:Str}{p pos:Pos}{op:Operator}{e:Expr}{v:V}(hl:lk ρ (nm x) = .val v)(oe:(E e).1=true)(hx:ae (kd κ (nm x))=true)(ob:(bW op v (E e).2).1=true)(oa:nE op v=true):
 db G A env X ρ (exec (.AugAssign (.Name x p) op e pos) env) (true, .next (put ρ (nm x) (.val (bW op v (E e).2).2))):=by
 intro _ O s S E' Q q;have hx':ae (env.kindOf x)=true:=(En.names x).trans hx;have pl:=En.plain x (by rw[hx'];rfl);obtain⟨g,F,hg⟩:=S.look;have hs:=hg x hx';rw[hl]at hs;obtain⟨u,e1,r0⟩:=hs;exact wpAny_AugAssign_Name (bZ En.kind F hx' pl.2 e1 (GE.ok e oe O s S _ _ λu' s1 k1 r1=>BK ob oa (r0.on (On.of_keeps (Kp.keep k1))) r1 _ _ λw s2 k2 r2=>
  bp ((S.keeps (Kp.keep k1)).keeps (Kp.keep k2)) En hx r2 λh' tk' S' kp al=>q _ _ ⟨_,S',tF (Kp.trans k1 k2) kp⟩))
theorem tM{E:Expr->R}(En:am env κ)(GE:ar G A env X ρ E){x y:Str}{p p' pos:Pos}{e:Expr}(oe:(E e).1=true)(hx:ae (kd κ (nm x))=true)(hy:ae (kd κ (nm y))=true):
 db G A env X ρ (exec (.Assign [.Name x p, .Name y p'] e pos) env) (true, .next (put (put ρ (nm x) (.val (E e).2)) (nm y) (.val (E e).2))):=by
 intro _ O s S E' Q q;refine wpAny_Assign_two (GE.ok e oe O s S _ _ λu s1 k1 r1=>wpAny_assign_Name (bp (S.keeps (Kp.keep k1)) En hx r1 λh' tk S' kp al=>wpAny_assign_Name (bp (v:=(E e).2) (s:={ s1 with heap:=h',toks:=tk }) S' En hy ?_ λh2 tk2 S2 kp2 al2 => ?_)))
 ·exact r1.on ⟨λb o nb e=>kp b o (λpl=>nb (.inr (.inl pl.own))) e,λb o _ f=>bA f⟩
 ·refine q _ _ ⟨_,S2, ?_⟩
  obtain⟨h1,t1,e1,kk⟩:=k1;subst e1;exact⟨h2,tk2,rfl,λb o nb e=>kp2 b o (λpl=>nb (.inr (.inl pl.own))) (kp b o (λpl=>nb (.inr (.inl pl.own))) (kk b o e)),λb o _ f=>bA (bA f)⟩
theorem qe{E:Expr->R}(En:am env κ)(GE:ar G A env X ρ E){x y z:Str}{p p' p'' pos:Pos}{e:Expr}(oe:(E e).1=true)(hx:ae (kd κ (nm x))=true)(hy:ae (kd κ (nm y))=true)(hz:ae (kd κ (nm z))=true):
 db G A env X ρ (exec (.Assign [.Name x p, .Name y p', .Name z p''] e pos) env) (true, .next (put (put (put ρ (nm x) (.val (E e).2)) (nm y) (.val (E e).2)) (nm z) (.val (E e).2))):=by
 intro _ O s S E' Q q;refine wpAny_Assign_three (GE.ok e oe O s S _ _ λu s1 k1 r1=>wpAny_assign_Name (bp (S.keeps (Kp.keep k1)) En hx r1 λh' tk S' kp al=>wpAny_assign_Name (bp (v:=(E e).2) (s:={ s1 with heap:=h',toks:=tk }) S' En hy ?_ λh2 tk2 S2 kp2 al2=>
  wpAny_assign_Name (bp (v:=(E e).2) (s:={ s1 with heap:=h2,toks:=tk2 }) S2 En hz ?_ λh3 tk3 S3 kp3 al3 => ?_))))
 ·exact r1.on ⟨λb o nb e=>kp b o (λpl=>nb (.inr (.inl pl.own))) e,λb o _ f=>bA f⟩
 ·exact(r1.on ⟨λb o nb e=>kp b o (λpl=>nb (.inr (.inl pl.own))) e,λb o _ f=>bA f⟩).on ⟨λb o nb e=>kp2 b o (λpl=>nb (.inr (.inl pl.own))) e,λb o _ f=>bA f⟩
 ·refine q _ _ ⟨_,S3, ?_⟩
  obtain⟨h1,t1,e1,kk⟩:=k1;subst e1;exact⟨h3,tk3,rfl,λb o nb e=>kp3 b o (λpl=>nb (.inr (.inl pl.own))) (kp2 b o (λpl=>nb (.inr (.inl pl.own))) (kp b o (λpl=>nb (.inr (.inl pl.own))) (kk b o e))),λb o _ f=>bA (bA (bA f))⟩
theorem qf (Fa:av G A Φ) {E:Expr->R} (En:am env κ) (GE:ar G A env X ρ E) {ts:List Expr} {k:Nat} {p pos:Pos} {e:Expr} (hne:j0 e=none) (oe:(E e).1=true) (ot:(aT (.Tuple ts 0 default) (E e).2 ρ).1=true)
 (hx:fH κ (az (.Tuple ts 0 default))=true):db G A env X ρ (exec (.Assign [.Tuple ts k p] e pos) env) (true, .next (aT (.Tuple ts 0 default) (E e).2 ρ).2):=by
 intro _ O s S E' Q q;refine wpAny_Assign_stores (GE.ok e oe O s S _ _ λu s1 k1 r1 => ?_) (xX (env:=env) (ts:=ts) (k:=k) (p:=p) (l:=pos.line)) (rD hne);show wpAny _ A (assign (.Tuple ts k p) env u) _ _ s1;refine tq (t := .Tuple ts k p) Fa.none En ot (λx hm=>List.all_eq_true.mp hx x hm) (S.keeps (Kp.keep k1)) r1 E' _ λs2 S2 mv => ?_
 refine q _ _ ⟨_,S2, ?_⟩;obtain⟨h1,t1,e1,kk⟩:=k1;subst e1;obtain⟨h2,t2,e3,k2,al⟩:=mv;exact⟨h2,t2,e3,λb o nb e=>k2 b o (λx _ pl=>nb (.inr (.inl pl.own))) (kk b o e),λb o _ f=>ag.upd f⟩
theorem db.of{t:Sem Flow}{r:Res}{o:em}(h:db G A env X ρ t (true,o))(e:r.2=o):db G A env X ρ t r:=λ_ O s S E Q q=>h rfl O s S E Q (by rw[e]at q;exact q)
theorem xZ(Fa:av G A Φ)(En:am env κ){τ:Tau}{e:Expr}{pos p:Pos}{x:Str}(h1:(ev Φ τ 40 κ ρ e).1=true)(h2:ae (kd κ (nm x))=true):db G A env X ρ (exec (.Assign [.Name x p] e pos) env) (true, .next (put ρ (nm x) (.val (ev Φ τ 40 κ ρ e).2))):=by
 generalize hc:cV e=b
 induction b using Bool.casesOn with
 |false=>exact kg (E:=ev Φ τ 40 κ ρ) En ((fw Fa τ 40 κ env X ρ En).1.ok _ h1) h2 (i5 hc _ _)
 |true=>
  obtain⟨elt,gs,scope,cp,rfl⟩:=vH hc h1;exact rx (E:=ev Φ τ 39) Fa En (λκ env X ρ h=>(fw Fa τ 39 κ env X ρ h).1) (λκ env X ρ h=>(fw Fa τ 39 κ env X ρ h).2) h1 h2
theorem tN{μ:List Nm}{x:Nm}{e:Expr}{v:V}:(∃l,v = .list l/\fW e=true/\fX μ x e v = .own l)\/fX μ x e v = .val v:=by
 induction v using V.casesOn with
 |list l=>
  show(∃l',V.list l = .list l'/\fW e=true/\(bif iM x μ&&fW e then Mine.Slot.own l else .val (.list l)) = .own l')\/(bif iM x μ&&fW e then Mine.Slot.own l else .val (.list l)) = .val (.list l);generalize h:(iM x μ&&fW e)=b
  induction b using Bool.casesOn with
  |true=>exact .inl ⟨l,rfl,(ay h).2,rfl⟩
  |false=>exact .inr rfl
 |_=>exact .inr rfl
theorem vL(Fa:av G A Φ)(En:am env κ){τ:Tau}{μ:List Nm}{e:Expr}{pos p:Pos}{x:Str}:db G A env X ρ (exec (.Assign [.Name x p] e pos) env) (zj (ev Φ τ 40 κ ρ) κ μ ρ (.Name x p) e):=λok=>by
 have ok':=ay ok;refine db.of (o := .next (put ρ (nm x) (fX μ (nm x) e (ev Φ τ 40 κ ρ e).2))) ?_ rfl ok
 rcases tN (μ:=μ) (x:=nm x) (e:=e) (v:=(ev Φ τ 40 κ ρ e).2)with⟨l,hv,hf,h⟩|h
 ·rw[h]
  exact tG En (xP Fa En (n:=38) hf ok'.1 hv) ok'.2 (i5 (lY hf).comp _ _)
 ·rw[h];exact xZ Fa En ok'.1 ok'.2
theorem tO{e:Expr}{es:List Expr}(h:j0 e=some es):∃k p,e = .Tuple es k p:=by
 induction e using Expr.casesOn with
 |Tuple es' k p=>rw[<-Option.some.inj h];exact⟨k,p,rfl⟩
 |_=>exact ao h
theorem x0(Fa:av G A Φ)(En:am env κ){E:Expr->R}(GE:∀X,ar G A env X ρ E){μ:List Nm}{ts:List Expr}{e:Expr}{k:Nat}{p pos:Pos}:db G A env X ρ (exec (.Assign [.Tuple ts k p] e pos) env) (zi E κ μ ρ ts e (j0 e)):=by
 generalize h:j0 e=o
 induction o using Option.casesOn with
 |some es=>
  obtain⟨k',p',rfl⟩:=tO h;intro ok;have a1:=ay ok;have a2:=ay a1.1;have a3:=ay a1.2;have a4:=ay a3.1;exact(tL Fa.none En GE a2.1 a2.2 ((Bool.not_eq_true' _).mp a4.1) a4.2 a3.2).of rfl ok
 |none=>
  intro ok;have a1:=ay ok;have a2:=ay a1.1;exact(qf Fa En (GE X) h a2.1 a2.2 a1.2).of rfl ok
theorem x3(En:am env κ){E:Expr->R}(GE:ar G A env X ρ E){x:Str}{i e:Expr}{p p' pos:Pos}:db G A env X ρ (exec (.Assign [.Subscript (.Name x p) i p'] e pos) env) (zh (ae (kd κ (nm x))) ρ (nm x) (E i) (E e) (lk ρ (nm x))):=by
 generalize hl:lk ρ (nm x)=sl
 induction sl using Mine.Slot.casesOn with
 |own l=>
  show db G A env X ρ _ (Bp (ae (kd κ (nm x))&&(E i).1) ρ (nm x) l (E e) (E i).2);generalize hj:(E i).2=j
  induction j using V.casesOn with
  |int j=>
   intro ok;have a1:=ay ok;have a2:=ay a1.1;have a3:=ay a2.2;have a4:=ay a1.2;have a5:=ay a4.1;exact(rE En GE hl hj a3.2 a2.1 a3.1 (of_decide_eq_true a5.1) (of_decide_eq_true a5.2) (of_decide_eq_true a4.2)).of rfl ok
  |_=>exact λok=>ab ok
 |_=>exact λok=>ab ok
theorem dW{v:V}{t:Expr}{ts:List Expr}(h:(qQ v (t::ts) ρ).1=true):∃x p,t = .Name x p/\(qQ v ts (put ρ (nm x) (.val v))).1=true:=by
 induction t using Expr.casesOn with
 |Name x p=>exact⟨x,p,rfl,h⟩
 |_=>exact ab h
theorem x4(Fa:av G A Φ)(En:am env κ){τ:Tau}{μ:List Nm}{t e:Expr}{pos:Pos}:db G A env X ρ (exec (.Assign [t] e pos) env) (zj (ev Φ τ 40 κ ρ) κ μ ρ t e):=by
 induction t using Expr.casesOn with
 |Name x p=>exact vL Fa En
 |Tuple ts k p=>exact x0 Fa En λX=>(fw Fa τ 40 κ env X ρ En).1
 |Subscript o i p'=>induction o using Expr.casesOn with
  |Name x p=>exact x3 En (fw Fa τ 40 κ env X ρ En).1
  |_=>exact λok=>ab ok
 |_=>exact λok=>ab ok
theorem rG(Fa:av G A Φ)(En:am env κ){τ:Tau}{μ:List Nm}{ts:List Expr}{e:Expr}{pos:Pos}:db G A env X ρ (exec (.Assign ts e pos) env) (ds (ev Φ τ 40 κ ρ) κ μ ρ ts e):=by
 have GE:=(fw (G:=G) (A:=A) Fa τ 40 κ env X ρ En).1
 induction ts using List.casesOn with
 |nil=>exact λok=>ab ok
 |cons t ts=>induction ts using List.casesOn with
  |nil=>exact x4 Fa En
  |cons t2 ts=>induction ts using List.casesOn with
   |nil=>
    intro ok;have a1:=ay ok;have a2:=ay a1.1;obtain⟨x,p,rfl,b2⟩:=dW a2.2;obtain⟨y,p',rfl,_⟩:=dW b2;have hn:=List.all_eq_true.mp a1.2;exact(tM En GE a2.1 (hn _ (List.mem_cons_self ..)) (hn _ (List.mem_cons_of_mem _ (List.mem_cons_self ..)))).of rfl ok
   |cons t3 ts=>induction ts using List.casesOn with
    |nil=>
     intro ok;have a1:=ay ok;have a2:=ay a1.1;obtain⟨x,p,rfl,b2⟩:=dW a2.2;obtain⟨y,p',rfl,b3⟩:=dW b2;obtain⟨z,p'',rfl,_⟩:=dW b3;have hn:=List.all_eq_true.mp a1.2;exact(qe En GE a2.1 (hn _ (List.mem_cons_self ..)) (hn _ (List.mem_cons_of_mem _ (List.mem_cons_self ..))) (hn _ (List.mem_cons_of_mem _ (List.mem_cons_of_mem _ (List.mem_cons_self ..))))).of rfl ok
    |cons _ _=>exact λok=>ab ok
theorem BL{x:Nm}(h1:ae (kd κ x)=true)(h:(rd κ Φ ρ x).1=true):∃v,lk ρ x = .val v/\(rd κ Φ ρ x).2=v:=by
 unfold rd at h |-;rw[h1]at h |-;generalize lk ρ x=sl at h |-
 induction sl using Mine.Slot.casesOn with
 |val v=>exact⟨v,rfl,rfl⟩
 |_=>exact ab h
theorem x5(Fa:av G A Φ)(En:am env κ){τ:Tau}{t:Expr}{op:Operator}{e:Expr}{pos:Pos}:db G A env X ρ (exec (.AugAssign t op e pos) env) (nF (ev Φ τ 40 κ ρ) κ Φ ρ t op e):=by
 induction t using Expr.casesOn with
 |Name x p=>
  intro ok;have a5:=ay ok;have a4:=ay a5.1;have a3:=ay a4.1;have a2:=ay a3.1;obtain⟨v,h1,h2⟩:=BL a2.1 a2.2;have b4:=a4.2;have b5:=a5.2;rw[h2]at b4 b5;refine(xY En (fw Fa τ 40 κ env X ρ En).1 h1 a3.2 a2.1 b4 b5).of ?_ ok;show em.next (put ρ (nm x) (.val (bW op (rd κ Φ ρ (nm x)).2 (ev Φ τ 40 κ ρ e).2).2))=_;rw[h2]
 |_=>exact λok=>ab ok
noncomputable def Db(e:Expr)(x:Str×Expr):Prop:=∃p q pos,e = .Call (.Attribute (.Name x.1 p) "append" q) [x.2] [] pos/\q.endLine=pos.line
theorem tP{e:Expr}{x:Str×Expr}(h:qP e=some x):Db e x:=by
 induction e using Expr.casesOn with
 |Call f as kw pos=>induction f using Expr.casesOn with
  |Attribute o m q=>induction o using Expr.casesOn with
   |Name y p=>induction as using List.casesOn with
    |nil=>exact ao h
    |cons a as=>
     have h:(bif af (nm m) (nm "append")&&(q.endLine==pos.line)&&as.isEmpty&&kw.isEmpty then some (y,a)else none)=some x:=h;generalize c:(af (nm m) (nm "append")&&(q.endLine==pos.line)&&as.isEmpty&&kw.isEmpty)=b at h
     induction b using Bool.casesOn with
     |true=>
      have c1:=ay c;have c2:=ay c1.1;have c3:=ay c2.1;rw[<-Option.some.inj h,g8 c3.1,List.isEmpty_iff.mp c2.2,List.isEmpty_iff.mp c1.2];exact⟨p,q,pos,rfl,eq_of_beq c3.2⟩
     |false=>exact ao h
   |_=>exact ao h
  |_=>exact ao h
 |_=>exact ao h
theorem x6(En:am env κ){E:Expr->R}(GE:ar G A env X ρ E){x:Str}{a:Expr}{p q pos spos:Pos}(hq:q.endLine=pos.line):db G A env X ρ (exec (.Expr (.Call (.Attribute (.Name x p) "append" q) [a] [] pos) spos) env) (zk (ae (kd κ (nm x))) ρ (nm x) (E a) (lk ρ (nm x))):=by
 generalize hl:lk ρ (nm x)=sl
 induction sl using Mine.Slot.casesOn with
 |own l=>
  intro ok;have a1:=ay ok;have a2:=ay a1.1;exact(rF En GE hl a2.1 a2.2 hq (of_decide_eq_true a1.2)).of rfl ok
 |_=>exact λok=>ab ok
theorem vM(Fa:av G A Φ)(En:am env κ){τ:Tau}{e:Expr}{pos:Pos}:db G A env X ρ (exec (.Expr e pos) env) (lr (ev Φ τ 40 κ ρ) κ ρ e):=by
 unfold lr;generalize h:qP e=o
 induction o using Option.casesOn with
 |none=>exact λok=>ab ok
 |some x=>
  obtain⟨p,q,pos',rfl,hq⟩:=tP h;exact x6 En (fw Fa τ 40 κ env X ρ En).1 hq
end
end
section
open PySem PySem.W PySem.Calls PyProof.Rows
section
variable {G:Cfg} {A:Around} {env:Env} {X:Addr->Prop} {κ:List (Str×NameKind)} {ρ:Rho} {O:Nm->Option Addr} {Φ:Fns}
noncomputable def qg(M:Model)(A:Around)(env:Env)(E:Value->Shared->Prop):List (List Stmt)->(Flow->Shared->Prop)->Shared->Prop
 |[],Q,s=>Q .next s
 |a::r,Q,s=>wpAny M A (execs a env) (λf s'=>match f with
  | .next=>qg M A env E r Q s'
  |f=>Q f s') E s
theorem cM {M:Model} {E:Value->Shared->Prop} {st:Stmt} {a:List Stmt} {r:List (List Stmt)} {Q:Flow->Shared->Prop} {s:Shared}
 (h:wpAny M A (exec st env) (λf s'=>match f with
   | .next=>qg M A env E (a::r) Q s'
   |f=>Q f s') E s):qg M A env E ((st::a)::r) Q s:=
 wpAny_execs_cons (wpAny_mono h (λf s' h'=>by induction f using Flow.casesOn<;>exact h') λ_ _ e=>e)
noncomputable def gk(G:Cfg)(A:Around)(env:Env)(X:Addr->Prop)(ρ:Rho)(segs:List (List Stmt))(r:Res):Prop:=
 r.1=true->∀O s,bJ G env X O ρ s.heap->∀(E:Value->Shared->Prop) (Q:Flow->Shared->Prop),(∀f s',da G env X O s r.2 f s'->Q f s')->qg (model G.p G.w) A env E segs Q s
theorem da.next{s s':Shared}{o:em}(h:da G env X O s o .next s'):∃ρ' O',o = .next ρ'/\bJ G env X O' ρ' s'.heap/\Mv env O O' s s':=by
 induction o using em.casesOn with
 |next ρ'=>obtain⟨O',h1,h2⟩:=h;exact⟨ρ',O',rfl,h1,h2⟩
 |_=>exact h.elim
theorem da.other{s s':Shared}{o:em}{f:Flow}(hf:f ≠ .next)(h:da G env X O s o f s'):(∀ρ',o ≠ .next ρ'):=by
 induction o using em.casesOn with
 |next ρ'=>induction f using Flow.casesOn<;>first|exact absurd rfl hf|exact h.elim
 |_=>intro _ e;injections e
theorem gJ{st:Stmt}{a:List Stmt}{r:List (List Stmt)}{q:Res}{k:Rho->Res}(h1:db G A env X ρ (exec st env) q)(h2:∀ρ',gk G A env X ρ' (a::r) (k ρ')):gk G A env X ρ ((st::a)::r) (seq q k):=by
 intro ok O s S E Q post;obtain⟨b,o⟩:=q;have hb:b=true:=by
  induction o using em.casesOn with
  |next ρ'=>have:(b&&(k ρ').1)=true:=ok;rw[Bool.and_eq_true]at this;exact this.1
  |_=>exact ok
 refine cM (h1 hb O s S E _ λf s' hf => ?_)
 by_cases hn:f = .next
 ·subst hn
  obtain⟨ρ',O',e,S',m⟩:=da.next hf;have e:o = .next ρ':=e;subst e;have ok':(b&&(k ρ').1)=true:=ok;rw[Bool.and_eq_true]at ok';exact h2 ρ' ok'.2 O' s' S' E Q λf' s'' h'=>post f' s'' (da.from m h')
 ·have ho:=da.other hn hf
  have e2:(seq (b,o) k).2=o:=by
   induction o using em.casesOn with
   |next ρ'=>exact absurd rfl (ho ρ')
   |_=>rfl
  rw[e2]at post;have hq:=post f s' hf
  induction f using Flow.casesOn<;>first|exact absurd rfl hn|exact hq
theorem cG{ns:List Nm}{segs:List (List Stmt)}{r:Res}(h:gk G A env X (freeze ns ρ) segs r):gk G A env X ρ segs r:=by
 intro ok O s S E Q post;obtain⟨O',S',f⟩:=S.coarse (ρ':=freeze ns ρ) (oD ns ρ);refine h ok O' s S' E Q λf' s' hr=>post f' s' (da.from ⟨s.heap,s.toks,rfl,λ_ _ _ e=>e,λb o _ fb=>f _ b fb⟩ hr)
theorem x7(Fa:av G A Φ)(En:am env κ){τ:Tau}{t:Expr}{b:List Stmt}{pos:Pos}{f:Rho->Res}{W:Nat}(hb:∀ρ',gk G A env X ρ' [b] (f ρ')):
 db G A env X ρ (exec (.While t b [] pos) env) (bE (λρ=>ev Φ τ 40 κ ρ t) f W ρ):=by
 intro ok O s S E Q post;refine wpAny_While (codeAny_whileLoop (λn s'=>∃ρ' O',bJ G env X O' ρ' s'.heap/\Mv env O O' s s'/\(bE (λρ=>ev Φ τ 40 κ ρ t) f n ρ').1=true/\(bE (λρ=>ev Φ τ 40 κ ρ t) f n ρ').2=(bE (λρ=>ev Φ τ 40 κ ρ t) f W ρ).2) (λn s' hI => ?_) W ⟨ρ,O,S,Mv.refl s,ok,rfl⟩);obtain⟨ρ',O',S',m,o1,o2⟩:=hI
 induction n using Nat.casesOn with
 |zero=>cases o1
 |succ n=>
  rw[iP]at o1 o2;have GT:=(fw (G:=G) (A:=A) Fa τ 40 κ env X ρ' En).2;cases hc:(aa (ev Φ τ 40 κ ρ' t).2).2 with
  |false=>
   rw[hc]at o1 o2;simp only[cond_false,Bool.and_eq_true]at o1 o2;refine GT.ok t o1.1 o1.2 O' s' S' _ _ λs2 k2 => ?_
   rw[hc];simp only[Bool.false_eq_true,if_false];refine wpAny_execs_nil (post .next s2 ?_);rw[<-o2];exact⟨O',S'.keeps (Kp.keep k2),m.trans (Mv.of_keeps k2)⟩
  |true=>
   rw[hc]at o1 o2;simp only[cond_true]at o1 o2;have hz:(ev Φ τ 40 κ ρ' t).1=true/\(aa (ev Φ τ 40 κ ρ' t).2).1=true/\(f ρ').1=true:=by
    cases e:(f ρ').2<;>rw[e]at o1<;>simp only[Bool.and_eq_true]at o1
    ·exact⟨o1.1.1.1,o1.1.1.2,o1.1.2⟩
    ·exact⟨o1.1.1,o1.1.2,o1.2⟩
    ·exact⟨o1.1.1,o1.1.2,o1.2⟩
    ·exact⟨o1.1.1,o1.1.2,o1.2⟩
   refine GT.ok t hz.1 hz.2.1 O' s' S' _ _ λs2 k2 => ?_
   rw[hc];simp only[if_true];have S2:=S'.keeps (Kp.keep k2);have m2:=m.trans (Mv.of_keeps k2);have body:=hb ρ' hz.2.2 O' s2 S2;refine wpAny_mono (body _ (λfl s3=>match fl with
    | .next| .cont=>∃m',m'<n+1/\∃ρ'' O'',bJ G env X O'' ρ'' s3.heap/\Mv env O O'' s s3/\(bE (λρ=>ev Φ τ 40 κ ρ t) f m' ρ'').1=true/\(bE (λρ=>ev Φ τ 40 κ ρ t) f m' ρ'').2=(bE (λρ=>ev Φ τ 40 κ ρ t) f W ρ).2
    | .brk=>Q .next s3
    | .ret v=>Q (.ret v) s3) λfl s3 hr => ?_) (λfl s3 h=>by induction fl using Flow.casesOn<;>exact h) λ_ _ e=>e
   cases e:(f ρ').2 with
   |next ρ''=>
    rw[e]at hr o1 o2
    induction fl using Flow.casesOn with
    |next=>
     obtain⟨O3,S3,m3⟩:=hr;simp only[Bool.and_eq_true]at o1;exact⟨n,Nat.lt_succ_self n,ρ'',O3,S3,m2.trans m3,o1.2,o2⟩
    |_=>exact hr.elim
   |brk ρ''=>
    rw[e]at hr o2
    induction fl using Flow.casesOn with
    |brk=>
     obtain⟨O3,S3,m3⟩:=hr;refine post .next s3 ?_;rw[<-o2];exact⟨O3,S3,m2.trans m3⟩
    |_=>exact hr.elim
   |ret v=>
    rw[e]at hr o2
    induction fl using Flow.casesOn with
    |ret u=>
     obtain⟨O3,r3,m3⟩:=hr;refine post (.ret u) s3 ?_;rw[<-o2];exact⟨O3,r3,m2.trans m3⟩
    |_=>exact hr.elim
   |bad=>rw[e]at hr;induction fl using Flow.casesOn<;>exact hr.elim
theorem It.draw {t:Expr} {X0:Addr->Prop} {hp:Heap} {it:Value} {fp wr:List Addr} {xs:List V} {St:Nat->Heap->Prop} (I:It G A t X0 hp it fp wr xs St) {i:Nat} {s:Shared} {Y:Addr->Prop} (hi:i<xs.length) (st:St i s.heap) (on:On X0 Y hp s.heap) (al:aF Y s.heap) (hw:∀b∈wr,Y b)
 {E:Value->Shared->Prop} {N:Shared->Prop} {P:Value->Shared->Prop}
 (q:∀v h' tk,ah G Y h' (xs.getD i .none) v->St (i+1) h'->(∀b o,b∉wr->s.heap.get? b=some o->h'.get? b=some o)->P v { s with heap:=h',toks:=tk }):
 wpAny (model G.p G.w) A (pyNext it) (λr s₁=>match r with
  |none=>N s₁
  |some v=>wpAny (model G.p G.w) A (letOwnedTupleGo t it v) (λ_ s₂=>P v s₂) E s₁) E s:=
 wpAny_mono (I.item i s Y hi st on al hw E P q) (λr s1 h=>by obtain⟨v,rfl,h⟩:=h;exact h) λ_ _ e=>e
theorem BM(Fa:av G A Φ)(En:am env κ){τ:Tau}{t it:Expr}{b:List Stmt}{pos:Pos}{f:Rho->Res}(hb:∀(X:Addr->Prop) ρ',gk G A env X ρ' [b] (f ρ'))(oi:(aQ κ (ev Φ τ 40 κ ρ) t it).1=true)(ht:fH κ (az t)=true):
 db G A env X ρ (exec (.For t it b [] pos) env) (bK (λv ρ=>((aT t v ρ).1&&(f (aT t v ρ).2).1,(f (aT t v ρ).2).2)) ρ (aQ κ (ev Φ τ 40 κ ρ) t it).2 ρ):=by
 generalize hF:(λv ρ=>((aT t v ρ).1&&(f (aT t v ρ).2).1,(f (aT t v ρ).2).2):V->Rho->Res)=F;intro ok O s S E Q post;have GE:=(fw (G:=G) (A:=A) Fa τ 40 κ env X ρ En).1;have htn:∀x∈az t,ae (kd κ x)=true:=λx hx=>List.all_eq_true.mp ht x hx
 refine wpAny_For ?_ (p9 GE oi);refine p0 (t:=t) Fa En GE oi O s S _ _ λitv s4 k4 I4 => ?_
 obtain⟨s1,fp,wr,St,k1,k14,I,st4,nfp,nwr⟩:=I4;generalize hxs:(aQ κ (ev Φ τ 40 κ ρ) t it).2=xs at I ok post;have live4:=I.live _ _ st4;have S1:=S.keeps (Kp.keep k1);have dead:∀b,(∃o,s1.heap.get? b=some o)->b∉wr:=λb ⟨o,e⟩ hb=>by rw[nwr b hb]at e;injections e
 obtain⟨S4,_⟩:=S1.more (Kp.keep k14) (Z:=λb=>b∈wr) λb hb=>⟨nwr b hb,live4 b (I.sub b hb)⟩
 have fpN:∀b∈fp,¬ag env jt O b:=λb hb f=>nfp b hb (f.elim (λh=>h.elim) Or.inr)
 have away:∀{O':Nm->Option Addr} {ρ':Rho} {h:Heap},bJ G env (λb=>X b\/b∈wr) O' ρ' h->∀{h'},(∀b o,b∉wr->h.get? b=some o->h'.get? b=some o)->bJ G env X O' ρ' h':=λ{O' ρ' h} S' {h'} k=>
  S'.less (Z:=λb=>b∈wr) (λb hb => .inr hb) (λb hb=>⟨.inl hb,dead b (S1.alive b (.inl hb))⟩) (λb hb=>dead b (S1.alive b (.inr (.inl hb)))) λb o nz e=>k b o nz e
 refine codeAny_forLoop_any (λn s'=>∃i ρ' O',n=xs.length-i/\i<=xs.length/\bJ G env (λb=>X b\/b∈wr) O' ρ' s'.heap/\St i s'.heap/\(∃h tk,s'={ s4 with heap:=h,toks:=tk }) /\
  (∀b o,¬ag env jt O b->b∉wr->s4.heap.get? b=some o->s'.heap.get? b=some o)/\(∀b o,s4.heap.get? b=some o->ag env jt O' b->ag env jt O b) /\
  (bK F ρ (xs.drop i) ρ').1=true/\(bK F ρ (xs.drop i) ρ').2=(bK F ρ xs ρ).2) (λn s' hI => ?_) xs.length
  ⟨0,ρ,O,rfl,Nat.zero_le _,S4,st4,⟨s4.heap,s4.toks,rfl⟩,λb o _ _ e=>e,λb o _ f=>f,ok,rfl⟩
 obtain⟨i,ρ',O',rfl,hi,S',st',⟨h',tk',e'⟩,kp,off,o1,o2⟩:=hI;have mvT:∀{O'':Nm->Option Addr} {h'':Heap} {tk'':Nat},(∀b o,¬ag env jt O b->b∉wr->s4.heap.get? b=some o->h''.get? b=some o)->(∀b o,s4.heap.get? b=some o->ag env jt O'' b->ag env jt O b) ->
  Mv env O O'' s { s4 with heap:=h'',toks:=tk'' }:=λ{O'' h'' tk''} kp' off'=>by
  obtain⟨h4,t4,e4,kk4⟩:=k4;subst e4;exact⟨h'',tk'',rfl,λb o nb e=>kp' b o nb (dead b ⟨o,Kp.keep k1 b o e⟩) (kk4 b o e),λb o e f=>off' b o (kk4 b o e) f⟩
 by_cases hlt:i<xs.length
 ·rw[p8 hlt]at o1 o2
  generalize hx:xs.getD i .none=x at o1 o2;have oF:(F x ρ').1=true:=by
   rw[fY]at o1;generalize (F x ρ').2=o at o1
   induction o using em.casesOn with
   |next r=>exact(ay o1).1
   |_=>exact o1
  have eF1:(F x ρ').1=((aT t x ρ').1&&(f (aT t x ρ').2).1):=by rw[<-hF]
  have eF2:(F x ρ').2=(f (aT t x ρ').2).2:=by rw[<-hF]
  rw[eF1,Bool.and_eq_true]at oF;have onX:On (ag env X O) (ag env (λb=>X b\/b∈wr) O') s1.heap s'.heap:=⟨λb o nb e=>kp b o (λf=>nb (f.elim (λh=>h.elim) Or.inr)) (dead b ⟨o,e⟩) (Kp.keep k14 b o e),λb o e f=>by
   rcases f with(f|f)|f|f
   ·exact .inl f
   ·exact absurd f (dead b ⟨o,e⟩)
   ·exact .inr (.inl f)
   ·rcases off b o (Kp.keep k14 b o e) (.inr (.inr f))with f|f|f
    ·exact f.elim
    ·exact .inr (.inl f)
    ·exact .inr (.inr f)⟩
  refine I.draw (Y:=ag env (λb=>X b\/b∈wr) O') hlt st' onX S'.full (λb hb => .inl (.inr hb)) λv h2 tk2 rv st2 k2 => ?_
  have S2:bJ G env (λb=>X b\/b∈wr) O' ρ' h2:=S'.skip (Z:=λb=>b∈wr) (λb hb => .inr hb) (λb hb=>dead b (S1.alive b (.inr (.inl hb)))) (λb o nz e=>k2 b o nz e) λb hb=>I.live _ _ st2 b (I.sub b hb)
  rw[hx]at rv;refine tq (s:={ s' with heap:=h2,toks:=tk2 }) Fa.none En oF.1 htn S2 rv _ _ λs3 S3 mv3 => ?_
  obtain⟨h3,tk3,e3,k3,al3⟩:=mv3;have own4:∀b,du env b->∀c∈fp,b≠c:=λb hb c hc e=>nfp c hc (.inr (.inl (e▸hb)))
  have st3:St (i+1) h3:=I.frame _ _ _ st2 λb hb o e=>k3 b o (λy _ pl=>own4 b pl.own b hb rfl) e
  have hs3:s3.heap=h3:=by rw[e3]
  have kp3:∀b o,¬ag env jt O b->b∉wr->s4.heap.get? b=some o->s3.heap.get? b=some o:=λb o nb nw e=>by
   rw[hs3];exact k3 b o (λy _ pl=>nb (.inr (.inl pl.own))) (k2 b o nw (kp b o nb nw e))
  have off3:∀b o,s4.heap.get? b=some o->ag env jt (iX O' (az t)) b->ag env jt O b:=λb o e fb=>off b o e (ag.upd fb)
  have same3:∃h tk,s3={ s4 with heap:=h,toks:=tk }:=⟨h3,tk3,by rw[e3,e']⟩;refine wpAny_mono (hb (λb=>X b\/b∈wr) _ oF.2 _ s3 S3 _ (λfl s5=>match fl with
   | .next| .cont=>∃m',m'<xs.length-i/\∃i ρ' O',m'=xs.length-i/\i<=xs.length/\bJ G env (λb=>X b\/b∈wr) O' ρ' s5.heap/\St i s5.heap/\(∃h tk,s5={ s4 with heap:=h,toks:=tk }) /\
       (∀b o,¬ag env jt O b->b∉wr->s4.heap.get? b=some o->s5.heap.get? b=some o)/\(∀b o,s4.heap.get? b=some o->ag env jt O' b->ag env jt O b) /\
       (bK F ρ (xs.drop i) ρ').1=true/\(bK F ρ (xs.drop i) ρ').2=(bK F ρ xs ρ).2
   | .brk=>Q .next s5
   | .ret v=>Q (.ret v) s5) λfl s5 hr => ?_) (λfl s5 h=>by induction fl using Flow.casesOn<;>exact h) λ_ _ e=>e
  have fin:∀{O5:Nm->Option Addr},Mv env (iX O' (az t)) O5 s3 s5->(∃h tk,s5={ s4 with heap:=h,toks:=tk })/\(∀b o,¬ag env jt O b->b∉wr->s4.heap.get? b=some o->s5.heap.get? b=some o) /\
   (∀b o,s4.heap.get? b=some o->ag env jt O5 b->ag env jt O b\/b∈wr)/\(∀b o,b∈fp->s3.heap.get? b=some o->s5.heap.get? b=some o):=λ{O5} mv5=>by
   obtain⟨h5,t5,e5,on5⟩:=mv5;subst e5;obtain⟨h3',tk3',e3'⟩:=same3;refine⟨⟨h5,t5,by rw[e3']⟩,λb o nb nw e => ?_,λb o e fb => ?_,λb o hb e => ?_⟩
   ·refine on5.keep b o (λf=>nb (off3 b o e f)) (kp3 b o nb nw e)
   ·by_cases hw:b∈wr
    ·exact .inr hw
    ·by_cases nb:ag env jt O b
     ·exact .inl nb
     ·exact .inl (off3 b o e (on5.off b o (kp3 b o nb hw e) fb))
   ·refine on5.keep b o (λf => ?_) e
    obtain⟨o4,e4⟩:=live4 b hb;exact fpN b hb (off3 b o4 e4 f)
  cases e:(f (aT t x ρ').2).2 with
  |next ρ''=>
   rw[e]at hr
   induction fl using Flow.casesOn with
   |next=>
    obtain⟨O5,S5,mv5⟩:=hr;obtain⟨g1,g2,g3,g4⟩:=fin mv5;obtain⟨O6,S6,f6⟩:=S5.coarse (ρ':=mask ρ ρ'') (qa ρ ρ'');have un:bK F ρ (x::xs.drop (i+1)) ρ'=((F x ρ').1&&(bK F ρ (xs.drop (i+1)) (mask ρ ρ'')).1,(bK F ρ (xs.drop (i+1)) (mask ρ ρ'')).2):=by
     rw[fY,eF2,e]
    rw[un]at o1 o2;simp only[Bool.and_eq_true]at o1;refine⟨xs.length-(i+1),⋯,i+1,mask ρ ρ'',O6,rfl,hlt,S6,I.frame _ _ _ (hs3▸st3) λb hb o e=>g4 b o hb e,g1,g2,λb o e fb => ?_,o1.2,o2⟩;have fb5:=f6 jt b fb
    rcases g3 b o e fb5 with h|h
    ·exact h
    ·rcases fb5 with f|f|⟨y,f⟩
     ·exact f.elim
     ·exact .inr (.inl f)
     ·exact absurd (Or.inr h) (S5.apart y b f).1
   |_=>exact hr.elim
  |brk ρ''=>
   rw[e]at hr
   induction fl using Flow.casesOn with
   |brk=>
    obtain⟨O5,S5,mv5⟩:=hr;obtain⟨⟨h5,t5,e5⟩,g2,g3,g4⟩:=fin mv5;have S5':=away S5 (h':=s5.heap) λ_ _ _ e=>e
    obtain⟨O6,S6,f6⟩:=S5'.coarse (ρ':=mask ρ ρ'') (qa ρ ρ'');have un:bK F ρ (x::xs.drop (i+1)) ρ'=((F x ρ').1, .next (mask ρ ρ'')):=by
     rw[fY,eF2,e]
    rw[un]at o2;refine post .next s5 ?_;rw[<-o2];refine⟨O6,S6, ?_⟩;subst e5;refine mvT g2 λb o e fb => ?_
    have fb5:=f6 jt b fb
    rcases g3 b o e fb5 with h|h
    ·exact h
    ·rcases fb5 with f|f|⟨y,f⟩
     ·exact f.elim
     ·exact .inr (.inl f)
     ·exact absurd (Or.inr h) (S5.apart y b f).1
   |_=>exact hr.elim
  |ret v=>
   rw[e]at hr
   induction fl using Flow.casesOn with
   |ret u=>
    obtain⟨O5,r5,mv5⟩:=hr;obtain⟨⟨h5,t5,e5⟩,g2,g3,g4⟩:=fin mv5;have un:bK F ρ (x::xs.drop (i+1)) ρ'=((F x ρ').1, .ret v):=by
     rw[fY,eF2,e]
    rw[un]at o2;refine post (.ret u) s5 ?_;rw[<-o2];subst e5;refine⟨λy=>match O5 y with|some a=>if a∈wr then none else some a|none=>none,r5.on ⟨λ_ _ _ e=>e,λb o _ fb => ?_⟩,mvT g2 λb o e fb => ?_⟩
    ·rcases fb with f|f|⟨y,f⟩
     ·exact .inl (.inl f)
     ·exact .inr (.inl f)
     ·dsimp only at f
      split at f
      ·split at f
       ·cases f
       ·injection f with f;subst f;exact .inr (.inr ⟨y,by assumption⟩)
      ·cases f
    ·rcases fb with f|f|⟨y,f⟩
     ·exact f.elim
     ·exact .inr (.inl f)
     ·dsimp only at f
      split at f
      ·rename_i a ha
       split at f
       ·cases f
       ·rename_i hw
        injection f with f;subst f
        exact(g3 _ o e (.inr (.inr ⟨y,ha⟩))).elim id λh=>absurd h hw
      ·cases f
   |_=>exact hr.elim
  |bad=>rw[e]at hr;induction fl using Flow.casesOn<;>exact hr.elim
 ·have hi':i=xs.length:=⋯
  subst hi';refine I.done s' st' _ _ λh2 tk2 k2 => ?_
  refine wpAny_execs_nil (post .next _ ?_);rw[List.drop_length]at o2;have e2:(bK F ρ xs ρ).2 = .next ρ':=o2.symm;rw[e2];refine⟨O',away S' k2, ?_⟩;subst e';exact mvT (λb o nb nw e=>k2 b o nw (kp b o nb nw e)) off
end
end
section
open PySem PySem.W PySem.Calls PyProof.Rows
section
variable {G:Cfg} {A:Around} {env:Env} {X:Addr->Prop} {κ:List (Str×NameKind)} {ρ:Rho} {O:Nm->Option Addr} {Φ:Fns}
theorem da.coarser{s s':Shared}{ρ1 ρ2:Rho}(h:da G env X O s (.next ρ1) .next s')(l:∀x,ix (lk ρ2 x) (lk ρ1 x)):da G env X O s (.next ρ2) .next s':=by
 obtain⟨O',S,h1,t,e,on⟩:=h;obtain⟨O2,S2,f⟩:=S.coarse l;exact⟨O2,S2,h1,t,e,on.trans ⟨λb o nb hb=>hb,λb o _ fb=>f _ b fb⟩|>λm=>⟨m.keep,m.off⟩⟩
theorem zR(Fa:av G A Φ)(En:am env κ){τ:Tau}{t:Expr}{a b:List Stmt}{pos:Pos}{ns:List Nm}{ra rb:Res}(ha:gk G A env X ρ [a] ra)(hb:gk G A env X ρ [b] rb)(sa:ak ns ρ ra.2)(sb:ak ns ρ rb.2):
 db G A env X ρ (exec (.If t a b pos) env) (nG ns ((ev Φ τ 40 κ ρ t).1&&(aa (ev Φ τ 40 κ ρ t).2).1) (aa (ev Φ τ 40 κ ρ t).2).2 ra rb):=by
 have GT:=(fw (G:=G) (A:=A) Fa τ 40 κ env X ρ En).2;intro ok O s S E Q post;obtain⟨ba,oa⟩:=ra;obtain⟨bb,ob⟩:=rb
 induction oa using em.casesOn with
 |next ρa=>
  induction ob using em.casesOn with
  |next ρb=>
   have ok':(((ev Φ τ 40 κ ρ t).1&&(aa (ev Φ τ 40 κ ρ t).2).1)&&(bif (aa (ev Φ τ 40 κ ρ t).2).2 then ba else bb))=true:=ok;simp only[Bool.and_eq_true]at ok';obtain⟨⟨o1,o2⟩,o3⟩:=ok';have post':∀f s',da G env X O s (.next (et ns (aa (ev Φ τ 40 κ ρ t).2).2 ρa ρb)) f s'->Q f s':=post
   refine wpAny_If (GT.ok t o1 o2 O s S _ _ λs1 k1 => ?_);have mo:=ro (ns:=ns) (c:=(aa (ev Φ τ 40 κ ρ t).2).2) (ρ:=ρ) (a:=ρa) (b:=ρb) sa sb;cases hc:(aa (ev Φ τ 40 κ ρ t).2).2 with
   |true=>
    rw[hc]at o3 post' mo;simp only[cond_true]at o3 mo;simp only[if_true];refine wpAny_mono (ha o3 O s1 (S.keeps (Kp.keep k1)) E (λf s'=>f = .next/\da G env X O s1 (.next ρa) .next s') λf s' hr => ?_) (λf s' h => ?_) λ_ _ e=>e
    ·induction f using Flow.casesOn with
     |next=>exact⟨rfl,hr⟩
     |_=>exact hr.elim
    ·induction f using Flow.casesOn with
     |next=>exact post' _ _ (da.from (Mv.of_keeps k1) (da.coarser h.2 mo.2))
     |_=>cases h.1
   |false=>
    rw[hc]at o3 post' mo;simp only[cond_false]at o3 mo;simp only[Bool.false_eq_true,if_false];refine wpAny_mono (hb o3 O s1 (S.keeps (Kp.keep k1)) E (λf s'=>f = .next/\da G env X O s1 (.next ρb) .next s') λf s' hr => ?_) (λf s' h => ?_) λ_ _ e=>e
    ·induction f using Flow.casesOn with
     |next=>exact⟨rfl,hr⟩
     |_=>exact hr.elim
    ·induction f using Flow.casesOn with
     |next=>exact post' _ _ (da.from (Mv.of_keeps k1) (da.coarser h.2 mo.2))
     |_=>cases h.1
  |_=>injections ok
 |_=>injections ok
theorem rH(Fa:av G A Φ)(En:am env κ){τ:Tau}{μ:List Nm}{W:Nat}:∀(n:Nat) (segs:List (List Stmt)) (X:Addr->Prop) (ρ:Rho),gk G A env X ρ segs (ex Φ τ μ W κ n segs.flatten ρ)
 |0,segs,X,ρ=>λok=>absurd ok Bool.false_ne_true
 |n+1,[],X,ρ=>λok O s S E Q post=>post .next s ⟨O,S,Mv.refl s⟩
 |n+1,[]::r,X,ρ=>λok O s S E Q post=>wpAny_execs_nil (rH Fa En (n+1) r X ρ ok O s S E Q post)
 |n+1,(st::a)::r,X,ρ=>by
  have ih:=rH Fa En (τ:=τ) (μ:=μ) (W:=W) n;have fl:((st::a)::r).flatten=st::(a::r).flatten:=rfl;rw[fl];have one:∀(b:List Stmt) (X:Addr->Prop) (ρ':Rho),gk G A env X ρ' [b] (ex Φ τ μ W κ n b ρ'):=λb X ρ'=>by
   have:=ih [b] X ρ'
   rwa [show[b].flatten=b by simp]at this
  induction st using Stmt.casesOn with
  |Assign ts e p=>exact cG (gJ (rG Fa En) λρ'=>ih (a::r) X ρ')
  |AugAssign t op e p=>exact cG (gJ (x5 Fa En) λρ'=>ih (a::r) X ρ')
  |Expr e p=>exact cG (gJ (vM Fa En) λρ'=>ih (a::r) X ρ')
  |Pass p=>exact λok O s S E Q post=>cM (wpAny_Pass (ih (a::r) X ρ ok O s S E Q post))
  |Break p=>exact λok O s S E Q post=>cM (wpAny_Break (post .brk s ⟨O,S,Mv.refl s⟩))
  |Return v p=>
   induction v using Option.casesOn with
   |none=>exact λok O s S E Q post=>cM (wpAny_Return_none (post (.ret .none) s ⟨O,ah.none_iff.mpr rfl,Mv.refl s⟩))
   |some e=>
    refine cG (ns:=aB 40 e) ?_;intro ok O s S E Q post;have GE:=(fw (G:=G) (A:=A) Fa τ 40 κ env X (freeze (aB 40 e) ρ) En).1;exact cM (wpAny_Return_some (GE.ok e ok O s S _ _ λu s1 k1 r1=>post (.ret u) s1 ⟨O,r1,Mv.of_keeps k1⟩))
  |If t b c p=>
   refine cG (ns:=aB 40 t) ?_;show gk G A env X (freeze (aB 40 t) ρ) _ (bif aI b&&aI c&&aq (fits 20) b&&aq (fits 20) c then _ else _:Res);cases hc:(aI b&&aI c&&aq (fits 20) b&&aq (fits 20) c)with
   |true=>
    simp only[cond_true];simp only[Bool.and_eq_true]at hc;refine gJ (zR Fa En (one b X _) (one c X _) ?_ ?_) λρ'=>ih (a::r) X ρ'
    ·exact(qc n b _ 20 hc.1.2).more λz hz=>List.mem_append_left _ hz
    ·exact(qc n c _ 20 hc.2).more λz hz=>List.mem_append_right _ hz
   |false=>
    simp only[cond_false];have GT:=(fw (G:=G) (A:=A) Fa τ 40 κ env X (freeze (aB 40 t) ρ) En).2;intro ok O s S E Q post;unfold iQ at ok post;simp only[Bool.and_eq_true]at ok;obtain⟨⟨o1,o2⟩,o3⟩:=ok;dsimp only at post;refine cM (wpAny_If (GT.ok t o1 o2 O s S _ _ λs1 k1 => ?_));cases hc2:(aa (ev Φ τ 40 κ (freeze (aB 40 t) ρ) t).2).2 with
    |true=>
     rw[hc2]at o3 post;simp only[cond_true]at o3 post;simp only[if_true];exact ih (b::a::r) X _ o3 O s1 (S.keeps (Kp.keep k1)) E Q λf s' h=>post f s' (da.from (Mv.of_keeps k1) h)
    |false=>
     rw[hc2]at o3 post;simp only[cond_false]at o3 post;simp only[Bool.false_eq_true,if_false];exact ih (c::a::r) X _ o3 O s1 (S.keeps (Kp.keep k1)) E Q λf s' h=>post f s' (da.from (Mv.of_keeps k1) h)
  |For t it b els p=>
   induction els using List.casesOn with
   |cons _ _=>exact λok=>absurd ok Bool.false_ne_true
   |nil=>
    refine cG (ns:=aB 40 it) (gJ ?_ λρ'=>ih (a::r) X ρ');intro ok;simp only[Bool.and_eq_true]at ok;exact BM Fa En (f:=ex Φ τ μ W κ n b) (λX ρ'=>one b X ρ') ok.1.1 ok.1.2 ok.2
  |While t b els p=>
   induction els using List.casesOn with
   |cons _ _=>exact λok=>absurd ok Bool.false_ne_true
   |nil=>exact cG (ns:=aB 40 t) (gJ (x7 Fa En (f:=ex Φ τ μ W κ n b) λρ'=>one b X ρ') λρ'=>ih (a::r) X ρ')
  |_=>exact λok=>absurd ok Bool.false_ne_true
end
theorem jM{kindOf:Str->Option NameKind}:∀{bs:List (Str×Value)} {m:Str->Option Value} {x:Str},(∀b∈bs,b.1≠x)->bindL kindOf bs m x=m x/\bindC kindOf bs m x=m x
 |[],m,x,_=>⟨rfl,rfl⟩
 |(n,v)::r,m,x,h=>by
  have hn:x≠n:=λe=>h _ (List.mem_cons_self ..) e.symm
  have hr:=λb hb=>h b (List.mem_cons_of_mem _ hb)
  constructor
  ·unfold bindL
   rw[(jM hr).1]
   split
   ·show(if x=n then _ else _)=_;rw[if_neg hn]
   ·rfl
  ·unfold bindC
   rw[(jM hr).2]
   split
   ·rfl
   ·show(if x=n then _ else _)=_;rw[if_neg hn]
theorem qh{kindOf:Str->Option NameKind}:∀{bs:List (Str×Value)} {m:Str->Option Value} {x:Str} {u:Value},(bs.map (·.1)).Nodup->(x,u)∈bs->(kindOf x=some .local->bindL kindOf bs m x=some u)/\(kindOf x≠some .local->bindC kindOf bs m x=some u)
 |(n,v)::r,m,x,u,hn,h=>by
  rw[List.map_cons,List.nodup_cons]at hn
  rcases List.mem_cons.mp h with e|h
  ·injection e with e1 e2
   subst e1;subst e2;have off:=λm=>jM (kindOf:=kindOf) (bs:=r) (m:=m) (x:=x) λb hb e=>hn.1 (List.mem_map.mpr ⟨b,hb,e⟩)
   constructor
   ·intro hk
    unfold bindL;rw[(off _).1,if_pos hk];show(if x=x then some u else _)=_;rw[if_pos rfl]
   ·intro hk
    unfold bindC;rw[(off _).2,if_neg hk];show(if x=x then some u else _)=_;rw[if_pos rfl]
  ·have ih:=λm=>qh (kindOf:=kindOf) (m:=m) hn.2 h
   constructor
   ·intro hk;unfold bindL;exact(ih _).1 hk
   ·intro hk;unfold bindC;exact(ih _).2 hk
structure cN(G:Cfg)(a:Addr)(d:Def):Prop where
 ex:∃(o:Obj) (fd:FuncData) (ids:List Str),G.h0.get? a=some o/\o.data = .func fd/\G.h0.CodeRec fd.code fd.qualname/\fd.body = .stmts d.body/\fd.closure=[]/\fd.scope.names=d.κ/\fd.scope.kind = .function /\
  fd.scope.isCoroutine=false/\fd.scope.isGenerator=false/\fd.globals=mainGlobals/\fd.builtins=builtinsNs/\ids.map nm=d.params/\ids.Nodup /\
  (∀us:List Value,us.length=ids.length->bindArgs fd ⟨us,[]⟩=pure (ids.zip us))/\(∀x∈ids,fd.scope.names.lookup x=some .local\/fd.scope.names.lookup x=some .cell)
 once:iu d.κ
 nofree:∀x,(x,NameKind.free)∉d.κ
 plain:∀x k,(x,k)∈d.κ->(x==("__debug__":Str))=false/\(x==("__classdict__":Str))=false
theorem kR(bs:List (Nm×V)):∀(κ:List (Str×NameKind)) (x:Nm),lk (bX κ bs) x = .un\/∃v,kK bs x=some v/\lk (bX κ bs) x = .val v
 |[],x => .inl rfl
 |(y,k)::r,x=>by
  have ih:=kR bs r x;unfold bX at ih |-;rw[List.filterMap_cons];cases hk:ae (some k)with
  |false=>simpa[hk]using ih
  |true=>
   simp only[hk,cond_true];cases hb:kK bs (nm y)with
   |none=>
    show lk ((nm y, .un)::_) x = .un\/∃v,_/\lk ((nm y, .un)::_) x = .val v;rw[ii];cases e:af x (nm y)with
    |true=>exact .inl rfl
    |false=>exact ih
   |some v=>
    show lk ((nm y, .val v)::_) x = .un\/∃v',_/\lk ((nm y, .val v)::_) x = .val v';rw[ii];cases e:af x (nm y)with
    |true=>exact .inr ⟨v,by rw[ai.mp e];exact hb,rfl⟩
    |false=>exact ih
theorem tQ{G:Cfg}{X:Addr->Prop}{h:Heap}:∀{ids:List Str} {as:List V} {us:List Value} {x:Str} {v:V},Reps G X h as us->kK (kB (ids.map nm) as) (nm x)=some v->∃u,(x,u)∈ids.zip us/\ah G X h v u
 |[],as,us,x,v,_,e=>by induction as using List.casesOn<;>injections e
 |i::ids,[],us,x,v,_,e=>by injections e
 |i::ids,y::as,us,x,v,r,e=>by
  obtain⟨u,us',rfl,h1,h2⟩:=Reps.cons_iff.mp r;have e':(bif af (nm x) (nm i)then some y else kK (kB (ids.map nm) as) (nm x))=some v:=e;cases hx:af (nm x) (nm i)with
  |true=>
   rw[hx]at e'
   injection e' with e'
   subst e';rw[bQ (ai.mp hx)];exact⟨u,List.mem_cons_self ..,h1⟩
  |false=>
   rw[hx]at e';obtain⟨u',m,h3⟩:=tQ h2 e';exact⟨u',List.mem_cons_of_mem _ m,h3⟩
theorem gK{ids:List Str}{us:List Value}(h:us.length=ids.length):(ids.zip us).map (·.1)=ids:=by
 rw[List.map_fst_zip ⋯]
theorem gl{α:Type}:∀{l:List (Str×α)} {x:Str} {c:α},l.Pairwise (λa b=>a.1≠b.1)->(x,c)∈l->l.lookup x=some c
 |(y,d)::r,x,c,p,h=>by
  rw[List.pairwise_cons]at p;rw[List.lookup_cons]
  rcases List.mem_cons.mp h with e|h
  ·injection e with e1 e2
   subst e1;subst e2;rw[show(x==x)=true from beq_self_eq_true x]
  ·have:(x==y)=false:=by
    rw[<-Bool.not_eq_true];exact λe=>p.1 _ h (eq_of_beq e).symm
   rw[this];exact gl p.2 h
theorem cW:∀{names:List (Str×NameKind)} {n:Nat} {acc:List (Str×Addr)},iu names->(∀x∈acc,∀k,(x.1,k)∉names)->acc.Pairwise (λx y=>x.1≠y.1)->(cellsFrom n names acc).Pairwise λx y=>x.1≠y.1
 |[],n,acc,_,_,p=>p
 |(m,k)::r,n,acc,ho,ha,p=>by
  have ho':nm m∉r.map (λx=>nm x.1)/\iu r:=by
   unfold iu at ho;rw[List.map_cons,List.nodup_cons]at ho;exact ho
  unfold cellsFrom
  split
  ·refine cW ho'.2 (λx hx k' hk' => ?_) (List.pairwise_cons.mpr ⟨λy hy e => ?_,p⟩)
   ·rcases List.mem_cons.mp hx with e|hx
    ·subst e
     exact ho'.1 (List.mem_map.mpr ⟨_,hk',rfl⟩)
    ·exact ha x hx k' (List.mem_cons_of_mem _ hk')
   ·have e:m=y.1:=e
    exact ha y hy k (by rw[<-e];exact List.mem_cons_self ..)
  ·exact cW ho'.2 (λx hx k' hk'=>ha x hx k' (List.mem_cons_of_mem _ hk')) p
section
variable {G:Cfg} {A:Around} {Φ:Fns}
theorem BN {a:Addr} {d:Def} {τ:Tau} {W:Nat} (hd:cN G a d) (hroom:A.depth<recursionLimit) (hlim:G.h0.NoLimit) (Fa:∀e,av G (A.deeper e) Φ) {X:Addr->Prop} {s:Shared} {as:List V} {us:List Value} (old:m5 G s.heap) (off:vq G X) (al:aF X s.heap)
 (r:Reps G X s.heap as us) (ok:(bY Φ τ W d as).1=true):an G A X (call (.ref a) us) (bY Φ τ W d as).2 s:=by
 obtain⟨o,fd,ids,ho,hdata,hcd,hbody,hclo,hnames,hkind,hco,hgen,hgl,hbu,hids,hnd,hbind,hloc⟩:=hd.ex;unfold bY at ok |-;simp only[Bool.and_eq_true]at ok;obtain⟨hlen,ok⟩:=ok;have hlen':us.length=ids.length:=by
  have:=Nat.eq_of_beq_eq_true hlen;rw[<-hids,List.length_map]at this;rw[this,<-r.length]
 intro E Q q;have ho':s.heap.get? a=some o:=old a o ho;have hlim':s.heap.NoLimit:=hlim.keeps old;have hcd':s.heap.CodeRec fd.code fd.qualname:=hcd.keeps old;refine wpAny_call (codeAny_call_cells hroom ho' hdata hlim' hcd' hbody (hbind us hlen') hclo (λx hx => ?_) (λs₁ C => ?_) hco hgen hkind)
 ·have hm:x.1∈ids:=by rw[<-gK hlen'];exact List.mem_map.mpr ⟨x,hx,rfl⟩
  rcases hloc x.1 hm with h|h
  ·exact .inl h
  ·refine .inr ⟨h, ?_⟩
   obtain⟨c,hc⟩:=bw (n:=s.heap.objs.size+1) (acc:=[]) (mem_of_lookup h);obtain⟨c',e⟩:=cL hc;rw[e];rfl
 ·generalize henv:callEnvC fd s.heap.objs.size a=env at C |-
  have eScope:env.scope=fd.scope:=by rw[<-henv];rfl
  have eLoc:env.locals=s.heap.objs.size:=by rw[<-henv];rfl
  have eCells:env.cells=cellsFrom (s.heap.objs.size+1) fd.scope.names []:=by rw[<-henv];rfl
  have eKind:∀x,env.kindOf x=d.κ.lookup x:=λx=>by show env.scope.names.lookup x=_;rw[eScope,hnames]
  have noF:∀x,env.kindOf x≠some .free:=λx e=>hd.nofree x (mem_of_lookup (eKind x▸e))
  have En:am env d.κ:=
   { kind:=by rw[eScope];exact hkind
     names:=λx=>by rw[eKind,bq]
     free:=λx=>by rw[eKind,bq]
     glob:=λx=>by rw[eKind,bq]
     plain:=λx h=>by
      rw[eKind]at h;cases e:d.κ.lookup x with
      |none=>rw[e]at h;injections h
      |some k=>exact hd.plain x k (mem_of_lookup e)
     globals:=by rw[<-henv];exact hgl
     builtins:=by rw[<-henv];exact hbu }
  have kp:∀b o,s.heap.get? b=some o->s₁.heap.get? b=some o:=C.toInCall.keep
  have above:∀b,du env b->s.heap.objs.size<=b:=λb hb=>by
   rcases hb with e|⟨x,m⟩
   ·rw[e,eLoc];exact Nat.le_refl _
   ·have:=C.above x b m
    rw[eLoc]at this;exact Nat.le_of_lt this
  have dead:∀b,du env b->s.heap.get? b=none:=λb hb=>aW _ (above b hb)
  have cellsOnce:env.cells.Pairwise λx y=>x.1≠y.1:=by
   rw[eCells];exact cW (hnames▸hd.once) (λ_ h=>nomatch h) List.Pairwise.nil
  have aliveOwn:∀b,du env b->∃o,s₁.heap.get? b=some o:=λb hb=>by
   rcases hb with e|⟨x,m⟩
   ·obtain⟨o',_,_,e',_⟩:=C.toInCall.ns;rw[e];exact⟨o',e'⟩
   ·obtain⟨o',e',_⟩:=C.cell x b (gl cellsOnce m);exact⟨o',e'⟩
  have on:On X (ag env X λ_=>none) s.heap s₁.heap:=⟨λb o _ e=>kp b o e,λb o e f=>by
   rcases f with f|f|⟨y,f⟩
   ·exact f
   ·rw[dead b f]at e;injections e
   ·cases f⟩
  have S:bJ G env X (λ_=>none) (bX d.κ (kB d.params as)) s₁.heap:=
   { old:=λb o e=>kp b o (old b o e)
     new:=λb f=>by
      rcases f with f|f|⟨y,f⟩
      ·exact off b f
      ·cases e:G.h0.get? b with
       |none=>rfl
       |some o=>
        have:=old b o e;rw[dead b f]at this;injections this
      ·cases f
     alive:=λb f=>by
      rcases f with f|f|⟨y,f⟩
      ·obtain⟨o,e⟩:=al b f;exact⟨o,kp b o e⟩
      ·exact aliveOwn b f
      ·cases f
     look:=by
      refine⟨λx=>if env.kindOf x=some .local then bindL env.kindOf (ids.zip us) (λ_=>none) x else bindC env.kindOf (ids.zip us) (λ_=>none) x,⟨⟨_,C.toInCall.ns,λx hx=>by rw[if_pos hx]⟩,λx hx => ?_,C.apart⟩,λx hx => ?_⟩
      ·have hc:env.kindOf x=some .cell:=by
        cases e:env.kindOf x with
        |none=>rw[e]at hx;injections hx
        |some k=>induction k using NameKind.casesOn<;>first|rfl|exact absurd e (noF x)|(rw[e]at hx;injections hx)
       have hm:(x,NameKind.cell)∈fd.scope.names:=mem_of_lookup (by have:=eKind x;rw[hc]at this;rw[hnames];exact this.symm);obtain⟨c,hcm⟩:=bw (n:=s.heap.objs.size+1) (acc:=[]) hm;obtain⟨c',e⟩:=cL hcm;have e':env.cells.lookup x=some c':=by rw[eCells];exact e
       refine⟨c',e', ?_⟩
       skip
       rw[if_neg (by rw[hc];decide)];exact C.cell x c' e'
      ·rcases kR (kB d.params as) d.κ (nm x)with e|⟨v,e1,e2⟩
       ·rw[e];trivial
       ·rw[e2]
        rw[<-hids]at e1;obtain⟨u,m,hr⟩:=tQ r e1;refine⟨u, ?_,hr.on on⟩;have b:=qh (kindOf:=env.kindOf) (m:=λ_=>none) (by rw[gK hlen'];exact hnd) m;dsimp only
        by_cases hk:env.kindOf x=some .local
        ·rw[if_pos hk];exact b.1 hk
        ·rw[if_neg hk];exact b.2 hk
     inj:=λx y a e=>nomatch e
     apart:=λx a e=>nomatch e }
  obtain⟨hh,tk,es1⟩:=C.toInCall.same;have fin:∀O' s',Mv env (λ_=>none) O' s₁ s'->Keeps s s'/\∀v u,ah G (ag env X O') s'.heap v u->ah G X s'.heap v u:=λO' s' mv=>by
   obtain⟨h',tk',e,m⟩:=mv;subst e;refine⟨⟨h',tk',by rw[es1],λb o e => ?_⟩,λv u hr=>hr.on ⟨λ_ _ _ e=>e,λb o e xb => .inl xb⟩⟩;refine m.keep b o (λf => ?_) (kp b o e)
   rcases f with f|f|⟨y,f⟩
   ·exact f
   ·rw[dead b f]at e;injections e
   ·cases f
  unfold iR at ok q;have X0:=rH (G:=G) (A:=A.deeper env) (Fa env) En (τ:=τ) (μ:=aC (gT 20) d.body) (W:=W) 200 [d.body] X (bX d.κ (kB d.params as));have fl:[d.body].flatten=d.body:=by simp
  rw[fl]at X0;generalize ex Φ τ (aC (gT 20) d.body) W d.κ 200 d.body (bX d.κ (kB d.params as))=res at X0 ok q;obtain⟨b,out⟩:=res;have X2:∀(E:Value->Shared->Prop) (Q:Flow->Shared->Prop) (hb:b=true),(∀f s',da G env X (λ_=>none) s₁ out f s'->Q f s')->wpAny (model G.p G.w) (A.deeper env) (execs d.body env) Q E s₁:=λE Q hb hq=>
   wpAny_mono (X0 hb _ s₁ S E Q hq) (λf s' h'=>by induction f using Flow.casesOn<;>exact h') λ_ _ e=>e
  induction out using em.casesOn with
  |ret v=>
   refine X2 _ _ ok λf s' ho => ?_
   induction f using Flow.casesOn with
   |ret u=>
    obtain⟨O',h1,h2⟩:=ho;exact q u s' (fin O' s' h2).1 ((fin O' s' h2).2 _ _ h1)
   |_=>exact ho.elim
  |next ρ'=>
   refine X2 _ _ ok λf s' ho => ?_
   induction f using Flow.casesOn with
   |next=>
    obtain⟨O',h1,h2⟩:=ho;exact q .none s' (fin O' s' h2).1 (ah.none_iff.mpr rfl)
   |_=>exact ho.elim
  |_=>injections ok
end
end
section
open PySem PySem.W PySem.Calls PyProof.Rows
noncomputable def dc(G:Cfg)(n:Nat)(a:Addr)(F:List V->R):Prop:=∀A,fv n A->zt G A (.ref a) /\
 ∀X s as us,m5 G s.heap->vq G X->aF X s.heap->Reps G X s.heap as us->(F as).1=true->an G A X (call (.ref a) us) (F as).2 s
noncomputable def bG:List Str:=["raw","n","nt","norm","is_simple"]
structure gU(G:Cfg)(N:Addr)(mN mg mb:Str->Option Value):Prop where
 cls:ClsAt G.h0 G.C N mN
 noGA:mN "__getattribute__"=none
 noGet:mN "__getattr__"=none
 noSet:mN "__setattr__"=none
 noF:∀x∈bG,mN x=none
 noF0:∀x∈bG,typeLookup (.type "object") x=pure none
 glob:G.h0.Ns mainGlobals mg
 blt:G.h0.Ns builtinsNs mb
 bi:∀f v,By f->bootBuiltins f=some v->mg f=none/\mb f=some v
 lim:G.h0.NoLimit
 S:∃t,mN "S"=some (.str (tx [32]) t)
 T:∃t,mN "T"=some (.str (tx [9]) t)
 tp:∃ms,G.h0.Ns cStatics ms/\ms "thirdparty.any"=none
inductive Eo(h:Heap)(C N:Addr):Prop
 |mk (nm q:Str) (bs:List Value) (sn:List Str) (sub:List Value) (col:Option Bool) (dd:Option Addr) (k0 k1 k2 k3 k5:Option Value) (e:h.get? C=some (excClassObj nm q C N bs [.type "object"] true sn sub false col dd k0 k1 k2 k3 k5 "object.__new__"))
theorem gU.o{G:Cfg}{N:Addr}{mN mg mb:Str->Option Value}(B:gU G N mN mg mb){h:Heap}(old:m5 G h):Eo h G.C N:=by
 obtain⟨nm,q,bs,sn,sub,col,dd,k0,k1,k2,k3,k5,e⟩:=B.cls.obj;exact⟨nm,q,bs,sn,sub,col,dd,k0,k1,k2,k3,k5,old _ _ e⟩
structure qi(G:Cfg)(mN:Str->Option Value)(m:Str)(f:Addr):Prop where
 at_:mN m=some (.ref f)
 obj:∃o fd,G.h0.get? f=some o/\o.cls = .type "function"/\o.data = .func fd
 none0:∃y,typeLookup (.type "object") m=pure y
 notF:m∉bG
theorem fv.less{n m:Nat}{A:Around}(r:fv n A)(h:m<=n):fv m A:=⟨r.none,by have:=r.depth;omega,by have:=r.units;omega⟩
theorem fv.deeper{n:Nat}{A:Around}(r:fv (n+1) A)(e:Env):fv n (A.deeper e):=⟨r.none,by have:=r.depth;show A.depth+1+n<_;omega,by have:=r.units;show A.units+3+_+_<_;omega⟩
theorem kS{G:Cfg}{A:Around}{a:Addr}{o:Obj}{fd:FuncData}(h:G.h0.get? a=some o)(hd:o.data = .func fd):zt G A (.ref a):=λpos trees s E Q hp q=>
 Calls.callWith_function (o:=o) (fd:=fd) (wpAny_mono q (λx s1 h1=>⟨⟨h1.1 _ _ h,hd⟩,h1.2⟩) λ_ _ e=>e)
theorem iz{G:Cfg}{n:Nat}{a:Addr}{d:Def}{τ:Tau}{W:Nat}{Φ:Fns}(hd:cN G a d)(hlim:G.h0.NoLimit)(Fa:∀A,fv n A->av G A Φ):dc G (n+1) a (bY Φ τ W d):=λA r=>by
 obtain⟨o,fd,ids,ho,hdata,_⟩:=hd.ex;exact⟨kS ho hdata,λX s as us old off al rp ok=>BN hd (by have:=r.depth;omega) hlim (λe=>Fa _ (r.deeper e)) old off al rp ok⟩
section
variable {G:Cfg} {A:Around} {X:Addr->Prop} {N:Addr} {mN mg mb:Str->Option Value}
theorem uP{h:Heap}{a:Addr}{raw n nt cnt b sm}(W:pR G X h a raw n nt cnt b sm):∃m,h.Inst a G.C m/\(∀x:Str,x∉bG->m x=none) /\
 (∀(name:Str) v,w6 (nm name) (.ws raw n nt cnt b sm)=(true,v)->∃u,name∈bG/\m name=some u/\handedOut u=pure u/\ah G X h v u):=by
 obtain⟨o,d,m,T,T2,t,vs,g,h1,h2,h3,h4,h5,h6,h60,h7,h8,h9,h10,h11,h12,h13,h14,h15,h16⟩:=W;refine⟨m,⟨o,g,h1,h3, .inr ⟨d,h2,h4,h6⟩⟩,λx hx => ?_,λname v e => ?_⟩
 ·unfold bG at hx
  simp only[List.mem_cons,List.not_mem_nil,or_false,not_or]at hx;exact h60 x hx.1 hx.2.1 hx.2.2.1 hx.2.2.2.1 hx.2.2.2.2
 ·have e':(bif af (nm name) (nm "n")then(true,V.int n)else bif af (nm name) (nm "nt")then(true, .int nt)else bif af (nm name) (nm "norm")then(true, .tup [.tup (cnt.map .int), .int b])else bif af (nm name) (nm "is_simple")then(true, .bool sm)else bad)=(true,v):=e
  have sU:∀{x:Str},af (nm name) (nm x)=true->name=x:=λh=>bQ (ai.mp h)
  cases c1:af (nm name) (nm "n")with
  |true=>
   rw[c1]at e';injection e' with _ e'
   rw[sU c1,<-e'];obtain⟨t,e2⟩:=h8;exact⟨_,by simp[bG],e2,rfl,ah.int_iff.mpr ⟨t,rfl⟩⟩
  |false=>
  rw[c1]at e';cases c2:af (nm name) (nm "nt")with
  |true=>
   rw[c2]at e';injection e' with _ e'
   rw[sU c2,<-e'];obtain⟨t,e2⟩:=h9;exact⟨_,by simp[bG],e2,rfl,ah.int_iff.mpr ⟨t,rfl⟩⟩
  |false=>
  rw[c2]at e';cases c3:af (nm name) (nm "norm")with
  |true=>
   rw[c3]at e';injection e' with _ e'
   rw[sU c3,<-e'];have two:∀{cnt:List Int} {l:List Value},jB zl l cnt->Reps G X h (cnt.map V.int) l:=λ{cnt l} h=>by
    induction h with
    |nil=>exact Reps.nil
    |cons a b ih=>exact Reps.cons (ah.int_iff.mpr a) ih
   exact⟨_,by simp[bG],h10,rfl,ah.tup_iff.mpr ⟨T,_,rfl,h12,h13,Reps.cons (ah.tup_iff.mpr ⟨T2,vs,rfl,h14,h15,two h16⟩) (Reps.cons (ah.int_iff.mpr ⟨t,rfl⟩) Reps.nil)⟩⟩
  |false=>
  rw[c3]at e';cases c4:af (nm name) (nm "is_simple")with
  |true=>
   rw[c4]at e';injection e' with _ e'
   rw[sU c4,<-e'];exact⟨_,by simp[bG],h11,rfl,ah.bool_iff.mpr rfl⟩
  |false=>rw[c4]at e';cases e'
theorem m7{M:Model}{h:Heap}{C:Addr}{ms:Str->Option Value}(hs:h.Ns cStatics ms)(e:ms "thirdparty.any"=none):Looks M h (opaqueClassAbove (.ref C)) none:=
 Looks.andThen (a:=false) (λA Q E s k q=>wpAny_bind (wpAny_nsGet (hs.keeps k) (by rw[e];exact wpAny_pure q))) (by show Looks M h (if(!false)=true then pure none else _) none;rw[if_pos (show(!false)=true from rfl)];exact .now)
theorem vO{M:Model}{h:Heap}{x:Str}{t:Tok}:Looks M h (typeOf (.str x t)) (.type "str"):=Looks.of_pure rfl
theorem uQ {prog:Program} {w:World} {E:Value->Shared->Prop} {s:Shared} {C:Addr} {nm q:Str} {bs:List Value} {sn:List Str} {sub:List Value} {col:Option Bool} {dd:Option Addr} {k0 k1 k2 k3 k5:Option Value} {newId:String} {ms:Str->Option Value} {name x:Str} {t:Tok} {expr:Bool} {Q:Value->Shared->Prop}
 (hC:s.heap.get? C=some (excClassObj nm q C N bs [.type "object"] true sn sub false col dd k0 k1 k2 k3 k5 newId)) (hn:s.heap.Ns N mN) (hv:mN name=some (.str x t)) (hs:s.heap.Ns cStatics ms) (e:ms "thirdparty.any"=none)
 (ma:findIn [] (.type "type") name=some none) {y:Option Value} (hB:typeLookup (.type "object") name=pure y) (hq:Q (.str x t) { s with toks:=s.toks+1 }):wpAny (model prog w) A (getAttr (.ref C) name expr) Q E s:=by
 have X:Frag.In [] s.heap:=λa o h=>by injections h
 have ho:Looks (model prog w) s.heap (opaqueClassAbove (.ref C)) none:=m7 hs e;have ht:Looks (model prog w) s.heap (typeOf (.ref C)) (.type "type"):=λA Q E s k q=>wpAny_typeOf (T:="type") ⟨_,k _ _ hC,rfl⟩ q
 have hlk:Looks (model prog w) s.heap (typeLookup (.ref C) name) (some (.str x t)):=λA Q E s' k q=>by
  obtain⟨hh,g,d,tk,os⟩:=s';refine wpAny_typeLookup_exc (k _ _ hC) (hn.keeps k) ∅ hB ?_;rw[hv];exact q
 have hmro:mroOf (.type "object")=pure [.type "object"]:=∅;refine wpAny_bind (wpAny_mkText (wpAny_holding (wpAny_bind (ht _ _ _ _ (λ_ _ e=>e) (wpAny_bind (looks_findIn X (show findIn [] (.type "type") "__getattribute__"=some (some (.builtin "type.__getattribute__"))by decide +kernel) _ _ _ _ (λ_ _ e=>e) ?_))))));dsimp only;rw[show(onTheHeap (Value.type "type")&&Value.builtin "type.__getattribute__"==Value.builtin "object.__getattribute__")=false from by decide +kernel,if_neg nofun];refine wpAny_bind (looks_hook X (show(if onTheHeap (Value.type "type")then findIn [] (.type "type") "__getattr__" else some none)=some none by decide +kernel) _ _ _ _ (λ_ _ e=>e) (wpAny_bind (wpAny_attempt (wpAny_holding ?_))))
 unfold callGetattribute;rw[show(expr&&onTheHeap (Value.builtin "type.__getattribute__"))=false from Bool.and_false _,if_neg nofun];unfold boundAndCalled;rw[KF.slot_tga.bind];refine wpAny_bind (wpAny_pure ?_);show wpAny _ _ (call (.builtin "type.__getattribute__") [.ref C, .str name s.toks]) _ _ _;refine wpAny_call ?_;refine codeAny_call_builtin KF.slot_tga.plain KF.entry_tga ?_;refine @check_slot (model prog w) _ _ { s with toks:=s.toks+1 } "type.__getattribute__" "type" "__getattribute__" (.ref C) [.str name s.toks] [] _ (by decide +kernel) (by decide +kernel) (ht.andThen (looks_subIn X (by decide +kernel))) (KF.args_tga (.ref C) (.str name s.toks)) ?_
 unfold Builtin.«type.__getattribute__»;refine wpAny_bind (wpAny_pure (wpAny_bind (ho _ _ _ _ (λ_ _ e=>e) (wpAny_bind (ht _ _ _ _ (λ_ _ e=>e) (wpAny_bind (looks_findIn X ma _ _ _ _ (λ_ _ e=>e) ?_)))))));refine wpAny_bind (wpAny_pure (wpAny_bind (hlk _ _ _ _ (λ_ _ e=>e) ?_)));dsimp only;rw[if_neg (by simp[Builtin.heldUnderItsOwnName])];refine wpAny_bind (vO _ _ _ _ (λ_ _ e=>e) ?_);rw[if_neg (by decide +kernel)];refine wpAny_bind (looks_specialIn X (show specialIn [] (.str x t) "__get__"=some none from∅) _ _ _ _ (λ_ _ e=>e) ?_);dsimp only;refine wpAny_bind (wpAny_pure (wpAny_pure ?_));show wpAny _ _ (handedOut (.str x t)) _ _ _
 exact wpAny_pure hq
theorem zS (B:gU G N mN mg mb) {s:Shared} {x:V} {u:Value} {name:Str} {v:V} (old:m5 G s.heap) (r:ah G X s.heap x u)
 (e:w6 (nm name) x=(true,v)):an G A X (getAttr u name true) v s:=by
 intro E Q q;obtain⟨nm',qn,bs,sn,sub,col,dd,k0,k1,k2,k3,k5,hC⟩:=B.o old;have sU:∀{x:Str},af (nm name) (nm x)=true->name=x:=λh=>bQ (ai.mp h)
 induction x using V.casesOn with
 |ws raw n nt cnt b sm=>
  obtain⟨a,rfl,nx,W⟩:=ah.ws_iff.mp r;obtain⟨m,I,_,hf⟩:=uP W;obtain⟨u,hm,e1,e2,r⟩:=hf name v e;obtain⟨hh,g,d,t,os⟩:=s;exact load_attr hC (B.cls.keeps old).ns B.noGA (B.noF _ hm) (B.noF0 _ hm) I e1 e2 (q _ _ (Kp.toks _ _) r)
 |obj a raw=>
  obtain⟨rfl,nx,W⟩:=ah.obj_iff.mp r;obtain⟨o,d,m,t,g,h1,h2,h3,h4,h5,h6,h7,h8⟩:=W;have e':(bif af (nm name) (nm "raw")then(true,V.str raw)else bad)=(true,v):=e;cases c1:af (nm name) (nm "raw")with
  |true=>
   rw[c1]at e';injection e' with _ e'
   subst e';have en:=sU c1;obtain⟨hh,g,d,t,os⟩:=s;exact load_attr hC (B.cls.keeps old).ns B.noGA (B.noF _ (by rw[en];simp[bG])) (B.noF0 _ (by rw[en];simp[bG])) ⟨o,by assumption,h1,h3, .inr ⟨_,h2,h4,h6⟩⟩ (by rw[en];exact h7) rfl (q _ _ (Kp.toks _ _) (ah.str_iff.mpr ⟨_,rfl⟩))
  |false=>rw[c1]at e';cases e'
 |cls=>
  rw[ah.cls_iff.mp r];obtain⟨ms,hs,es⟩:=B.tp;have e':(bif af (nm name) (nm "S")then(true,V.str [32])else bif af (nm name) (nm "T")then(true, .str [9])else bad)=(true,v):=e;cases c1:af (nm name) (nm "S")with
  |true=>
   rw[c1]at e';injection e' with _ e'
   obtain⟨t,hv⟩:=B.S;rw[sU c1];subst e';exact uQ (y:=none) hC (B.cls.keeps old).ns hv (hs.keeps old) es (by decide +kernel) (by rw[typeLookup_type,builtinLookup_eq_fast];kernel_rfl) (q _ _ (Kp.toks _ _) (ah.str_iff.mpr ⟨_,rfl⟩))
  |false=>
  rw[c1]at e';cases c2:af (nm name) (nm "T")with
  |true=>
   rw[c2]at e';injection e' with _ e'
   obtain⟨t,hv⟩:=B.T;rw[sU c2];subst e';exact uQ (y:=none) hC (B.cls.keeps old).ns hv (hs.keeps old) es (by decide +kernel) (by rw[typeLookup_type,builtinLookup_eq_fast];kernel_rfl) (q _ _ (Kp.toks _ _) (ah.str_iff.mpr ⟨_,rfl⟩))
  |false=>rw[c2]at e';cases e'
 |_=>injections e
theorem zT (B:gU G N mN mg mb) {s:Shared} {raw n nt cnt b sm} {a f:Addr} {name:Str} {F:List V->R} {k:Nat} (room:fv k A) (M:qi G mN name f) (hF:dc G k f F) {as:List V} {o:Expr} {apos pos:Pos} {env:Env} {trees:List (Bool×Sem Value)}
 (old:m5 G s.heap) (off:vq G X) (al:aF X s.heap) (nx:¬X a) (W:pR G X s.heap a raw n nt cnt b sm) (ok:(F (.ws raw n nt cnt b sm::as)).1=true) (ht:trees.any (·.1)=false) (hl:trees.length<30) (hp:apos.endLine=pos.line)
 {E:Value->Shared->Prop} {Q:Value->Shared->Prop}
 (h:wpAny (model G.p G.w) A (spliced trees) (λus s₁=>Keeps s s₁/\Reps G X s₁.heap as us/\∀u s',Keeps s₁ s'->ah G X s'.heap (F (.ws raw n nt cnt b sm::as)).2 u->Q u s') E s):
 wpAny (model G.p G.w) A (methodCall o name apos pos env (.ref a) trees.length trees []) Q E s:=by
 obtain⟨m,I,hm,_⟩:=uP W;obtain⟨nm,qn,bs,sn,sub,col,dd,k0,k1,k2,k3,k5,hC⟩:=B.o old;obtain⟨of,fd,ho,hc,hdt⟩:=M.obj;obtain⟨y,hy⟩:=M.none0;have form:methodCallForm trees.length trees []=true:=by
  unfold methodCallForm;have h1:trees.all (λx => !x.1)=true:=by
   rw[List.any_eq_false]at ht;rw[List.all_eq_true];intro x hx;have:=ht x hx
   simpa using this
  rw[h1];show(true&&true&&decide (trees.length+0<30))=true;rw[Bool.and_self,Bool.true_and,decide_eq_true_eq];omega
 have pos':methodCallPos true o env apos pos=pure pos:=by
  unfold methodCallPos;rw[if_pos (by rw[hp];simp)]
 unfold methodCall;rw[form,pos'];refine wpAny_bind (wpAny_holding ?_);unfold calleeOf;rw[if_pos rfl];have key:∀{Q:Value×List Value->Shared->Prop},Q (.ref f,[.ref a]) s->wpAny (model G.p G.w) A (getMethod (.ref a) name (do return (<-importBound o env).getD true)) Q E s:=λ{Q} q=>by
  obtain⟨hh,g,d,t,os⟩:=s;exact method_of hC (B.cls.keeps old).ns B.noGA B.noGet M.at_ (old _ _ ho) hc hy I (hm _ M.notF) q
 refine key ?_;refine wpAny_bind (wpAny_pure ?_);refine Calls.callWith_function (o:=of) (fd:=fd) (bF ht (wpAny_mono h (λus s1 h1 => ?_) λ_ _ e=>e));obtain⟨k1,r1,q1⟩:=h1;have old1:m5 G s1.heap:=λb o e=>Kp.keep k1 b o (old b o e)
 refine⟨⟨old1 _ _ ho,hdt⟩, ?_⟩;exact(hF A room).2 X s1 (.ws raw n nt cnt b sm::as) (.ref a::us) old1 off (al.keeps (Kp.keep k1)) (Reps.cons (ah.ws_iff.mpr ⟨a,rfl,(On.of_keeps (Kp.keep k1)).ws nx W |>.1,((On.of_keeps (Kp.keep k1)).ws nx W).2⟩) r1) ok E Q q1
theorem kT{α:Type}:∀{l:List (Nm×α)} {x:Nm} {v:α},kK l x=some v->(x,v)∈l
 |(y,w)::r,x,v,h=>by
  have h':(bif af x y then some w else kK r x)=some v:=h;cases e:af x y with
  |true=>rw[e]at h';injection h' with h';rw[ai.mp e,h'];exact List.mem_cons_self ..
  |false=>rw[e]at h';exact List.mem_cons_of_mem _ (kT h')
theorem x8 (B:gU G N mN mg mb) {n:Nat} {Φ:Fns} (hg:∀x∈Φ.glob,∃f u,x.1=nm f/\mg f=some u/\∀X h,m5 G h->vq G X->ah G X h x.2 u)
 (hf:∀x∈Φ.fn,∃f a,x.1=nm f/\mg f=some (.ref a)/\dc G n a x.2) (hm:∀x∈Φ.meth,∃m f,x.1=nm m/\qi G mN m f/\dc G n f x.2)
 : ∀A,fv n A->av G A Φ:=λA r=>
 { none:=r.none
   units:=by have:=r.units;omega
   names:=⟨mg,mb,B.glob,B.blt,λx v h=>by
    obtain⟨f,u,e1,e2,e3⟩:=hg _ (kT h);rw[bQ e1];exact⟨u,e2,e3⟩,
    λf F h=>by
     obtain⟨f',a,e1,e2,e3⟩:=hf _ (kT h);rw[bQ e1];exact⟨a,e2,(e3 A r).1,(e3 A r).2⟩,B.bi⟩
   attr:=λX s x u name v old r e=>zS B old r e
   meth:=λX s raw k nt cnt b sm a name F as o apos pos env trees h old off al nx W ok ht hl hp E Q q=>by
    obtain⟨m,f,e1,e2,e3⟩:=hm _ (kT h);have e1:nm name=nm m:=e1;rw[bQ e1];exact zT B r e2 e3 old off al nx W ok ht hl hp q
   }
end
end
section
open PySem PySem.W PySem.Calls PyProof.Rows
section
variable {G:Cfg} {A:Around} {X:Addr->Prop}
structure fz(G:Cfg)(env:Env)(κ:List (Str×NameKind))(s s₁:Shared)(g:Str->Option Value)(ids:List Str)(us:List Value):Prop where
 En:am env κ
 frame:bU env s₁.heap g
 has:∀x u,(x,u)∈ids.zip us->g x=some u
 own:∀b,du env b->s.heap.get? b=none/\∃o,s₁.heap.get? b=some o
 keeps:Keeps s s₁
theorem uR {a:Addr} {d:Def} (hd:cN G a d) (hroom:A.depth<recursionLimit) (hlim:G.h0.NoLimit) {s:Shared} {us:List Value} (old:m5 G s.heap) (hlen:us.length=d.params.length)
 {E Q:Value->Shared->Prop} (h:∀env s₁ g ids,ids.map nm=d.params->fz G env d.κ s s₁ g ids us->∀E',wpAny (model G.p G.w) (A.deeper env) (execs d.body env) (λf s'=>Q (match f with| .ret v=>v|_ => .none) s') E' s₁):
 wpAny (model G.p G.w) A (call (.ref a) us) Q E s:=by
 obtain⟨o,fd,ids,ho,hdata,hcd,hbody,hclo,hnames,hkind,hco,hgen,hgl,hbu,hids,hnd,hbind,hloc⟩:=hd.ex;have hlen':us.length=ids.length:=by rw[hlen,<-hids,List.length_map]
 have ho':s.heap.get? a=some o:=old a o ho;have hlim':s.heap.NoLimit:=hlim.keeps old;have hcd':s.heap.CodeRec fd.code fd.qualname:=hcd.keeps old;refine wpAny_call (codeAny_call_cells hroom ho' hdata hlim' hcd' hbody (hbind us hlen') hclo (λx hx => ?_) (λs₁ C => ?_) hco hgen hkind)
 ·have hm:x.1∈ids:=by rw[<-gK hlen'];exact List.mem_map.mpr ⟨x,hx,rfl⟩
  rcases hloc x.1 hm with h|h
  ·exact .inl h
  ·refine .inr ⟨h, ?_⟩
   obtain⟨c,hc⟩:=bw (n:=s.heap.objs.size+1) (acc:=[]) (mem_of_lookup h);obtain⟨c',e⟩:=cL hc;rw[e];rfl
 ·generalize henv:callEnvC fd s.heap.objs.size a=env at C |-
  have eScope:env.scope=fd.scope:=by rw[<-henv];rfl
  have eLoc:env.locals=s.heap.objs.size:=by rw[<-henv];rfl
  have eCells:env.cells=cellsFrom (s.heap.objs.size+1) fd.scope.names []:=by rw[<-henv];rfl
  have eKind:∀x,env.kindOf x=d.κ.lookup x:=λx=>by show env.scope.names.lookup x=_;rw[eScope,hnames]
  have noF:∀x,env.kindOf x≠some .free:=λx e=>hd.nofree x (mem_of_lookup (eKind x▸e))
  have En:am env d.κ:=
   { kind:=by rw[eScope];exact hkind
     names:=λx=>by rw[eKind,bq]
     free:=λx=>by rw[eKind,bq]
     glob:=λx=>by rw[eKind,bq]
     plain:=λx h=>by
      rw[eKind]at h;cases e:d.κ.lookup x with
      |none=>rw[e]at h;injections h
      |some k=>exact hd.plain x k (mem_of_lookup e)
     globals:=by rw[<-henv];exact hgl
     builtins:=by rw[<-henv];exact hbu }
  have kp:∀b o,s.heap.get? b=some o->s₁.heap.get? b=some o:=C.toInCall.keep
  have above:∀b,du env b->s.heap.objs.size<=b:=λb hb=>by
   rcases hb with e|⟨x,m⟩
   ·rw[e,eLoc];exact Nat.le_refl _
   ·have:=C.above x b m
    rw[eLoc]at this;exact Nat.le_of_lt this
  have cellsOnce:env.cells.Pairwise λx y=>x.1≠y.1:=by
   rw[eCells];exact cW (hnames▸hd.once) (λ_ h=>nomatch h) List.Pairwise.nil
  obtain⟨hh,tk,es1⟩:=C.toInCall.same;refine h env s₁ (λx=>if env.kindOf x=some .local then bindL env.kindOf (ids.zip us) (λ_=>none) x else bindC env.kindOf (ids.zip us) (λ_=>none) x) ids hids
   ⟨En,⟨⟨_,C.toInCall.ns,λx hx=>by rw[if_pos hx]⟩,λx hx => ?_,C.apart⟩,λx u m => ?_,λb hb=>⟨aW _ (above b hb), ?_⟩,⟨hh,tk,es1,λb o e=>by have:=kp b o e;rwa [es1]at this⟩⟩ _
  ·have hc:env.kindOf x=some .cell:=by
    cases e:env.kindOf x with
    |none=>rw[e]at hx;injections hx
    |some k=>induction k using NameKind.casesOn<;>first|rfl|exact absurd e (noF x)|(rw[e]at hx;injections hx)
   have hm:(x,NameKind.cell)∈fd.scope.names:=mem_of_lookup (by have:=eKind x;rw[hc]at this;rw[hnames];exact this.symm);obtain⟨c,hcm⟩:=bw (n:=s.heap.objs.size+1) (acc:=[]) hm;obtain⟨c',e⟩:=cL hcm;have e':env.cells.lookup x=some c':=by rw[eCells];exact e
   refine⟨c',e', ?_⟩;rw[if_neg (by rw[hc];decide)];exact C.cell x c' e'
  ·have b:=qh (kindOf:=env.kindOf) (m:=λ_=>none) (by rw[gK hlen'];exact hnd) m
   by_cases hk:env.kindOf x=some .local
   ·rw[if_pos hk];exact b.1 hk
   ·rw[if_neg hk];exact b.2 hk
  ·rcases hb with e|⟨x,m⟩
   ·obtain⟨o',_,_,e',_⟩:=C.toInCall.ns;rw[e];exact⟨o',e'⟩
   ·obtain⟨o',e',_⟩:=C.cell x b (gl cellsOnce m);exact⟨o',e'⟩
theorem tS {env:Env} {h:Heap} {g:Str->Option Value} {ρ:Rho} (old:m5 G h) (off:vq G X) (al:aF X h) (F:bU env h g) (own:∀b,du env b->G.h0.get? b=none/\∃o,h.get? b=some o)
 (sl:∀x,ae (env.kindOf x)=true->fJ G (ag env X λ_=>none) h none (lk ρ (nm x)) (g x)):bJ G env X (λ_=>none) ρ h where
 old:=old
 new:=λb f=>by
  rcases f with f|f|⟨y,f⟩
  ·exact off b f
  ·exact(own b f).1
  ·cases f
 alive:=λb f=>by
  rcases f with f|f|⟨y,f⟩
  ·exact al b f
  ·exact(own b f).2
  ·cases f
 look:=⟨g,F,sl⟩
 inj:=λx y a e=>nomatch e
 apart:=λx a e=>nomatch e
structure qj(G:Cfg)(h:Heap)(x dx:Addr)(m:Str->Option Value):Prop where
 obj:∃o,h.get? x=some o/\o.cls = .ref G.C/\o.dict=some dx/\∀c,o.data ≠ .cls c
 ns:h.Ns1 dx m
 ne:dx≠x
 only:∀y,y∉bG->m y=none
variable {N:Addr} {mN mg mb:Str->Option Value}
theorem oL (B:gU G N mN mg mb) {s:Shared} {x dx:Addr} {m:Str->Option Value} {f:Str} {v:Value} (old:m5 G s.heap) (K:qj G s.heap x dx m) (newx:G.h0.get? x=none) (hf:f∈bG)
 {E:Value->Shared->Prop} {Q:Unit->Shared->Prop} (q:∀h' tk,qj G h' x dx (λy=>if y=f then some v else m y)->(∀b o,b≠x->b≠dx->s.heap.get? b=some o->h'.get? b=some o)->Q () { s with heap:=h',toks:=tk }):
 wpAny (model G.p G.w) A (setAttr (.ref x) f v) Q E s:=by
 obtain⟨nm',qn,bs,sn,sub,col,dd,k0,k1,k2,k3,k5,hC⟩:=B.o old;obtain⟨o,ho,hc,hd,hn⟩:=K.obj;have hxC:x≠G.C:=λe=>by
  obtain⟨_,_,_,_,_,_,_,_,_,_,_,_,hC0⟩:=B.o λ_ _ e=>e
  rw[<-e,newx]at hC0;exact ao hC0
 obtain⟨hh,g,d,t,os⟩:=s;refine store_attr F.store_object hC (B.cls.keeps old).ns B.noSet (B.noF f hf) (B.noF0 f hf) hxC ⟨o,ho,hc,hn, .inr ⟨dx,hd,K.ne,K.ns⟩⟩ (λh' tk' I kp sx => ?_) (ns:=bG) (λy hy => ?_) (by rw[sizeLine_eq];decide)
 ·obtain⟨o1,e1,c1,d1,_,dd1⟩:=sx o ho
  have ed:=dd1 dx hd;obtain⟨o2,e2,c2,n2,dr⟩:=I;obtain rfl:=Option.some.inj (e1.symm.trans e2)
  rcases dr with⟨hn0,_⟩|⟨d',hd',ne',ns'⟩
  ·rw[ed]at hn0;injections hn0
  ·obtain rfl:=Option.some.inj (ed.symm.trans hd')
   refine q h' tk' ⟨⟨o1,e1,c2,ed,n2⟩,ns',K.ne,λy hy => ?_⟩ λb o' nb nd e=>kp b o' nb (λo₀ dx' g0 gd=>by
    obtain rfl:=Option.some.inj (ho.symm.trans g0);obtain rfl:=Option.some.inj (hd.symm.trans gd);exact nd) e
   show(if y=f then some v else m y)=none;rw[if_neg (λe:y=f=>hy (e▸hf))];exact K.only y hy
 ·by_cases h:y∈bG
  ·exact h
  ·exact absurd (K.only y h) hy
noncomputable def X1(X:Addr->Prop)(x dx:Addr):Addr->Prop:=λb=>X b\/b=x\/b=dx
theorem bU.off{env:Env}{h h':Heap}{g}(F:bU env h g)(k:∀b o,du env b->h.get? b=some o->h'.get? b=some o):bU env h' g:=
 ⟨let⟨m,⟨o,es,ep,e,r⟩,hm⟩:=F.ns;⟨m,⟨o,es,ep,k _ _ (.inl rfl) e,r⟩,hm⟩,λx hx=>let⟨c,hc,o,e,r⟩:=F.cell x hx;⟨c,hc,o,k _ _ (.inr ⟨x,mem_of_lookup hc⟩) e,r⟩,F.apart⟩
structure Tl(G:Cfg)(env:Env)(X:Addr->Prop)(g:Str->Option Value)(x dx:Addr)(m:Str->Option Value)(ρ:Rho)(h:Heap):Prop where
 old:m5 G h
 al:aF X h
 F:bU env h g
 own:∀b,du env b->G.h0.get? b=none/\b≠x/\b≠dx/\∃o,h.get? b=some o
 K:qj G h x dx m
 self:g "self"=some (.ref x)
 sl:∀y,ae (env.kindOf y)=true->fJ G (ag env (X1 X x dx) λ_=>none) h none (lk ρ (nm y)) (g y)
structure tT(G:Cfg)(X:Addr->Prop)(x dx:Addr):Prop where
 off:vq G X
 newx:G.h0.get? x=none
 newd:G.h0.get? dx=none
 nx:¬X x
 nd:¬X dx
variable {κ:List (Str×NameKind)} {ρ:Rho} {Φ:Fns} {env:Env} {g:Str->Option Value} {x dx:Addr} {m:Str->Option Value}
theorem Tl.sta{h:Heap}(T:Tl G env X g x dx m ρ h)(o1:tT G X x dx):bJ G env (X1 X x dx) (λ_=>none) ρ h:=
 tS T.old (λb hb=>by rcases hb with h|h|h<;>first|exact o1.off b h|(rw[h];first|exact o1.newx|exact o1.newd))
  (λb hb=>by
    rcases hb with h|h|h
    ·exact T.al b h
    ·obtain⟨o,e,_⟩:=T.K.obj;rw[h];exact⟨o,e⟩
    ·obtain⟨o,_,_,e,_⟩:=T.K.ns;rw[h];exact⟨o,e⟩) T.F (λb hb=>⟨(T.own b hb).1,(T.own b hb).2.2.2⟩) T.sl
theorem Tl.move{h h':Heap}{m':Str->Option Value}(T:Tl G env X g x dx m ρ h)(o1:tT G X x dx)(k:∀b o,b≠x->b≠dx->h.get? b=some o->h'.get? b=some o)(K':qj G h' x dx m'):Tl G env X g x dx m' ρ h' where
 old:=λb o e=>k b o (λh=>by rw[h,o1.newx]at e;injections e) (λh=>by rw[h,o1.newd]at e;injections e) (T.old b o e)
 al:=λb hb=>let⟨o,e⟩:=T.al b hb;⟨o,k b o (λh=>o1.nx (h▸hb)) (λh=>o1.nd (h▸hb)) e⟩
 F:=T.F.off λb o hb e=>k b o (T.own b hb).2.1 (T.own b hb).2.2.1 e
 own:=λb hb=>let⟨h1,h2,h3,o,e⟩:=T.own b hb;⟨h1,h2,h3,o,k b o h2 h3 e⟩
 K:=K'
 self:=T.self
 sl:=λy hy=>(T.sl y hy).on ⟨λb o nb e=>k b o (λh=>nb (.inl (.inr (.inl h)))) (λh=>nb (.inl (.inr (.inr h)))) e,λ_ _ _ f=>f⟩ λa e=>by injections e
theorem gL (B:gU G N mN mg mb) (Fa:av G A Φ) (En:am env κ) {τ:Tau} {s:Shared} (T:Tl G env X g x dx m ρ s.heap) (o1:tT G X x dx) (hs:ae (kd κ (nm "self"))=true) {f:Str} (hf:f∈bG) {e:Expr} {v:V} (ok:ev Φ τ 40 κ ρ e=(true,v)) (hc:cV e=false) {p p1 p2:Pos}
 {E:Value->Shared->Prop} {Q:Flow->Shared->Prop} (q:∀u s',Tl G env X g x dx (λy=>if y=f then some u else m y) ρ s'.heap->ah G (ag env (X1 X x dx) λ_=>none) s'.heap v u->(∃h tk,s'={ s with heap:=h,toks:=tk }) ->
   (∀b o,b≠x->b≠dx->s.heap.get? b=some o->s'.heap.get? b=some o)->Q .next s'):wpAny (model G.p G.w) A (exec (.Assign [.Attribute (.Name "self" p) f p1] e p2) env) Q E s:=by
 have GE:=(fw (G:=G) (A:=A) Fa τ 40 κ env (X1 X x dx) ρ En).1;have hx:ae (env.kindOf "self")=true:=(En.names _).trans hs;have pl:=En.plain "self" (by rw[hx];rfl);refine plainObj_wpAny_Assign_Attribute (GE.ok e (by rw[ok]) _ s (T.sta o1) _ _ λu s1 k1 r1 => ?_) (i5 hc _ _);have T1:Tl G env X g x dx m ρ s1.heap:=T.move o1 (λb o _ _ h=>Kp.keep k1 b o h)
  { obj:=let⟨o,h,r⟩:=T.K.obj;⟨o,Kp.keep k1 _ _ h,r⟩,ns:=T.K.ns.keeps (Kp.keep k1),ne:=T.K.ne,only:=T.K.only }
 refine wpAny_Name (bZ En.kind T1.F hx pl.2 T1.self ?_) pl.1;refine oL B T1.old T1.K o1.newx hf λh' tk K' kp => ?_
 rw[ok]at r1;obtain⟨h1,t1,rfl,kk⟩:=k1;exact q u _ (T1.move o1 kp K') (r1.on ⟨λb o nb e=>kp b o (λh=>nb (.inl (.inr (.inl h)))) (λh=>nb (.inl (.inr (.inr h)))) e,λ_ _ _ f=>f⟩) ⟨h',tk,rfl⟩ λb o nx nd e=>kp b o nx nd (kk b o e)
theorem x9(B:gU G N mN mg mb):zt G A (.ref G.C):=λpos trees s E Q hp q=>by
 have hst:(trees.any (λx=>x.fst)||([]:List (Option Str×Sem Value)).any λx=>x.fst.isNone)=false:=by rw[hp];rfl
 unfold callWith;refine wpAny_bind (wpAny_holding (wpAny_mono q (λas s₁ h₁ => ?_) λ_ _ x=>x));obtain⟨hk,hc⟩:=h₁;obtain⟨hh,g,d,t,os⟩:=s₁;obtain⟨nm',qn,bs,sn,sub,col,dd,k0,k1,k2,k3,k5,hC⟩:=B.o hk;have f1:=tc_lookup;have hT:(⟨hh,g,d,t,os⟩:Shared).TypeIs (.ref G.C) "type":=⟨_,hC,rfl⟩;refine wpAny_bind (wpAny_standAt ?_);show wpAny _ _ (keeperOf (.ref G.C)>>=_) _ _ _;unfold keeperOf specialOf
 repeat(any_goals(first|assumption|with_reducible refine wpAny_loadPart_at hC ?_ |with_reducible refine wpAny_load' hC ?_ |wp_step))
 rw[if_pos (by rfl),hst];show wpAny _ _ (call (.ref G.C) as.pos as.kw>>=λr=>do holding [r] point;pure r) _ _ _;exact wpAny_bind (wpAny_mono hc (λr s' hr=>wpAny_bind (wpAny_holding (wpAny_point (wpAny_pure hr)))) λ_ _ x=>x)
theorem i8(env:Env)(b:List Stmt):∀a:List Stmt,execs (a++b) env=execs a env>>=(λf=>match f with
 | .next=>execs b env
 |f=>pure f)
 |[]=>by show execs b env=_;rw[show execs [] env=pure .next from rfl,pure_bind]
 |st::a=>by
  rw[List.cons_append,execs_cons,execs_cons,bind_assoc]
  congr 1
  funext f
  induction f using Flow.casesOn with
  |next=>exact i8 env b a
  |_=>simp
theorem iA {M:Model} {E:Value->Shared->Prop} {s:Shared} {a b:List Stmt} {Q:Flow->Shared->Prop} (h:wpAny M A (execs a env) (λf s'=>(match f with
 | .next=>wpAny M A (execs b env) Q E s'
 |f=>Q f s')) E s):wpAny M A (execs (a++b) env) Q E s:=by
 rw[i8];exact wpAny_bind (wpAny_mono h (λf s' h'=>by induction f using Flow.casesOn<;>first|exact h'|exact wpAny_pure h') λ_ _ e=>e)
noncomputable abbrev WsRun:=List Nat->Bool×Int×Int×List Int×Int
noncomputable def Dc(run:WsRun):List V->R:=fm (sS λs=>((run s).1, .ws s (run s).2.1 (run s).2.2.1 (run s).2.2.2.1 (run s).2.2.2.2 (decide ((run s).2.2.2.1.length<=1))))
noncomputable def gV(n nt:Int)(cnt:List Int)(b:Int):Rho:=[(nm "n", .val (.int n)),(nm "nt", .val (.int nt)),(nm "b", .val (.int b)),(nm "count", .val (.list (cnt.map .int)))]
inductive qk(Φ:Fns)(τ:Tau)(W:Nat)(d:Def)(run:WsRun):Prop
 |mk (p1 p2 p3 p4:Pos) (mid:List Stmt) (q:Nat->Pos) (e1 e2 e3 e4:Expr) (params:d.params=[nm "self",nm "ws"])
  (self:ae (kd d.κ (nm "self"))=true) (text:ae (kd d.κ (nm "ws"))=true) (ns:∀x∈(["n","nt","b","count"]:List Str),ae (kd d.κ (nm x))=true)
  (body:d.body = .Assign [.Attribute (.Name "self" p1) "raw" p2] (.Name "ws" p3) p4::(mid++[.Assign [.Attribute (.Name "self" (q 0)) "n" (q 1)] e1 (q 2),
    .Assign [.Attribute (.Name "self" (q 3)) "nt" (q 4)] e2 (q 5), .Assign [.Attribute (.Name "self" (q 6)) "norm" (q 7)] e3 (q 8), .Assign [.Attribute (.Name "self" (q 9)) "is_simple" (q 10)] e4 (q 11)]))
  (c1:cV e1=false) (c2:cV e2=false) (c3:cV e3=false) (c4:cV e4=false)
  (hmid:∀x raw,(run raw).1=true->∃ρ' μ,ex Φ τ μ W d.κ 200 mid (bX d.κ [(nm "self", .obj x raw),(nm "ws", .str raw)])=(true, .next ρ')/\lk ρ' (nm "self") = .val (.obj x raw)/\lk ρ' (nm "n") = .val (.int (run raw).2.1) /\
    lk ρ' (nm "nt") = .val (.int (run raw).2.2.1)/\lk ρ' (nm "b") = .val (.int (run raw).2.2.2.2)/\lk ρ' (nm "count") = .own ((run raw).2.2.2.1.map .int))
  (htail:∀raw,(run raw).1=true->∀n nt cnt b,run raw=(true,n,nt,cnt,b)->ev Φ τ 40 d.κ (gV n nt cnt b) e1=(true, .int n)/\ev Φ τ 40 d.κ (gV n nt cnt b) e2=(true, .int nt) /\
    ev Φ τ 40 d.κ (gV n nt cnt b) e3=(true, .tup [.tup (cnt.map .int), .int b])/\ev Φ τ 40 d.κ (gV n nt cnt b) e4=(true, .bool (decide (cnt.length<=1))))
theorem zU{n nt:Int}{cnt:List Int}{b:Int}(x:Nm):lk (gV n nt cnt b) x = .un\/(x=nm "n"/\lk (gV n nt cnt b) x = .val (.int n))\/(x=nm "nt"/\lk (gV n nt cnt b) x = .val (.int nt))\/(x=nm "b"/\lk (gV n nt cnt b) x = .val (.int b)) \/
 (x=nm "count"/\lk (gV n nt cnt b) x = .val (.list (cnt.map .int))):=by
 have e:lk (gV n nt cnt b) x=bif af x (nm "n")then .val (.int n)else bif af x (nm "nt")then .val (.int nt)else bif af x (nm "b")then .val (.int b)else bif af x (nm "count")then .val (.list (cnt.map .int))else .un:=rfl
 rw[e];cases c1:af x (nm "n")with
 |true=>exact .inr (.inl ⟨ai.mp c1,rfl⟩)
 |false=>
 cases c2:af x (nm "nt")with
 |true=>exact .inr (.inr (.inl ⟨ai.mp c2,rfl⟩))
 |false=>
 cases c3:af x (nm "b")with
 |true=>exact .inr (.inr (.inr (.inl ⟨ai.mp c3,rfl⟩)))
 |false=>
 cases c4:af x (nm "count")with
 |true=>exact .inr (.inr (.inr (.inr ⟨ai.mp c4,rfl⟩)))
 |false=>exact .inl rfl
theorem l7{P:Addr->Prop}{h:Heap}:∀{cnt:List Int} {vs:List Value},Reps G P h (cnt.map V.int) vs->jB zl vs cnt
 |[],vs,r=>by rw[Reps.nil_iff.mp r];exact .nil
 |i::cnt,vs,r=>by
  obtain⟨v,r',rfl,h1,h2⟩:=Reps.cons_iff.mp r;exact .cons (ah.int_iff.mp h1) (l7 h2)
theorem ya{P:Addr->Prop}{h:Heap}{cnt:List Int}{vs:List Value}(r:jB zl vs cnt):Reps G P h (cnt.map V.int) vs:=by
 induction r with
 |nil=>exact Reps.nil
 |cons a b ih=>exact Reps.cons (ah.int_iff.mpr a) ih
end
end
section
open PySem PySem.W PySem.Calls PyProof.Rows
section
variable {G:Cfg} {A:Around} {X:Addr->Prop} {N:Addr} {mN mg mb:Str->Option Value} {Φ:Fns} {κ:List (Str×NameKind)} {env:Env} {g:Str->Option Value} {x dx:Addr} {m:Str->Option Value}
theorem BO:∀{l:List Str} {a b:Str},l.map nm=[nm a,nm b]->l=[a,b]
 |[],_,_,h=>by cases h
 |[_],_,_,h=>by cases(List.cons.inj h).2
 |[x,y],_,_,h=>by rw[bQ (List.cons.inj h).1,bQ (List.cons.inj (List.cons.inj h).2).1]
 |_::_::_::_,_,_,h=>by cases(List.cons.inj (List.cons.inj h).2).2
noncomputable def hU(x dx:Addr)(s s':Shared):Prop:=(∃h tk,s'={ s with heap:=h,toks:=tk })/\∀b o,b≠x->b≠dx->s.heap.get? b=some o->s'.heap.get? b=some o
theorem hU.trans{s s1 s2:Shared}(a:hU x dx s s1)(b:hU x dx s1 s2):hU x dx s s2:=by
 obtain⟨⟨h,t,rfl⟩,k⟩:=a;obtain⟨⟨h',t',rfl⟩,k'⟩:=b;exact⟨⟨h',t',rfl⟩,λq o n1 n2 e=>k' q o n1 n2 (k q o n1 n2 e)⟩
theorem yb (B:gU G N mN mg mb) (Fa:av G A Φ) (En:am env κ) {τ:Tau} {s:Shared} {raw:List Nat} {n nt:Int} {cnt:List Int} {b:Int} (T:Tl G env X g x dx m (gV n nt cnt b) s.heap) (o1:tT G X x dx) (hs:ae (kd κ (nm "self"))=true) (hm:∀y:Str,y≠"raw"->m y=none) (hr:∃t,m "raw"=some (.str (tx raw) t))
 {e1 e2 e3 e4:Expr} (c1:cV e1=false) (c2:cV e2=false) (c3:cV e3=false) (c4:cV e4=false) (v1:ev Φ τ 40 κ (gV n nt cnt b) e1=(true, .int n)) (v2:ev Φ τ 40 κ (gV n nt cnt b) e2=(true, .int nt))
 (v3:ev Φ τ 40 κ (gV n nt cnt b) e3=(true, .tup [.tup (cnt.map .int), .int b])) (v4:ev Φ τ 40 κ (gV n nt cnt b) e4=(true, .bool (decide (cnt.length<=1)))) {q:Nat->Pos} {E:Value->Shared->Prop} {Q:Flow->Shared->Prop}
 (k:∀s',hU x dx s s'->pR G X s'.heap x raw n nt cnt b (decide (cnt.length<=1))->Q .next s'):
 wpAny (model G.p G.w) A (execs [.Assign [.Attribute (.Name "self" (q 0)) "n" (q 1)] e1 (q 2), .Assign [.Attribute (.Name "self" (q 3)) "nt" (q 4)] e2 (q 5), .Assign [.Attribute (.Name "self" (q 6)) "norm" (q 7)] e3 (q 8), .Assign [.Attribute (.Name "self" (q 9)) "is_simple" (q 10)] e4 (q 11)] env) Q E s:=by
 refine wpAny_execs_cons (gL B Fa En T o1 hs (f:="n") nofun v1 c1 λw1 s4 T4 r4 e4 k4 => ?_);refine wpAny_execs_cons (gL B Fa En T4 o1 hs (f:="nt") nofun v2 c2 λw2 s5 T5 r5 e5 k5 => ?_);refine wpAny_execs_cons (gL B Fa En T5 o1 hs (f:="norm") nofun v3 c3 λw3 s6 T6 r6 e6 k6 => ?_);refine wpAny_execs_cons (gL B Fa En T6 o1 hs (f:="is_simple") nofun v4 c4 λw4 s7 T7 r7 e7 k7 => ?_);refine wpAny_execs_nil (k s7 (hU.trans ⟨e4,k4⟩ (hU.trans ⟨e5,k5⟩ (hU.trans ⟨e6,k6⟩ ⟨e7,k7⟩))) ?_);have r6:=r6.on (X':=X) ⟨λb o nb e=>k7 b o (λh=>nb (.inl (.inr (.inl h)))) (λh=>nb (.inl (.inr (.inr h)))) e,λb o _ f => .inl (.inl f)⟩
 clear T6 T5 T4 T e7 e6 e5 e4 k4 k5 k6 k7;obtain⟨T,vT,rfl,nT,hT6,rT⟩:=ah.tup_iff.mp r6;obtain⟨w,l,eT,h1,h2⟩:=Reps.cons_iff.mp rT;obtain⟨w',l',rfl,h3',h4⟩:=Reps.cons_iff.mp h2;rw[Reps.nil_iff.mp h4]at eT;obtain⟨T2,vT2,rfl,nT2,hT2,rT2⟩:=ah.tup_iff.mp h1;obtain⟨tb2,rfl⟩:=ah.int_iff.mp h3';obtain⟨t1,rfl⟩:=ah.int_iff.mp r4;obtain⟨t2,rfl⟩:=ah.int_iff.mp r5;rw[ah.bool_iff.mp r7]at T7;obtain⟨o,a1,a2,a3,a4⟩:=T7.K.obj;have evT:vT = #[.ref T2, .int b tb2]:=Array.ext' eT;subst evT;refine⟨o,dx,_,T,T2,tb2,vT2,a1,a2,a3,a4,T7.K.ne,o1.nd,T7.K.ns,λz z1 z2 z3 z4 z5 => ?_, ?_,⟨t1, ?_⟩,⟨t2, ?_⟩, ?_, ?_,nT,hT6,nT2,hT2,l7 rT2⟩
 ·rw[if_neg z5,if_neg z4,if_neg z3,if_neg z2];exact hm z z1
 ·rw[if_neg nofun,if_neg nofun,if_neg nofun,if_neg nofun];exact hr
 ·rfl
 ·rfl
 ·rfl
 ·rfl
structure BP(G:Cfg)(X:Addr->Prop)(s:Shared)(x dx:Addr)(s':Shared):Prop where
 old:m5 G s'.heap
 al:aF X s'.heap
 o1:tT G X x dx
 K:qj G s'.heap x dx λ_=>none
theorem rI{P:Prop}{b:Addr}(f:ag env X (λ_=>none) b)(h1:X b->P)(h2:du env b->P):P:=by
 rcases f with f|f|⟨y,f⟩
 ·exact h1 f
 ·exact h2 f
 ·exact ao f
theorem vP (B:gU G N mN mg mb) {s s1:Shared} {raw:List Nat} {tR:Tok} (Bn:BP G X s x dx s) (En1:fz G env κ s s1 g ["self","ws"] [.ref x, .str (tx raw) tR]) (hs:ae (kd κ (nm "self"))=true) (ht:ae (kd κ (nm "ws"))=true)
 {p1 p2 p3 p4:Pos} {E:Value->Shared->Prop} {Q:Flow->Shared->Prop}
 (q:∀s2,(∃h tk,s2={ s1 with heap:=h,toks:=tk })->(∀b o,b≠x->b≠dx->s.heap.get? b=some o->s2.heap.get? b=some o)->(∀b,du env b->G.h0.get? b=none/\s.heap.get? b=none/\b≠x/\b≠dx)->qj G s2.heap x dx (λy=>if y="raw" then some (.str (tx raw) tR)else none) ->
   bJ G env X (λ_=>none) (bX κ [(nm "self", .obj x raw),(nm "ws", .str raw)]) s2.heap->Q .next s2):
 wpAny (model G.p G.w) A (exec (.Assign [.Attribute (.Name "self" p1) "raw" p2] (.Name "ws" p3) p4) env) Q E s1:=by
 have En:=En1.En;have gself:g "self"=some (.ref x):=En1.has _ _ (List.mem_cons_self ..);have gws:g "ws"=some (.str (tx raw) tR):=En1.has _ _ (List.mem_cons_of_mem _ (List.mem_cons_self ..));have hS:ae (env.kindOf "self")=true:=(En.names _).trans hs;have hT:ae (env.kindOf "ws")=true:=(En.names _).trans ht;have plS:=En.plain "self" (by rw[hS];rfl);have plT:=En.plain "ws" (by rw[hT];rfl);have kp1:=Kp.keep En1.keeps;have old1:m5 G s1.heap:=λb o e=>kp1 b o (Bn.old b o e)
 have K1:qj G s1.heap x dx λ_=>none:=⟨let⟨o,h,r⟩:=Bn.K.obj;⟨o,kp1 _ _ h,r⟩,Bn.K.ns.keeps kp1,Bn.K.ne,Bn.K.only⟩
 have own:∀b,du env b->G.h0.get? b=none/\s.heap.get? b=none/\b≠x/\b≠dx:=λb hb=>by
  have h1:=(En1.own b hb).1;refine⟨?_,h1,λe => ?_,λe => ?_⟩
  ·cases e:G.h0.get? b with
   |none=>rfl
   |some o=>exact ao (h1.symm.trans (Bn.old b o e))
  ·obtain⟨o,h,_⟩:=Bn.K.obj;exact ao (h1.symm.trans (e▸h))
  ·obtain⟨o,_,_,h,_⟩:=Bn.K.ns;exact ao (h1.symm.trans (e▸h))
 refine plainObj_wpAny_Assign_Attribute (wpAny_Name (bZ En.kind En1.frame hT plT.2 gws (wpAny_Name (bZ En.kind En1.frame hS plS.2 gself ?_) plS.1)) plT.1) (i5 rfl _ _);refine oL B old1 K1 Bn.o1.newx nofun λh2 tk2 K2 kp2=>q _ ⟨h2,tk2,rfl⟩ (λb o n1 n2 e=>kp2 b o n1 n2 (kp1 b o e)) own K2 ?_
 have nfx:¬ag env X (λ_=>none) x:=λf=>rI f Bn.o1.nx λf=>(own _ f).2.2.1 rfl
 have nfd:¬ag env X (λ_=>none) dx:=λf=>rI f Bn.o1.nd λf=>(own _ f).2.2.2 rfl
 refine tS (λb o e=>kp2 b o (λh => ?_) (λh => ?_) (old1 b o e)) Bn.o1.off (λb hb=>let⟨o,e⟩:=Bn.al b hb;⟨o,kp2 b o (λh=>Bn.o1.nx (h▸hb)) (λh=>Bn.o1.nd (h▸hb)) (kp1 b o e)⟩)
  (En1.frame.off λb o hb e=>kp2 b o (own b hb).2.2.1 (own b hb).2.2.2 e) (λb hb=>⟨(own b hb).1,let⟨o,e⟩:=(En1.own b hb).2;⟨o,kp2 b o (own b hb).2.2.1 (own b hb).2.2.2 e⟩⟩) λy hy => ?_
 ·rw[h,Bn.o1.newx]at e;exact ao e
 ·rw[h,Bn.o1.newd]at e;exact ao e
 ·rcases kR [(nm "self", .obj x raw),(nm "ws", .str raw)] κ (nm y)with e|⟨v,ev1,ev2⟩
  ·rw[e];trivial
  ·rw[ev2]
   have ev1:(bif af (nm y) (nm "self")then some (V.obj x raw)else bif af (nm y) (nm "ws")then some (.str raw)else none)=some v:=ev1;generalize cs:af (nm y) (nm "self")=b at ev1
   induction b using Bool.casesOn with
   |true=>
    rw[<-Option.some.inj ev1,g8 cs];refine⟨_,gself,ah.obj_iff.mpr ⟨rfl,nfx, ?_⟩⟩;obtain⟨o,a1,a2,a3,a4⟩:=K2.obj;exact⟨o,dx,_,tR,a1,a2,a3,a4,K2.ne,nfd,K2.ns,rfl,λz hz=>if_neg hz⟩
   |false=>
    generalize ct:af (nm y) (nm "ws")=b at ev1
    induction b using Bool.casesOn with
    |true=>rw[<-Option.some.inj ev1,g8 ct];exact⟨_,gws,ah.str_iff.mpr ⟨_,rfl⟩⟩
    |false=>exact ao ev1
theorem BQ {s2 s3:Shared} {raw:List Nat} {tR:Tok} {n nt:Int} {cnt:List Int} {b:Int} {ρ':Rho} {O':Nm->Option Addr} (o1:tT G X x dx) (own:∀b,du env b->G.h0.get? b=none/\b≠x/\b≠dx) (En:am env κ)
 (K2:qj G s2.heap x dx (λy=>if y="raw" then some (.str (tx raw) tR)else none)) (S3:bJ G env X O' ρ' s3.heap) (mv:Mv env (λ_=>none) O' s2 s3) (hs:ae (kd κ (nm "self"))=true) (ns:∀x∈(["n","nt","b","count"]:List Str),ae (kd κ (nm x))=true)
 (l1:lk ρ' (nm "self") = .val (.obj x raw)) (l2:lk ρ' (nm "n") = .val (.int n)) (l3:lk ρ' (nm "nt") = .val (.int nt)) (l4:lk ρ' (nm "b") = .val (.int b)) (l5:lk ρ' (nm "count") = .own (cnt.map .int)):
 ∃g3 m3,Tl G env X g3 x dx m3 (gV n nt cnt b) s3.heap/\(∀y:Str,y≠"raw"->m3 y=none)/\∃t,m3 "raw"=some (.str (tx raw) t):=by
 obtain⟨g3,F3,sl3⟩:=S3.look;have get:∀{y:Str} {v:V},ae (kd κ (nm y))=true->lk ρ' (nm y) = .val v->∃u,g3 y=some u/\ah G (ag env X O') s3.heap v u:=λ{y v} hy e=>by
  have:=sl3 y ((En.names _).trans hy);rw[e]at this;exact this
 obtain⟨u1,gu1,ru1⟩:=get hs l1;obtain⟨rfl,nfx3,ob3⟩:=ah.obj_iff.mp ru1;have hc:=sl3 "count" ((En.names _).trans (ns _ nofun));rw[l5]at hc;obtain⟨ac,vsc,gc,Oc,⟨mc,elc⟩,rc⟩:=hc;obtain⟨o3,d3,m3,t3,b1,b2,b3,b4,b5,b6,b7,b8,b9⟩:=ob3;have hd3:d3=dx:=by
  obtain⟨o,a1,_,a3,_⟩:=K2.obj;obtain⟨h3,tk3,es3,on3⟩:=mv;have e:s3.heap.get? x=some o:=by
   rw[es3];exact on3.keep x o (λf=>rI f (λf=>f) λf=>(own _ f).2.1 rfl) a1
  rw[<-Option.some.inj (b1.symm.trans e)]at a3;exact Option.some.inj (b3.symm.trans a3)
 subst hd3;have apc:=S3.apart _ ac Oc;have cx:ac≠x:=λe=>by rw[e,b1]at elc;obtain rfl:=Option.some.inj elc;cases b2
 have cd:ac≠d3:=λe=>by
  obtain⟨o',es',ep',ge',de',_⟩:=b7;rw[e,ge']at elc;obtain rfl:=Option.some.inj elc;cases de'
 have icnt:=l7 rc;refine⟨g3,m3,⟨S3.old,λb hb=>S3.alive b (.inl hb),F3,λb hb=>⟨(own b hb).1,(own b hb).2.1,(own b hb).2.2,S3.alive b (.inr (.inl hb))⟩,⟨⟨o3,b1,b2,b3,b4⟩,b7,b5,λy hy=>b9 y λe=>hy (by rw[e];decide)⟩,gu1,λy hy => ?_⟩,b9,t3,b8⟩;have int:∀{y:Str} {i:Int},y∈(["n","nt","b","count"]:List Str)->lk ρ' (nm y) = .val (.int i)->fJ G (ag env (X1 X x d3) λ_=>none) s3.heap none (.val (.int i)) (g3 y):=λ{y i} hm e=>by
  obtain⟨u,gu,ru⟩:=get (ns y hm) e;exact⟨u,gu,ah.int_iff.mpr (ah.int_iff.mp ru)⟩
 rcases zU (n:=n) (nt:=nt) (cnt:=cnt) (b:=b) (nm y)with e|⟨e0,e⟩|⟨e0,e⟩|⟨e0,e⟩|⟨e0,e⟩<;>rw[e]
 ·trivial
 ·rw[bQ e0];exact int nofun l2
 ·rw[bQ e0];exact int nofun l3
 ·rw[bQ e0];exact int nofun l4
 ·rw[bQ e0]
  refine⟨_,gc,ah.list_iff.mpr ⟨ac,vsc,rfl,λf=>rI f (λf => ?_) λf=>apc.2 f,⟨_,elc,rfl,_,rfl⟩,ya icnt⟩⟩
  rcases f with f|f|f
  ·exact apc.1 f
  ·exact cx f
  ·exact cd f
theorem yc (B:gU G N mN mg mb) {d:Def} {τ:Tau} {W:Nat} {run:WsRun} (I:qk Φ τ W d run) (Fa:av G A Φ) {s s1:Shared} {raw:List Nat} {tR:Tok} (ok:(run raw).1=true) (Bn:BP G X s x dx s) {ids:List Str} (hids:ids.map nm=d.params) (En1:fz G env d.κ s s1 g ids [.ref x, .str (tx raw) tR])
 {E:Value->Shared->Prop} {Q:Flow->Shared->Prop} (q:∀s',hU x dx s s'->pR G X s'.heap x raw (run raw).2.1 (run raw).2.2.1 (run raw).2.2.2.1 (run raw).2.2.2.2 (decide ((run raw).2.2.2.1.length<=1))->Q .next s'):
 wpAny (model G.p G.w) A (execs d.body env) Q E s1:=by
 obtain⟨p1,p2,p3,p4,mid,qp,e1,e2,e3,e4,params,hs,ht,ns,hbody,c1,c2,c3,c4,hmid,htail⟩:=I;rw[params]at hids;obtain rfl:=BO hids;rw[hbody];refine wpAny_execs_cons (vP B Bn En1 hs ht λs2 e2' k2 own K2 S2 => ?_);obtain⟨ρ',μ,hex,l1,l2,l3,l4,l5⟩:=hmid x raw ok;have X0:=rH (G:=G) (A:=A) Fa En1.En (τ:=τ) (μ:=μ) (W:=W) 200 [mid] X (bX d.κ [(nm "self", .obj x raw),(nm "ws", .str raw)]);rw[show[mid].flatten=mid by simp,hex]at X0;refine iA (wpAny_mono (X0 rfl _ s2 S2 E (λf s3=>f = .next/\∃O',bJ G env X O' ρ' s3.heap/\Mv env (λ_=>none) O' s2 s3) λf s3 ho => ?_) (λf s3 h3 => ?_) λ_ _ e=>e)
 ·induction f using Flow.casesOn with
  |next=>exact⟨rfl,ho⟩
  |_=>exact ho.elim
 induction f using Flow.casesOn with
 |next=>
  obtain⟨_,O',S3,mv⟩:=h3;obtain⟨v1,v2,v3,v4⟩:=htail raw ok (run raw).2.1 (run raw).2.2.1 (run raw).2.2.2.1 (run raw).2.2.2.2 (by rw[<-ok]);obtain⟨g3,m3,T,hm,hr⟩:=BQ Bn.o1 (λb hb=>⟨(own b hb).1,(own b hb).2.2⟩) En1.En K2 S3 mv hs ns l1 l2 l3 l4 l5;refine yb B Fa En1.En T Bn.o1 hs hm hr c1 c2 c3 c4 v1 v2 v3 v4 λs' sn W=>q s' (hU.trans ⟨?_,λb o n1 n2 e => ?_⟩ sn) W
  ·obtain⟨h3,tk3,rfl,_⟩:=mv
   obtain⟨h2,tk2,rfl⟩:=e2';obtain⟨h1,tk1,rfl,_⟩:=En1.keeps;exact⟨h3,tk3,rfl⟩
  ·obtain⟨h3,tk3,rfl,on3⟩:=mv
   exact on3.keep b o (λf=>rI f (λf=>f) λf=>ao ((own b f).2.1.symm.trans e)) (k2 b o n1 n2 e)
 |_=>cases h3.1
theorem zV (B:gU G N mN mg mb) {n:Nat} {fI:Addr} {d:Def} {τ:Tau} {W:Nat} {run:WsRun} (hd:cN G fI d) (hI:mN "__init__"=some (.ref fI)) (hfc:∃o,G.h0.get? fI=some o/\o.cls = .type "function") (hp:d.params.length=2)
 (I:qk Φ τ W d run) (Fa:∀A,fv n A->av G A Φ) (room:fv (n+2) A) {s:Shared} (old:m5 G s.heap) (off:vq G X) (al:aF X s.heap) {raw:List Nat} {tR:Tok} (ok:(run raw).1=true):
 an G A X (call (.ref G.C) [.str (tx raw) tR]) (.ws raw (run raw).2.1 (run raw).2.2.1 (run raw).2.2.2.1 (run raw).2.2.2.2 (decide ((run raw).2.2.2.1.length<=1))) s:=λE Q q=>by
 obtain⟨nm',qn,bs,sn,sub,col,dd,k0,k1,k2,k3,k5,hC⟩:=B.o old;obtain⟨oI,hoI,hcI⟩:=hfc;obtain⟨hh,gg,dr,tk,os⟩:=s;refine wpAny_call_obj_init F.objNew hC (B.cls.keeps old).ns hI (old _ _ hoI) hcI λh' x dx Mk => ?_
 clear hC k0 k1 k2 k3 k5 dd col sub sn bs qn nm';have room1:fv (n+1) (A.under (.builtin "type.__call__" ⟨.ref G.C::[.str (tx raw) tR],[]⟩)):=
  ⟨room.none,by have:=room.depth;show A.depth+1+(n+1)<recursionLimit;omega,by
    have:=room.units;show A.units+(1+3*_)+_+_<cLine;have hf:(Code.builtin "type.__call__" ⟨.ref G.C::[.str (tx raw) tR],[]⟩).frames=0:=by rfl
    rw[hf];omega⟩
 generalize A.under (.builtin "type.__call__" ⟨.ref G.C::[.str (tx raw) tR],[]⟩)=A1 at room1;have none0:∀{b:Addr},hh.get? b=none->G.h0.get? b=none:=λ{b} n=>by
  cases e:G.h0.get? b with
  |none=>rfl
  |some o=>exact ao (n.symm.trans (old b o e))
 have notX:∀{b:Addr},hh.get? b=none->¬X b:=λ{b} n h=>let⟨o,e⟩:=al b h;ao (n.symm.trans e)
 have o1:tT G X x dx:=⟨off,none0 Mk.newX,none0 Mk.newD,notX Mk.newX,notX Mk.newD⟩;obtain⟨ox,hox,hcx,hnx,hdx⟩:=Mk.inst;have hdd:=Mk.dict ox hox;have K0:qj G h' x dx λ_=>none:=by
  rcases hdx with⟨hn0,_⟩|⟨d',hd',hne',hns'⟩
  ·exact ao (hn0.symm.trans hdd)
  ·obtain rfl:=Option.some.inj (hd'.symm.trans hdd)
   exact⟨⟨ox,hox,hcx,hdd,hnx⟩,hns',hne',λ_ _=>rfl⟩
 have Bn:BP G X ⟨h',gg,dr,tk,os⟩ x dx ⟨h',gg,dr,tk,os⟩:=⟨λb o e=>Mk.keeps b o (old b o e),λb hb=>let⟨o,e⟩:=al b hb;⟨o,Mk.keeps b o e⟩,o1,K0⟩;refine uR hd (by have:=room1.depth;omega) B.lim Bn.old (us:=[.ref x, .str (tx raw) tR]) hp.symm λenv s1 g ids hids En1 E' => ?_
 refine yc B I (Fa _ (room1.deeper env)) ok Bn hids En1 λs' sn W=>⟨rfl,q _ s' ?_ (ah.ws_iff.mpr ⟨x,rfl,o1.nx,W⟩)⟩
 obtain⟨⟨h2,t2,rfl⟩,k⟩:=sn;exact⟨h2,t2,rfl,λb o e=>k b o (λh=>ao (Mk.newX.symm.trans (h▸e))) (λh=>ao (Mk.newD.symm.trans (h▸e))) (Mk.keeps b o e)⟩
theorem zW (B:gU G N mN mg mb) {n:Nat} {fI:Addr} {d:Def} {τ:Tau} {W:Nat} {run:WsRun} (hd:cN G fI d) (hI:mN "__init__"=some (.ref fI)) (hfc:∃o,G.h0.get? fI=some o/\o.cls = .type "function")
 (I:qk Φ τ W d run) (Fa:∀A,fv n A->av G A Φ):dc G (n+2) G.C (Dc run):=λA room=>
 ⟨x9 B,λX s as us old off al r ok=>cR (c:=λus=>call (.ref G.C) us) r ok λv u h ok=>fZ (c:=λu=>call (.ref G.C) [u]) h ok λraw tR ok=>zV B hd hI hfc (by
   obtain⟨_,_,_,_,_,_,_,_,_,_,params,_⟩:=I;rw[params];rfl) I Fa room old off al ok⟩
end
end
section
open PySem PySem.W PySem.Calls PyProof.Rows
section
variable {G:Cfg} {A:Around} {X:Addr->Prop} {Φ:Fns}
theorem fz.sta{env:Env}{κ:List (Str×NameKind)}{s s1:Shared}{g:Str->Option Value}{ids:List Str}{us:List Value}{as:List V}(en:fz G env κ s s1 g ids us)(old:m5 G s.heap)(off:vq G X)(al:aF X s.heap)(r:Reps G X s.heap as us):
 bJ G env X (λ_=>none) (bX κ (kB (ids.map nm) as)) s1.heap:=by
 have kp:=Kp.keep en.keeps;have on:On X (ag env X λ_=>none) s.heap s1.heap:=⟨λb o _ e=>kp b o e,λb o e f=>by
  rcases f with f|f|⟨y,f⟩
  ·exact f
  ·rw[(en.own b f).1]at e;injections e
  ·cases f⟩
 refine tS (λb o e=>kp b o (old b o e)) off (al.keeps kp) en.frame (λb hb=>⟨?_,(en.own b hb).2⟩) λx hx => ?_
 ·cases e:G.h0.get? b with
  |none=>rfl
  |some o=>have:=old b o e;rw[(en.own b hb).1]at this;injections this
 ·rcases kR (kB (ids.map nm) as) κ (nm x)with e|⟨v,e1,e2⟩
  ·rw[e];trivial
  ·rw[e2]
   obtain⟨u,m,hr⟩:=tQ r e1;exact⟨u,en.has _ _ m,hr.on on⟩
theorem fz.fin{env:Env}{κ:List (Str×NameKind)}{s s1 s':Shared}{g:Str->Option Value}{ids:List Str}{us:List Value}{O':Nm->Option Addr}(en:fz G env κ s s1 g ids us)(mv:Mv env (λ_=>none) O' s1 s'):
 Keeps s s'/\∀v u,ah G (ag env X O') s'.heap v u->ah G X s'.heap v u:=by
 obtain⟨h',tk',e,m⟩:=mv;subst e;obtain⟨h1,t1,rfl,kk⟩:=en.keeps;refine⟨⟨h',tk',rfl,λb o e => ?_⟩,λv u hr=>hr.on ⟨λ_ _ _ e=>e,λb o e xb => .inl xb⟩⟩;refine m.keep b o (λf => ?_) (kk b o e)
 rcases f with f|f|⟨y,f⟩
 ·exact f
 ·rw[(en.own b f).1]at e;injections e
 ·cases f
theorem kU {env:Env} {κ:List (Str×NameKind)} {ρ:Rho} {O} (Fa:av G A Φ) (En:am env κ) {mg:Str->Option Value} (hm:G.h0.Ns mainGlobals mg) {x:Str} {u:Value} (hu:mg x=some u) (hx:aN (kd κ (nm x))=true) {s:Shared} (S:bJ G env X O ρ s.heap) {p:Pos}
 {E Q:Value->Shared->Prop} (q:Q u s):wpAny (model G.p G.w) A (eval (.Name x p) env) Q E s:=by
 have hk:aN (env.kindOf x)=true:=(En.glob x).trans hx;have pl:=En.plain x (by rw[hk,Bool.or_true]);exact Name_function_global En.kind (jG hk) (loadGlobal_global (mg:=mg) (by rw[En.globals];exact hm.keeps S.old) hu q) pl.1
noncomputable def EF(set:Int->Bool):List V->R:=fm (DL λc=>(true, .bool (set c)))
structure Dd(Φ:Fns)(d:Def):Prop where
 body:∃e1 p1 p2 p3 x,d.params=[x]/\d.body=[.Return (some (.Compare e1 [.In] [.Name "b1_set" p1] p2)) p3]/\∀c,ev Φ [] 40 d.κ (bX d.κ [(x, .str [c])]) e1=(true, .int c)
 glob:aN (kd d.κ (nm "b1_set"))=true
theorem SetOf.keeps'{prog:Program}{w:World}{h h':Heap}{a:Addr}{S:Int->Bool}{n:Nat}(x:h.SetOf (intKind prog w) a S n)(k:∀b o,h.get? b=some o->h'.get? b=some o):h'.SetOf (intKind prog w) a S n:=
 let⟨o,es,ep,t,ho,r⟩:=x;⟨o,es,ep,t,k _ _ ho,r⟩
theorem De {n:Nat} {a S:Addr} {d:Def} {set:Int->Bool} {k:Nat} (hd:cN G a d) (hlim:G.h0.NoLimit) (Fa:∀A,fv n A->av G A Φ) {mg:Str->Option Value} (hm:G.h0.Ns mainGlobals mg) (hS:mg "b1_set"=some (.ref S)) (hset:G.h0.SetOf (intKind G.p G.w) S set k)
 (I:Dd Φ d):dc G (n+1) a (EF set):=λA room=>by
 obtain⟨o,fd,ids0,ho,hdata,_⟩:=hd.ex;refine⟨kS ho hdata,λX s as us old off al r ok E Q q => ?_⟩;obtain⟨c,rfl⟩:∃c,as=[.str [c]]:=kL (λas _=>∃c,as=[.str [c]]) ok λv ok=>wW (λv _=>∃c,[v]=[.str [c]]) ok λc _=>⟨c,rfl⟩
 obtain⟨e1,p1,p2,p3,x,hp,hb,he⟩:=I.body;refine uR hd (by have:=room.depth;omega) hlim old (by rw[hp,<-r.length];rfl) λenv s1 g ids hids en E' => ?_
 have FaB:=Fa _ (room.deeper env);have S1:=en.sta old off al r;rw[hids,hp]at S1;have GE:=(fw (G:=G) (A:=A.deeper env) FaB [] 40 d.κ env X (bX d.κ [(x, .str [c])]) en.En).1;have e2:=he c;rw[hb];refine wpAny_execs_cons (wpAny_Return_some (wpAny_Compare1 (GE.ok e1 (by show(ev Φ [] 40 d.κ (bX d.κ [(x, .str [c])]) e1).1=true;rw[e2]) _ s1 S1 _ _ λu s2 k2 r2 => ?_) (by rfl)));refine kU FaB en.En hm hS I.glob (S1.keeps (Kp.keep k2)) ?_;have r2:ah G _ s2.heap (ev Φ [] 40 d.κ (bX d.κ [(x, .str [c])]) e1).2 u:=r2;rw[e2]at r2;obtain⟨t,rfl⟩:=ah.int_iff.mp r2;have S2:=S1.keeps (Kp.keep k2);refine wpAny_inSet_of (knd:=intKind G.p G.w) (k:=(c:Int)) (by simp[intKind,Value.isInt]) rfl (SetOf.keeps' hset S2.old) ?_
 exact q _ _ (Kp.trans en.keeps (Kp.trans k2 (Kp.toks _ _))) (ah.bool_iff.mpr rfl)
theorem oM{k:Int}:∀{es:List DictEntry} {L:List (Int×Str)},aS es L->(match L.lookup k with
 |some x=>∃t,(es.find? λe=>Value.isInt k e.key).map (·.val)=some (.str x t)
 |none=>(es.find? λe=>Value.isInt k e.key).map (·.val)=none)
 |[],[],_=>rfl
 |e::es,(i,x)::L,h=>by
  obtain⟨_,⟨t,hk⟩,⟨t',hv⟩⟩:=h.1;have ih:=oM (k:=k) h.2;rw[List.lookup_cons,List.find?_cons,hk];show match(match k==i with|true=>some x|false=>L.lookup k)with|some x=>_|none=>_
  cases c:k==i with
  |true=>
   have:Value.isInt k (.int i t)=true:=by
    have:=eq_of_beq c;subst this;simp[Value.isInt]
   rw[this];exact⟨t',by rw[Option.map_some,hv]⟩
  |false=>
   have:Value.isInt k (.int i t)=false:=by
    have h0:k≠i:=λe=>by rw[e]at c;simp at c
    simp[Value.isInt];exact λe=>h0 e.symm
   rw[this];exact ih
 |[],_::_,h=>h.elim
 |_::_,[],h=>h.elim
theorem oN{prog:Program}{w:World}:∀{es:List DictEntry} {L:List (Int×Str)},aS es L->∀e∈es,∃k,(intKind prog w).is k e.key=true/\e.hash=(intKind prog w).hash k
 |[],_,_,e,he=>nomatch he
 |e::es,(i,x)::L,h,e',he=>by
  rcases List.mem_cons.mp he with rfl|he
  ·obtain⟨hh,⟨t,hk⟩,_⟩:=h.1
   exact⟨i,by rw[hk];simp[intKind,Value.isInt],hh⟩
  ·exact oN h.2 e' he
 |_::_,[],h,_,_=>h.elim
theorem rJ{prog:Program}{w:World}{h:Heap}{a:Addr}{es:Array DictEntry}{ep:Nat}{L:List (Int×Str)}(e:h.get? a=some (dO es ep))(r:bh es L):
 ∃f,h.MapOf (intKind prog w) a f/\∀k,match L.lookup k with|some x=>∃t,f k=some (.str x t)|none=>f k=none:=by
 refine⟨λk=>findBy Value.isInt es k,⟨_,es,ep,e,⟨rfl,rfl,rfl⟩,rfl,λe he=>oN r e (Array.mem_toList_iff.mpr he),λk=>rfl⟩,λk => ?_⟩;have:=oM (k:=k) r;have e2:findBy Value.isInt es k=(es.toList.find? λe=>Value.isInt k e.key).map (·.val):=by
  unfold findBy;rw[<-Array.find?_toList]
 dsimp only;rw[e2];exact this
noncomputable def wx(L:List (Int×Str))(c:Nat):V:=match L.lookup (c:Int)with
 |some x => .str (nm x)
 |none => .none
noncomputable def Ep(Φ:Fns)(W:Nat)(L:List (Int×Str))(κ:List (Str×NameKind))(x:Nm)(rest:List Stmt):List V->R:=
 fm (DL λc=>iR (ex Φ [] [] W κ 200 rest (put (bX κ [(x, .str [c])]) (nm "r") (.val (wx L c)))))
structure Df(Φ:Fns)(d:Def)(x:Nm)(rest:List Stmt):Prop where
 params:d.params=[x]
 body:∃e1 p1 p2 p3 p4 p5,d.body = .Assign [.Name "r" p1] (.Call (.Attribute (.Name "b3_exceptions" p2) "get" p3) [e1] [] p4) p5::rest/\p3.endLine=p4.line/\(∀c,ev Φ [] 40 d.κ (bX d.κ [(x, .str [c])]) e1=(true, .int c))/\cV e1=false/\∀e p,e1 ≠ .Starred e p
 glob:aN (kd d.κ (nm "b3_exceptions"))=true
 loc:ae (kd d.κ (nm "r"))=true
theorem Dg {n:Nat} {a D:Addr} {d:Def} {L:List (Int×Str)} {W:Nat} {x:Nm} {rest:List Stmt} (hd:cN G a d) (hlim:G.h0.NoLimit) (Fa:∀A,fv n A->av G A Φ) {mg:Str->Option Value} (hm:G.h0.Ns mainGlobals mg) (hD:mg "b3_exceptions"=some (.ref D))
 (hdict:∃es ep,G.h0.get? D=some (dO es ep)/\bh es L) (hsys:(D==sysModules)=false) (I:Df Φ d x rest):dc G (n+1) a (Ep Φ W L d.κ x rest):=λA room=>by
 obtain⟨o,fd,ids0,ho,hdata,_⟩:=hd.ex;refine⟨kS ho hdata,λX s as us old off al r ok E Q q => ?_⟩;obtain⟨c,rfl⟩:∃c,as=[.str [c]]:=kL (λas _=>∃c,as=[.str [c]]) ok λv ok=>wW (λv _=>∃c,[v]=[.str [c]]) ok λc _=>⟨c,rfl⟩
 obtain⟨e1,p1,p2,p3,p4,p5,hb,hpos,he,hc,hst⟩:=I.body;have hp:=I.params;refine uR hd (by have:=room.depth;omega) hlim old (by rw[hp,<-r.length];rfl) λenv s1 g ids hids en E' => ?_
 have FaB:=Fa _ (room.deeper env);have S1:=en.sta old off al r;rw[hids,hp]at S1;have GE:=(fw (G:=G) (A:=A.deeper env) FaB [] 40 d.κ env X (bX d.κ [(x, .str [c])]) en.En).1;have e2:=he c;obtain⟨es,ep,gD,hE⟩:=hdict;obtain⟨f,hM,hf⟩:=rJ (prog:=G.p) (w:=G.w) gD hE;rw[hb];have htr:backTo p4 (starEach [e1] env)=[(false,eval e1 env)]:=by
  have:starEach [e1] env=[(false,eval e1 env)]:=eC GE (show(ev Φ [] 40 d.κ (bX d.κ [(x, .str [c])]) e1).1=true by rw[e2]) [];rw[this];rfl
 have hval:(wx L c = .none/\f c=none)\/∃y t,wx L c = .str (nm y)/\f c=some (.str y t):=by
  have:=hf c;unfold wx;cases e:L.lookup (c:Int)with
  |none=>rw[e]at this;exact .inl ⟨rfl,this⟩
  |some y=>rw[e]at this;obtain⟨t,ht⟩:=this;exact .inr ⟨y,t,rfl,ht⟩
 refine wpAny_execs_cons (wpAny_Assign_Name ?_ (i5 rfl _ _));refine wpAny_Call_method_lateS (gG rfl) (by rw[htr];rfl) (by rw[hpos];exact beq_self_eq_true _) (kU FaB en.En hm hD I.glob S1 ?_);have T0:s1.heap.MapOf (intKind G.p G.w) D f:=by
  obtain⟨o',es',ep',a1,a2⟩:=hM;exact⟨o',es',ep',S1.old _ _ a1,a2⟩
 refine⟨"dict","dict.get",F.plainAttrs_dict,F.slot_dict_get,F.type_dict_get,T0.typeIs,T0.noDict, ?_⟩;rw[htr];refine wpAny_dict_get1 (knd:=intKind G.p G.w) hsys (GE.ok e1 (by rw[e2]) _ s1 S1 _ _ λu s2 k2 r2 => ?_);rw[e2]at r2;obtain⟨t,rfl⟩:=ah.int_iff.mp r2;have S2:=S1.keeps (Kp.keep k2);refine⟨(c:Int),f,by simp[intKind,Value.isInt],by obtain⟨o',es',ep',a1,a2⟩:=hM;exact⟨o',es',ep',S2.old _ _ a1,a2⟩, ?_⟩;have rv:ah G (ag env X λ_=>none) s2.heap (wx L c) ((f c).getD .none):=by
  rcases hval with⟨a1,a2⟩|⟨y,t',a1,a2⟩
  ·rw[a1,a2];exact ah.none_iff.mpr rfl
  ·rw[a1,a2];exact ah.str_iff.mpr ⟨t',by rw[AJ];rfl⟩
 refine bp (s:={ s2 with toks:=s2.toks+1 }) S2 en.En I.loc rv λh' tk S3 kp al3 => ?_
 have mv3:Mv env (λ_=>none) (upd (λ_=>none) (nm "r") none) s1 { s2 with heap:=h',toks:=tk }:=tF (x:="r") k2 kp;have ok':(iR (ex Φ [] [] W d.κ 200 rest (put (bX d.κ [(x, .str [c])]) (nm "r") (.val (wx L c))))).1=true:=ok;have q':∀u s',Keeps s s'->ah G X s'.heap (iR (ex Φ [] [] W d.κ 200 rest (put (bX d.κ [(x, .str [c])]) (nm "r") (.val (wx L c))))).2 u->Q u s':=q
 unfold iR at ok' q';have X0:=rH (G:=G) (A:=A.deeper env) FaB en.En (τ:=[]) (μ:=[]) (W:=W) 200 [rest] X (put (bX d.κ [(x, .str [c])]) (nm "r") (.val (wx L c)));rw[show[rest].flatten=rest by simp]at X0;generalize ex Φ [] [] W d.κ 200 rest (put (bX d.κ [(x, .str [c])]) (nm "r") (.val (wx L c)))=res at X0 ok' q';obtain⟨b,out⟩:=res;have X2:∀(Q:Flow->Shared->Prop) (hb:b=true),(∀f s',da G env X (upd (λ_=>none) (nm "r") none) { s2 with heap:=h',toks:=tk } out f s'->Q f s')->wpAny (model G.p G.w) (A.deeper env) (execs rest env) Q E' { s2 with heap:=h',toks:=tk }:=λQ hb hq=>
  wpAny_mono (X0 hb _ _ S3 E' Q hq) (λf s' h'=>by induction f using Flow.casesOn<;>exact h') λ_ _ e=>e
 induction out using em.casesOn with
 |ret v=>
  refine X2 _ ok' λf s' ho => ?_
  induction f using Flow.casesOn with
  |ret u=>
   obtain⟨O',h1,h2⟩:=ho;have fin:=en.fin (X:=X) (mv3.trans h2);exact q' u s' fin.1 (fin.2 _ _ h1)
  |_=>exact ho.elim
 |next ρ'=>
  refine X2 _ ok' λf s' ho => ?_
  induction f using Flow.casesOn with
  |next=>
   obtain⟨O',h1,h2⟩:=ho;have fin:=en.fin (X:=X) (mv3.trans h2);exact q' .none s' fin.1 (ah.none_iff.mpr rfl)
  |_=>exact ho.elim
 |_=>cases ok'
end
end
section
open PySem PySem.Sre
noncomputable def bu:Nat->M->M
 |0,m=>m
 |n+1,m=>bu n m.step
theorem oO{m:M}(h:m.outcome.isSome=true):m.step=m:=by unfold M.step;rw[if_pos h]
theorem dX{m:M}(h:m.outcome.isSome=true):∀n,bu n m=m
 |0=>rfl
 |n+1=>by show bu n m.step=m;rw[oO h];exact dX h n
theorem oP:∀(n:Nat) (m:M),M.runFor n m=bu n m
 |0,m=>rfl
 |n+1,m=>by
  show(if m.outcome.isSome=true then m else M.runFor n m.step)=bu n m.step
  split
  ·rename_i h;rw[oO h,dX h]
  ·exact oP n _
theorem gM(a b:Nat):∀m,bu (a+b) m=bu b (bu a m):=by
 induction a with
 |zero=>intro m;rw[Nat.zero_add];rfl
 |succ a ih=>intro m;rw[Nat.succ_add];exact ih _
noncomputable def st(code text:Array Nat)(lim start ls:Nat)(must:Bool)(pc pos handed:Nat)(om:Bool)(fs:List Sre.Frame)(w:Nat)(ans:Option Bool)(seen:Sre.Seen)(out:Option Sre.Outcome):M:=
 { code,text,lim,start,lastStart:=ls,mustAdvance:=must,pc,pos,handed,outermost:=om,marks := #[],frames:=fs,weight:=w,answer:=ans,seen,outcome:=out }
noncomputable def code1:Array Nat := #[14,4,0,1,1,6,1,16,46,1]
noncomputable def code2:Array Nat := #[14,9,4,1,2,16,10,16,13,0,7,7,16,13,16,10,15,18,5,16,10,15,13,11,16,13,5,5,0,16,10,1,15,2,0,1]
variable {text:Array Nat} {lim start ls pos h w:Nat} {must om:Bool} {fs:List Sre.Frame} {seen:Sre.Seen}
theorem rK:M.step (st code1 text lim start ls must 5 pos h om fs w none seen none) =
 if(pos==0||text.getD (pos-1) 0==10)=true then st code1 text lim start ls must 7 pos h om fs w none ((seen.add 6).add 44) none else st code1 text lim start ls must 5 pos h om fs w (some false) ((seen.add 6).add 44) none:=rfl
noncomputable def AP(m:M)(wd:Nat)(b:Bool):M:=match b with
 |false=>m.say false
 |true=>{ m with pc:=m.pc+wd,pos:=m.pos+1 }
theorem tU:M.step (st code1 text lim start ls must 7 pos h om fs w none seen none) =
 if pos>=lim then st code1 text lim start ls must 7 pos h om fs w (some false) (seen.add 16) none else AP (st code1 text lim start ls must 7 pos h om fs w none (seen.add 16) none) 2 (text.getD pos 0==46):=∅
theorem zX:M.step (st code1 text lim start ls must 9 pos h om fs w none seen none) =
 if(om&&(false||(must&&pos==start)))=true then st code1 text lim start ls must 9 pos h om fs w (some false) (seen.add 1) none else st code1 text lim start ls must 9 pos pos om fs w (some true) (seen.add 1) none:=∅
noncomputable def fr(pc p:Nat)(om:Bool):Sre.Frame:={ wait := .nextStart,pc,pos:=p,outermost:=om }
theorem BR{p pc:Nat}{om':Bool}:M.step (st code1 text lim start ls must pc pos h om [fr 5 p om'] 1 (some true) seen none)=st code1 text lim start ls must 5 p h om' [] 0 (some true) seen none:=∅
theorem uS{p pc:Nat}{om':Bool}:M.step (st code1 text lim start ls must pc pos h om [fr 5 p om'] 1 (some false) seen none) =
 if p<ls then st code1 text lim (p+1) ls false 5 (p+1) (p+1) false [fr 5 (p+1) false] 1 none seen none else st code1 text lim start ls must 5 p h om' [] 0 (some false) seen none:=∅
theorem l8{code:Array Nat}{pc:Nat}{b:Bool}:M.step (st code text lim start ls must pc pos h om [] w (some b) seen none)=st code text lim start ls must pc pos h om [] w (some b) seen (some (if b=true then .matched else .failed)):=rfl
noncomputable def cH(text:Array Nat)(lim p:Nat):Bool:=(p==0||text.getD (p-1) 0==10)&&decide (p<lim)&&text.getD p 0==46
noncomputable def cj(text:Array Nat)(lim:Nat):Nat->Nat->Option Nat
 |0,p=>if cH text lim p then some p else none
 |n+1,p=>if cH text lim p then some p else cj text lim n (p+1)
noncomputable def ax(m:M)(k:Nat)(r:Option (Nat×Nat)):Prop:=∃k',k'<=k/\match r with
 |some (b,e)=>∃t,bu k' m=t/\t.outcome=some .matched/\t.start=b/\t.handed=e
 |none=>(bu k' m).outcome=some .failed
theorem ax.step{m m':M}{k:Nat}{r:Option (Nat×Nat)}(h:m.step=m')(e:ax m' k r):ax m (k+1) r:=by
 obtain⟨k',hk,h2⟩:=e;refine⟨k'+1,⋯, ?_⟩;have:bu (k'+1) m=bu k' m':=by show bu k' m.step=_;rw[h]
 rw[this];exact h2
theorem ax.more{m:M}{k k2:Nat}{r:Option (Nat×Nat)}(e:ax m k r)(h:k<=k2):ax m k2 r:=let⟨k',a,b⟩:=e;⟨k',Nat.le_trans a h,b⟩
noncomputable def A1(text:Array Nat)(lim p:Nat)(must om:Bool)(seen:Sre.Seen):M:=st code1 text lim p lim must 5 p p om [fr 5 p om] 1 none seen none
theorem Er:∀(n p:Nat) (must om:Bool) (seen:Sre.Seen),lim-p=n->p<=lim->ax (A1 text lim p must om seen) (5*n+6) ((cj text lim n p).map λb=>(b,b+1)):=by
 intro n
 induction n with
 |zero=>
  intro p must om seen hn hp;have hpl:p=lim:=⋯;have nohit:cH text lim p=false:=by unfold cH;rw[hpl];simp
  show ax _ _ (Option.map _ (if cH text lim p=true then some p else none));rw[nohit];unfold A1
  by_cases ha:(p==0||text.getD (p-1) 0==10)=true
  ·refine ax.more (ax.step (rK.trans (if_pos ha)) (ax.step (tU.trans (if_pos ⋯)) (ax.step (uS.trans (if_neg ⋯)) (ax.step l8 (k:=0) ⟨0,Nat.le_refl _,rfl⟩)))) ⋯
  ·refine ax.more (ax.step (rK.trans (if_neg ha)) (ax.step (uS.trans (if_neg ⋯)) (ax.step l8 (k:=0) ⟨0,Nat.le_refl _,rfl⟩))) ⋯
 |succ n ih=>
  intro p must om seen hn hp;have hlt:p<lim:=⋯;show ax _ _ (Option.map _ (if cH text lim p=true then some p else cj text lim n (p+1)));unfold A1
  by_cases ha:(p==0||text.getD (p-1) 0==10)=true
  ·cases hb:(text.getD p 0==46)with
   |true=>
    have yes:cH text lim p=true:=by unfold cH;rw[ha,hb];simp[hlt]
    rw[yes];refine ax.more (ax.step (rK.trans (if_pos ha)) (ax.step (tU.trans ((if_neg ⋯).trans (by rw[hb];rfl:_=st code1 text lim p lim must 9 (p+1) p om [fr 5 p om] 1 none (((seen.add 6).add 44).add 16) none))) (ax.step (zX.trans (if_neg ?_))
     (ax.step BR (ax.step l8 (k:=0) ⟨0,Nat.le_refl _,_,rfl,rfl,rfl,rfl⟩))))) ⋯
    have:(p+1==p)=false:=by simp
    rw[this];simp
   |false=>
    have no:cH text lim p=false:=by unfold cH;rw[hb];simp
    rw[no];refine ax.more (ax.step (rK.trans (if_pos ha)) (ax.step (tU.trans ((if_neg ⋯).trans (by rw[hb];rfl:_=st code1 text lim p lim must 7 p p om [fr 5 p om] 1 (some false) (((seen.add 6).add 44).add 16) none))) (ax.step (uS.trans (if_pos hlt)) (ih (p+1) false false _ ⋯ ⋯)))) ⋯
  ·have no:cH text lim p=false:=by unfold cH;rw[Bool.not_eq_true]at ha;rw[ha];simp
   rw[no];refine ax.more (ax.step (rK.trans (if_neg ha)) (ax.step (uS.trans (if_pos hlt)) (ih (p+1) false false _ ⋯ ⋯))) ⋯
theorem zY(text:Array Nat)(start:Nat)(must:Bool)(hs:start<=text.size):ax (Sre.forSearch code1 text 0 start text.size must) (5*text.size+8) ((cj text text.size (text.size-start) start).map λb=>(b,b+1)):=by
 by_cases h:start=text.size
 ·subst h
  have e:Sre.forSearch code1 text 0 text.size text.size must=(if(decide (text.size>text.size)||decide (text.size-text.size<1))=true then st code1 text text.size text.size 0 must 5 text.size text.size true [] 0 (some false) (({}:Sre.Seen).add 14) none else A1 text text.size text.size must true (({}:Sre.Seen).add 14)):=∅;rw[e,if_pos (by simp)];have:cj text text.size (text.size-text.size) text.size=none:=by
   rw[Nat.sub_self];show(if cH text text.size text.size=true then _ else _)=none;rw[if_neg (by simp[cH])]
  rw[this];exact ax.more (ax.step l8 (k:=0) ⟨0,Nat.le_refl _,rfl⟩) ⋯
 ·have e:Sre.forSearch code1 text 0 start text.size must=(if(decide (start>text.size)||decide (text.size-start<1))=true then st code1 text text.size start 0 must 5 start start true [] 0 (some false) (({}:Sre.Seen).add 14) none else A1 text text.size start must true (({}:Sre.Seen).add 14)):=∅
  rw[e,if_neg (by simp;omega)];exact(Er _ start must true _ rfl hs).more ⋯
variable {text:Array Nat} {lim start ls pos h w:Nat} {must om:Bool} {fs:List Sre.Frame} {seen:Sre.Seen}
noncomputable def br(pc p:Nat)(om:Bool):Sre.Frame:={ wait := .nextBranch,pc,pos:=p,outermost:=om,kept:={ lastmark := -1,lastindex := -1,whole:=false,marks := #[] } }
noncomputable def ln(p:Nat)(om:Bool):Sre.Frame:={ wait := .lookNot,pc:=26,pos:=p,outermost:=om,kept:={ lastmark := -1,lastindex := -1,whole:=false,marks := #[] } }
theorem vQ:M.step (st code2 text lim start ls must 10 pos h om [fr 10 pos om] 1 none seen none)=st code2 text lim start ls must 12 pos pos om [br 11 pos om,fr 10 pos om] 2 none (seen.add 7) none:=∅
theorem rL:M.step (st code2 text lim start ls must 12 pos h om fs w none seen none) =
 if pos>=lim then st code2 text lim start ls must 12 pos h om fs w (some false) (seen.add 16) none else AP (st code2 text lim start ls must 12 pos h om fs w none (seen.add 16) none) 2 (text.getD pos 0==13):=∅
theorem l9:M.step (st code2 text lim start ls must 14 pos h om fs w none seen none) =
 if pos>=lim then st code2 text lim start ls must 14 pos h om fs w (some false) (seen.add 16) none else AP (st code2 text lim start ls must 14 pos h om fs w none (seen.add 16) none) 2 (text.getD pos 0==10):=∅
theorem md:M.step (st code2 text lim start ls must 19 pos h om fs w none seen none) =
 if pos>=lim then st code2 text lim start ls must 19 pos h om fs w (some false) (seen.add 16) none else AP (st code2 text lim start ls must 19 pos h om fs w none (seen.add 16) none) 2 (text.getD pos 0==10):=∅
theorem rM:M.step (st code2 text lim start ls must 24 pos h om fs w none seen none) =
 if pos>=lim then st code2 text lim start ls must 24 pos h om fs w (some false) (seen.add 16) none else AP (st code2 text lim start ls must 24 pos h om fs w none (seen.add 16) none) 2 (text.getD pos 0==13):=∅
theorem rN:M.step (st code2 text lim start ls must 29 pos h om fs w none seen none) =
 if pos>=lim then st code2 text lim start ls must 29 pos h om fs w (some false) (seen.add 16) none else AP (st code2 text lim start ls must 29 pos h om fs w none (seen.add 16) none) 2 (text.getD pos 0==10):=∅
theorem vR:M.step (st code2 text lim start ls must 16 pos h om fs w none seen none)=st code2 text lim start ls must 35 pos h om fs w none (seen.add 15) none:=∅
theorem vU:M.step (st code2 text lim start ls must 21 pos h om fs w none seen none)=st code2 text lim start ls must 35 pos h om fs w none (seen.add 15) none:=∅
theorem oQ:M.step (st code2 text lim start ls must 32 pos h om fs w none seen none)=st code2 text lim start ls must 35 pos h om fs w none (seen.add 15) none:=∅
theorem zZ:M.step (st code2 text lim start ls must 35 pos h om fs w none seen none) =
 if(om&&(false||(must&&pos==start)))=true then st code2 text lim start ls must 35 pos h om fs w (some false) (seen.add 1) none else st code2 text lim start ls must 35 pos pos om fs w (some true) (seen.add 1) none:=∅
theorem yd{p:Nat}{om':Bool}:M.step (st code2 text lim start ls must 26 pos h om [br 23 p om',fr 10 p om'] 2 none seen none)=st code2 text lim start ls must 29 pos pos false [ln pos om,br 23 p om',fr 10 p om'] 3 none (seen.add 5) none:=∅
theorem oR{p q pc:Nat}{om' om2:Bool}:M.step (st code2 text lim start ls must pc pos h om [ln q om2,br 23 p om',fr 10 p om'] 3 (some false) seen none)=st code2 text lim start ls must 32 q h om2 [br 23 p om',fr 10 p om'] 2 none seen none:=∅
theorem me{p pc:Nat}{om':Bool}:M.step (st code2 text lim start ls must pc pos h om [br 11 p om',fr 10 p om'] 2 (some false) seen none)=st code2 text lim start ls must 19 p p om' [br 18 p om',fr 10 p om'] 2 none seen none:=∅
theorem rO{p pc:Nat}{om':Bool}:M.step (st code2 text lim start ls must pc pos h om [br 18 p om',fr 10 p om'] 2 (some false) seen none)=st code2 text lim start ls must 24 p p om' [br 23 p om',fr 10 p om'] 2 none seen none:=∅
theorem BS{p pc:Nat}{om' om2:Bool}{q i:Nat}:M.step (st code2 text lim start ls must pc pos h om [br i q om2,fr 10 p om'] 2 (some true) seen none)=st code2 text lim start ls must i q h om2 [fr 10 p om'] 1 (some true) seen none:=∅
theorem BT{p pc:Nat}{om':Bool}:M.step (st code2 text lim start ls must pc pos h om [fr 10 p om'] 1 (some true) seen none)=st code2 text lim start ls must 10 p h om' [] 0 (some true) seen none:=∅
noncomputable def A2(text:Array Nat)(lim p ls:Nat)(must om:Bool)(seen:Sre.Seen):M:=st code2 text lim p ls must 10 p p om [fr 10 p om] 1 none seen none
noncomputable def cX(text:Array Nat)(lim p:Nat):Nat:=if(text.getD p 0==13&&decide (p+1<lim)&&text.getD (p+1) 0==10)=true then p+2 else p+1
theorem i9{code:Array Nat}{pc wd:Nat}{b:Bool}(hb:b=true):AP (st code text lim start ls must pc pos h om fs w none seen none) wd b=st code text lim start ls must (pc+wd) (pos+1) h om fs w none seen none:=by subst hb;rfl
theorem mf{code:Array Nat}{pc wd:Nat}{b:Bool}(hb:b=false):AP (st code text lim start ls must pc pos h om fs w none seen none) wd b=st code text lim start ls must pc pos h om fs w (some false) seen none:=by subst hb;rfl
theorem Es{p:Nat}(hp:p<lim)(hc:text.getD p 0=13\/text.getD p 0=10):ax (A2 text lim p ls must om seen) 20 (some (p,cX text lim p)):=by
 unfold A2;refine ax.more (k:=1+18) ?_ ⋯;refine ax.more (ax.step vQ (k:=17) ?_) ⋯;have succ:∀{e:Nat} {i:Nat} {hh:Nat} {sn:Sre.Seen},p<e->ax (st code2 text lim p ls must 35 e hh om [br i p om,fr 10 p om] 2 none sn none) 4 (some (p,e)):=λ{e i hh sn} he=>by
  refine ax.more (ax.step (zZ.trans (if_neg ?_)) (ax.step BS (ax.step BT (ax.step l8 (k:=0) ⟨0,Nat.le_refl _,_,rfl,rfl,rfl,rfl⟩)))) ⋯;have:(e==p)=false:=by simp;omega
  rw[this];simp
 rcases hc with hc|hc
 ·have c13:(text.getD p 0==13)=true:=by rw[hc];rfl
  have c10:(text.getD p 0==10)=false:=by rw[hc];rfl
  refine ax.more (ax.step (rL.trans ((if_neg ⋯).trans (i9 c13))) (k:=16) ?_) ⋯
  by_cases hn:p+1<lim
  ·cases hd:(text.getD (p+1) 0==10)with
   |true=>
    have ee:cX text lim p=p+2:=by unfold cX;rw[c13,hd];simp[hn]
    rw[ee];exact ax.more (ax.step (l9.trans ((if_neg ⋯).trans (i9 hd))) (ax.step vR (succ (e:=p+2) ⋯))) ⋯
   |false=>
    have ee:cX text lim p=p+1:=by unfold cX;rw[hd];simp
    rw[ee];refine ax.more (ax.step (l9.trans ((if_neg ⋯).trans (mf hd))) (ax.step me (ax.step (md.trans ((if_neg ⋯).trans (mf c10))) (ax.step rO
     (ax.step (rM.trans ((if_neg ⋯).trans (i9 c13))) (ax.step yd (ax.step (rN.trans ((if_neg ⋯).trans (mf hd))) (ax.step oR (ax.step oQ (succ ⋯))))))))) ) ⋯
  ·have ee:cX text lim p=p+1:=by unfold cX;simp[hn]
   rw[ee];refine ax.more (ax.step (l9.trans (if_pos ⋯)) (ax.step me (ax.step (md.trans ((if_neg ⋯).trans (mf c10))) (ax.step rO
    (ax.step (rM.trans ((if_neg ⋯).trans (i9 c13))) (ax.step yd (ax.step (rN.trans (if_pos ⋯)) (ax.step oR (ax.step oQ (succ ⋯))))))))) ) ⋯
 ·have c13:(text.getD p 0==13)=false:=by rw[hc];rfl
  have c10:(text.getD p 0==10)=true:=by rw[hc];rfl
  have ee:cX text lim p=p+1:=by unfold cX;rw[c13];simp
  rw[ee];exact ax.more (ax.step (rL.trans ((if_neg ⋯).trans (mf c13))) (ax.step me (ax.step (md.trans ((if_neg ⋯).trans (i9 c10))) (ax.step vU (succ ⋯))))) ⋯
noncomputable def gm(c:Nat):Bool:=c==13||c==10
noncomputable def ck(text:Array Nat)(lim:Nat):Nat->Nat->Option Nat
 |0,_=>none
 |n+1,p=>if gm (text.getD p 0)=true then some p else ck text lim n (p+1)
theorem ye{text:Array Nat}{lim n p:Nat}:ck text lim (n+1) p=if gm (text.getD p 0)=true then some p else ck text lim n (p+1):=rfl
theorem BU(c:Nat)(seen:Sre.Seen):∃seen',Sre.inSet code2 c 36 5 true seen = .ok (gm c,seen'):=by
 have e:Sre.inSet code2 c 36 5 true seen=(if(c==10)=true then .ok (true,seen.add 16)else if(c==13)=true then .ok (true,(seen.add 16).add 16)else .ok (false,((seen.add 16).add 16).add 0)):=∅;rw[e];unfold gm;cases h1:c==10 with
 |true=>exact⟨seen.add 16,by simp⟩
 |false=>
  cases h2:c==13 with
  |true=>exact⟨(seen.add 16).add 16,by simp⟩
  |false=>exact⟨((seen.add 16).add 16).add 0,by simp⟩
theorem oS{m:M}(hc:m.code=code2):∀(n s fuel:Nat) (seen:Sre.Seen),m.lim-s=n->n<fuel->∃seen',M.admitted m fuel s seen = .ok (ck m.text m.lim n s,seen')
 |0,s,fuel+1,seen,hn,hf=>⟨seen,by
    unfold M.admitted;rw[if_pos ⋯];rfl⟩
 |n+1,s,fuel+1,seen,hn,hf=>by
  unfold M.admitted;rw[if_neg ⋯,hc];obtain⟨seen',e⟩:=BU (m.text.getD s 0) seen;rw[show code2.size=36 from rfl,e];show ∃seen'',_=Except.ok ((if gm (m.text.getD s 0)=true then some s else ck m.text m.lim n (s+1)),seen'');cases h:gm (m.text.getD s 0)with
  |true=>exact⟨seen',rfl⟩
  |false=>
   obtain⟨seen'',e2⟩:=oS (m:=m) hc n (s+1) fuel seen' ⋯ ⋯;exact⟨seen'',e2⟩
theorem jN:∀(n p b:Nat),ck text lim n p=some b->p<=b/\b<p+n/\(text.getD b 0=13\/text.getD b 0=10)
 |0,p,b,h=>by injections h
 |n+1,p,b,h=>by
  rw[ye]at h
  split at h
  ·rename_i he
   injection h with h;subst h
   refine⟨Nat.le_refl _,⋯, ?_⟩;unfold gm at he
   simpa using he
  ·have:=jN n (p+1) b h
   omega
theorem z0(text:Array Nat)(start:Nat)(must:Bool)(hs:start<=text.size):ax (Sre.forSearch code2 text 0 start text.size must) 24 ((ck text text.size (text.size-start) start).map λb=>(b,cX text text.size b)):=by
 by_cases h:start=text.size
 ·subst h
  have e:Sre.forSearch code2 text 0 text.size text.size must=(if(decide (text.size>text.size)||decide (text.size-text.size<1))=true then st code2 text text.size text.size 0 must 10 text.size text.size true [] 0 (some false) (({}:Sre.Seen).add 14) none
   else M.attemptFrom (st code2 text text.size text.size text.size must 10 text.size text.size true [] 0 none (({}:Sre.Seen).add 14) none) text.size true):=∅
  rw[e,if_pos (by simp),Nat.sub_self];exact ax.more (ax.step l8 (k:=0) ⟨0,Nat.le_refl _,rfl⟩) ⋯
 ·have e:Sre.forSearch code2 text 0 start text.size must=(if(decide (start>text.size)||decide (text.size-start<1))=true then st code2 text text.size start 0 must 10 start start true [] 0 (some false) (({}:Sre.Seen).add 14) none
   else M.attemptFrom (st code2 text text.size start text.size must 10 start start true [] 0 none (({}:Sre.Seen).add 14) none) start true):=∅
  rw[e,if_neg (by simp;omega)];obtain⟨seen',ha⟩:=oS (m:=st code2 text text.size start text.size must 10 start start true [] 0 none (({}:Sre.Seen).add 14) none) rfl (text.size-start) start (text.size+1-start) (({}:Sre.Seen).add 14) rfl ⋯;have ha':M.admitted (st code2 text text.size start text.size must 10 start start true [] 0 none (({}:Sre.Seen).add 14) none) (text.size+1-start) start (({}:Sre.Seen).add 14) = .ok (ck text text.size (text.size-start) start,seen'):=ha;have e3:M.attemptFrom (st code2 text text.size start text.size must 10 start start true [] 0 none (({}:Sre.Seen).add 14) none) start true =
   match M.admitted (st code2 text text.size start text.size must 10 start start true [] 0 none (({}:Sre.Seen).add 14) none) (text.size+1-start) start (({}:Sre.Seen).add 14)with
   | .ok (some s,seen)=>A2 text text.size s text.size false true seen
   | .ok (none,seen)=>st code2 text text.size start text.size must 10 start start true [] 0 (some false) seen none
   | .error why=>(st code2 text text.size start text.size must 10 start start true [] 0 none (({}:Sre.Seen).add 14) none).stick why:=∅
  rw[e3,ha'];cases hf:ck text text.size (text.size-start) start with
  |none=>exact ax.more (ax.step l8 (k:=0) ⟨0,Nat.le_refl _,rfl⟩) ⋯
  |some b=>
   obtain⟨b1,b2,b3⟩:=jN _ _ _ hf;exact(Es ⋯ b3).more ⋯
end
section
open PySem PySem.W PySem.Calls PyProof.Rows
open PySem.Builtin.Re
noncomputable def yf(m:Sre.M)(r:Option (Nat×Nat)):Prop:=match r with
 |some (b,e)=>m.outcome=some .matched/\m.start=b/\m.handed=e
 |none=>m.outcome=some .failed
theorem ax.res{m:Sre.M}{k:Nat}{r:Option (Nat×Nat)}(h:ax m k r):∃k',k'<=k/\yf (bu k' m) r:=by
 obtain⟨k',hk,h2⟩:=h;refine⟨k',hk, ?_⟩
 induction r using Option.casesOn with
 |none=>exact h2
 |some x=>obtain⟨t,rfl,a,b,c⟩:=h2;exact⟨a,b,c⟩
theorem yf.some{m:Sre.M}{r:Option (Nat×Nat)}(h:yf m r):m.outcome.isSome=true:=by
 induction r using Option.casesOn with
 |none=>have h:m.outcome=_:=h;rw[h];rfl
 |some x=>rw[h.1];rfl
section
variable {M:Model} {A:Around} {E:Value->Shared->Prop} {s:Shared}
theorem rP{r:Option (Nat×Nat)}{Q:Sre.M->Shared->Prop}:∀(turns k:Nat) (m:Sre.M),yf (bu k m) r->k<4*turns->(∀m',yf m' r->Q m' s)->wpAny M A (reDrive turns m) Q E s
 |0,k,m,h,hk,q=>⋯
 |turns+1,k,m,h,hk,q=>by
  unfold reDrive;dsimp only;rw[show Sre.M.runFor reTurnSteps m=bu 4 m from oP 4 m]
  by_cases hs:(bu 4 m).outcome.isSome=true
  ·rw[if_pos hs]
   refine wpAny_pure (q _ ?_)
   by_cases hk4:k<=4
   ·have:bu 4 m=bu (4-k) (bu k m):=by rw[<-gM];congr 1;omega
    rw[this,dX h.some];exact h
   ·have:bu k m=bu (k-4) (bu 4 m):=by rw[<-gM];congr 1;omega
    rw[this,dX hs]at h;exact h
  ·rw[if_neg hs]
   refine wpAny_bind (wpAny_rule ?_)
   by_cases hk4:k<=4
   ·have:bu 4 m=bu (4-k) (bu k m):=by rw[<-gM];congr 1;omega
    rw[this,dX h.some]at hs;exact absurd h.some hs
   ·have:bu k m=bu (k-4) (bu 4 m):=by rw[<-gM];congr 1;omega
    rw[this]at h;exact rP turns (k-4) _ h ⋯ q
theorem mh{c:Nat->Bool}{t:Nat->String}{Q:PUnit->Shared->Prop}(q:Q ⟨⟩ s):∀l:List Nat,wpAny M A (forIn l PUnit.unit λi _=>if c i=true then(do rule (t i);pure (ForInStep.yield PUnit.unit))else pure (ForInStep.yield PUnit.unit)) Q E s
 |[]=>by rw[List.forIn_nil];exact wpAny_pure q
 |i::l=>by
  rw[List.forIn_cons];refine wpAny_bind ?_
  split
  ·exact wpAny_bind (wpAny_rule (wpAny_pure (mh q l)))
  ·exact wpAny_pure (mh q l)
theorem BV{m:Sre.M}{k:Nat}{r:Option (Nat×Nat)}(h:ax m k r)(hk:k<4*2^64){Q:Option Sre.M->Shared->Prop}(q:∀m',(match r with|some (b,e)=>∃z,m'=some z/\z.start=b/\z.handed=e|none=>m'=none)->Q m' s):
 wpAny M A (reRunToEnd m) Q E s:=by
 obtain⟨k',hk',h2⟩:=h.res;unfold reRunToEnd;refine wpAny_bind (rP (2^64) k' m h2 ⋯ λm' hm => ?_);refine wpAny_bind (wpAny_mono (mh (s:=s) (Q:=λ_ s'=>s'=s) rfl (List.range Sre.names.size) (c:=λi=>m'.seen.has i) (t:=λi=>Sre.names.getD i "")) (λ_ s' e => ?_) λ_ _ e=>e);subst e
 induction r using Option.casesOn with
 |none=>have hm:m'.outcome=_:=hm;rw[hm];exact wpAny_pure (q none rfl)
 |some x=>obtain⟨h1,h2,h3⟩:=hm;rw[h1];exact wpAny_pure (q (some m') ⟨m',rfl,h2,h3⟩)
end
structure eD(h:Heap)(P:Addr)(code:Array Nat):Prop where
 ex:∃o fs T oT ws n,h.get? P=some o/\o.cls = .type "re.Pattern"/\o.dict=none/\o.data = .fields fs/\fs.getD 5 .none = .ref T/\reRawNat (fs.getD 2 .none)=0/\reRawNat (fs.getD 6 .none)=0 /\
  h.get? T=some oT/\oT.data = .seq ws n/\(ws.map reRawOf).map (·.toNat)=code
theorem eD.keeps{h h':Heap}{P:Addr}{code:Array Nat}(p:eD h P code)(k:∀b o,h.get? b=some o->h'.get? b=some o):eD h' P code:=
 let⟨o,fs,T,oT,ws,n,h1,a,b,c,d,e,f,h2,r⟩:=p.ex;⟨o,fs,T,oT,ws,n,k _ _ h1,a,b,c,d,e,f,k _ _ h2,r⟩
noncomputable def target(P:Addr)(x:List Nat)(t:Tok)(code:Array Nat):ReTarget:={ pattern := .ref P,string := .str (tx x) t,code,text:=x.toArray,kind:=0,groups:=0,pos:=0,lim:=x.toArray.size }
section
variable {prog:Program} {w:World} {A:Around} {E:Value->Shared->Prop} {s:Shared}
theorem rQ{P:Addr}{code:Array Nat}{x:List Nat}{t:Tok}{Q:ReTarget->Shared->Prop}(p:eD s.heap P code)(q:Q (target P x t code) s):wpAny (model prog w) A (reWholeTarget (.ref P) (.str (tx x) t)) Q E s:=by
 obtain⟨o,fs,T,oT,ws,n,h1,_,_,h2,h3,h4,h5,h6,h7,h8⟩:=p.ex;unfold reWholeTarget;refine wpAny_bind (wpAny_fieldsOf h1 h2 ?_);refine wpAny_bind ?_;unfold reTextOf;refine wpAny_bind (wpAny_pure (wpAny_pure ?_));dsimp only;rw[h3,h4,h5];rw[if_neg nofun,if_neg nofun];refine wpAny_bind ?_;unfold reNoCollectionInside;rw[if_neg nofun];refine wpAny_pure ?_;refine wpAny_bind ?_;unfold reRawItems;refine wpAny_bind (wpAny_seqItems h6 h7 (wpAny_pure (wpAny_pure ?_)));dsimp only[Option.getD];rw[h8];exact q
structure oU(code:Array Nat)(f:List Nat->Nat->Option (Nat×Nat)):Prop where
 ends:∀(x:List Nat) start must,x.length<=cap->start<=x.length->∃k,k<4*2^64/\ax (Sre.forSearch code x.toArray 0 start x.toArray.size must) k (f x start)
 sane:∀x start b e,f x start=some (b,e)->start<=b/\b<e/\e<=x.length
noncomputable def ja(f:List Nat->Nat->Option (Nat×Nat))(repl x:List Nat):Nat->Nat->List Nat
 |0,done=>x.drop done
 |n+1,done=>match f x done with
  |some (b,e)=>(x.take b).drop done++(repl++ja f repl x n e)
  |none=>x.drop done
theorem yg{f:List Nat->Nat->Option (Nat×Nat)}{repl x:List Nat}{n d:Nat}(h:f x d=none):ja f repl x (n+1) d=x.drop d:=by
 show(match f x d with|some (b,e)=>_|none=>_)=_;rw[h]
theorem BW{f:List Nat->Nat->Option (Nat×Nat)}{repl x:List Nat}{n d b e:Nat}(h:f x d=some (b,e)):ja f repl x (n+1) d=(x.take b).drop d++(repl++ja f repl x n e):=by
 show(match f x d with|some (b,e)=>_|none=>_)=_;rw[h]
theorem z6 {code:Array Nat} {f:List Nat->Nat->Option (Nat×Nat)} (F:oU code f) {P:Addr} {x:List Nat} {t:Tok} {start:Nat} {must:Bool} (hx:x.length<=cap) (hs:start<=x.length) {Q:Option Sre.M->Shared->Prop}
 (q:∀m',(match f x start with|some (b,e)=>∃z,m'=some z/\z.start=b/\z.handed=e|none=>m'=none)->Q m' s):wpAny (model prog w) A (reNextFound (target P x t code) start must) Q E s:=by
 obtain⟨k,hk,h⟩:=F.ends x start must hx hs;exact BV h hk q
theorem iB{x:List Nat}{b e:Nat}(hx:x.length<=cap){Q:Value->Shared->Prop}(q:∀t tk,Q (.str (tx ((x.take e).drop b)) t) { s with toks:=tk }):wpAny (model prog w) A (reSlice x.toArray 0 b e) Q E s:=by
 unfold reSlice;rw[if_pos (by rfl)];have e1:(⟨x.toArray.extract b e⟩:Str)=tx ((x.take e).drop b):=by
  unfold tx
  congr 1
  simp[List.extract_toArray,List.extract_eq_take_drop,List.drop_take]
 rw[e1];refine wpAny_mkStr (q _ _) ?_;rw[aw];refine b0 ?_;simp only[List.length_drop,List.length_take];omega
end
end
section
open PySem PySem.W PySem.Calls PyProof.Rows
open PySem.Builtin.Re
section
variable {G:Cfg} {A:Around} {E:Value->Shared->Prop}
theorem mi:entryFor table "re.Pattern.sub.loop"=some Builtin.«re.Pattern.sub.loop»:=entryFor_of_tree ∅
theorem vV:entryFor table "re.Pattern.sub"=some Builtin.«re.Pattern.sub»:=entryFor_of_tree ∅
structure cY(G:Cfg)(s0 h:Heap)(D:Addr)(ps:List (List Nat)):Prop where
 keep:∀b o,s0.get? b=some o->h.get? b=some o
 new:s0.get? D=none
 at_:∃vs m,h.get? D=some { cls := .type "list",data := .seq vs m }/\Reps G jt h (ps.map V.str) vs.toList
theorem jb{X X':Addr->Prop}{h h':Heap}:∀{ps:List (List Nat)} {vs:List Value},Reps G X h (ps.map V.str) vs->Reps G X' h' (ps.map V.str) vs
 |[],vs,r=>by rw[Reps.nil_iff.mp r];exact Reps.nil
 |p::ps,vs,r=>by
  obtain⟨v,r',rfl,h1,h2⟩:=Reps.cons_iff.mp r;exact Reps.cons (ah.str_iff.mpr (ah.str_iff.mp h1)) (jb h2)
theorem ql {s:Shared} {s0:Heap} {D:Addr} {ps:List (List Nat)} {p:List Nat} {t:Tok} (P:cY G s0 s.heap D ps) (hl:ps.length<=4000000) {Q:Unit->Shared->Prop}
 (q:∀h',cY G s0 h' D (ps++[p])->Q () { s with heap:=h' }):wpAny (model G.p G.w) A (updateSeq D (·.push (.str (tx p) t))) Q E s:=by
 obtain⟨vs,m,e,r⟩:=P.at_;have hsz:vs.size<=4000000:=by have:=r.length;rw[List.length_map]at this;rw[<-Array.length_toList];omega
 refine wpAny_updateSeq e rfl (q _ ⟨λb o hb => ?_,P.new, ?_⟩) (by rw[sizeLine_eq];omega) (by rw[sizeLine_eq,Array.size_push];omega)
 ·rw[Heap.get?_update_ne _ _ _ _ (λe'=>by rw[e',P.new]at hb;injections hb)]
  exact P.keep b o hb
 ·refine⟨vs.push (.str (tx p) t),(if(vs.push (.str (tx p) t)).size==vs.size then m else m+1), ?_, ?_⟩
  ·rw[Heap.get?_update_self _ e rfl];rfl
  ·rw[List.map_append,Array.toList_push]
   exact(jb r).append (Reps.cons (ah.str_iff.mpr ⟨t,rfl⟩) Reps.nil)
theorem m8(l:List (List Nat)):dM [] l=l.flatten:=by
 induction l using List.casesOn with
 |nil=>rfl
 |cons x l=>rw[ip];simp[List.flatMap_def]
theorem mj:∀l:List (List Nat),(l.map V.str).map ky=l
 |[]=>rfl
 |x::l=>by rw[List.map_cons,List.map_cons,mj l];rfl
theorem z7(l:List (List Nat)):(l.map V.str).all y3=true:=by
 rw[List.all_eq_true];intro v hv;obtain⟨x,_,rfl⟩:=List.mem_map.mp hv;rfl
theorem rR {s:Shared} {s0:Heap} {D:Addr} {ps:List (List Nat)} {t:Tok} (P:cY G s0 s.heap D ps) (hl:(ps.map List.length).sum<=cap) {Q:Value->Shared->Prop}
 (q:∀t' s',Keeps s s'->Q (.str (tx ps.flatten) t') s'):wpAny (model G.p G.w) A (call (.builtin "str.join") [.str (tx []) t, .ref D]) Q E s:=by
 obtain⟨vs,m,e,r⟩:=P.at_;have rl:ah G jt s.heap (.list (ps.map V.str)) (.ref D):=ah.list_iff.mpr ⟨D,vs,rfl,λh=>h,⟨_,e,rfl,_,rfl⟩,r⟩;refine xt (X:=jt) (z7 ps) ?_ rl E Q λu s' k hr => ?_
 ·rw[mj];simpa using hl
 ·rw[mj,m8]at hr
  obtain⟨t',rfl⟩:=ah.str_iff.mp hr;exact q t' s' k
theorem BX{s:Shared}{s0:Heap}{D:Addr}{ps:List (List Nat)}(P:cY G s0 s.heap D ps){Q:Option (Array Value)->Shared->Prop}(q:∀vs,vs.size=ps.length->Q (some vs) s):wpAny (model G.p G.w) A (seqItems? (.ref D)) Q E s:=by
 obtain⟨vs,m,e,r⟩:=P.at_;refine wpAny_seqItems e rfl (q vs ?_);have:=r.length;rw[List.length_map]at this;rw[<-Array.length_toList];exact this.symm
theorem oV {code:Array Nat} {f:List Nat->Nat->Option (Nat×Nat)} (F:oU code f) {P D:Addr} {x repl:List Nat} {t tr:Tok} {s0:Heap} (hx:x.length<=100000) (hr:repl.length<=2) (hP:eD s0 P code) {R:Result->Shared->Prop} {sb:Shared}
 {done cnt:Nat} {must:Bool} {s:Shared} {ps:List (List Nat)} (hd:done<=x.length) (hl:ps.length<=2*done) (hs:(ps.map List.length).sum<=3*done) (PA:cY G s0 s.heap D ps) (hsame:∃h tk,s={ sb with heap:=h,toks:=tk })
 (hnone:f x done=none->∀t' s',(∃h tk,s'={ sb with heap:=h,toks:=tk }/\∀b o,s0.get? b=some o->h.get? b=some o)->R (.ok (.ret (.str (tx (ps.flatten++x.drop done)) t'))) s')
 (hsome:∀b e,f x done=some (b,e)->∀cnt' must' s' ps',ps'.flatten=ps.flatten++((x.take b).drop done++repl)->ps'.length<=2*e->(ps'.map List.length).sum<=3*e->cY G s0 s'.heap D ps'->(∃h tk,s'={ sb with heap:=h,toks:=tk }) ->
   codeAny (model G.p G.w) A (.builtin "re.Pattern.sub.loop" ⟨[.ref P, .str (tx x) t, .str (tx repl) tr,rawInt 0,rawInt 0,rawInt (cnt':Nat),rawInt e,rawInt e, .bool must', .ref D, .bool false],[]⟩) R s'):
 codeAny (model G.p G.w) A (.builtin "re.Pattern.sub.loop" ⟨[.ref P, .str (tx x) t, .str (tx repl) tr,rawInt 0,rawInt 0,rawInt cnt,rawInt done,rawInt done, .bool must, .ref D, .bool false],[]⟩) R s:=by
 have hcap:x.length<=cap:=by unfold cap;omega
 refine codeAny_builtin mi ?_;unfold Builtin.«re.Pattern.sub.loop»;dsimp only[rawInt];refine wpAny_bind (rQ (hP.keeps PA.keep) ?_);rw[if_pos (by rfl)];refine wpAny_bind ?_;unfold reLiteralCannotBeTurned;refine wpAny_bind (wpAny_pure ?_);rw[if_neg (by simp)];refine wpAny_pure ?_;rw[if_neg (by simp)];refine wpAny_bind (z6 F hcap hd λm' hm => ?_);cases hf:f x done with
 |none=>
  rw[hf]at hm;subst hm;dsimp only;have fin:∀(ps':List (List Nat)) (s':Shared),ps'.flatten=ps.flatten++x.drop done->(ps'.map List.length).sum<=cap->cY G s0 s'.heap D ps'->(∃h tk,s'={ sb with heap:=h,toks:=tk }) ->
   wpAny (model G.p G.w) (A.under (Code.builtin "re.Pattern.sub.loop" ⟨[.ref P, .str (tx x) t, .str (tx repl) tr, .int 0 0, .int 0 0, .int cnt 0, .int done 0, .int done 0, .bool must, .ref D, .bool false],[]⟩))
    (do
      let joiner <-reSlice (target P x t code).text (target P x t code).kind 0 0;let items <-seqItems? (.ref D)
      if(items.getD #[]).isEmpty=true then do
         let text <-pure joiner
         ret text
       else do
        let text <-call (.builtin (if((target P x t code).kind==0)=true then "str.join" else "bytes.join")) [joiner, .ref D]
        ret text)
    (λfin s'=>match fin with
      | .done f=>R (.ok f) s'
      | .again c'=>c'.quiet=true/\codeAny (model G.p G.w) A c' R s') (λe s'=>R (.error e) s') s':=by
   intro ps' s' hfl hsum PA' hsame';have e0:(x.take 0).drop 0=([]:List Nat):=by simp
   refine wpAny_bind (iB hcap λtj tk => ?_);rw[e0];obtain⟨h1,t1,rfl⟩:=hsame';refine wpAny_bind (BX (s:={ sb with heap:=h1,toks:=tk }) PA' λvs hvs => ?_);dsimp only[Option.getD]
   by_cases he:vs.isEmpty=true
   ·rw[if_pos he]
    have hz:ps'=[]:=by
     have:vs.size=0:=by simpa[Array.isEmpty]using he
     rw[hvs]at this;exact List.length_eq_zero_iff.mp this
    refine wpAny_bind (wpAny_pure (wpAny_pure ?_));have:=hnone hf tj { sb with heap:=h1,toks:=tk } ⟨h1,tk,rfl,PA'.keep⟩;rw[<-hfl,hz]at this;exact this
   ·rw[if_neg he]
    refine wpAny_bind (rR (s:={ sb with heap:=h1,toks:=tk }) PA' hsum λt' s3 k3=>wpAny_pure ?_);rw[hfl];obtain⟨h3,t3,rfl,kk⟩:=k3;exact hnone hf t' _ ⟨h3,t3,rfl,λb o hb=>kk b o (PA'.keep b o hb)⟩
  by_cases hlt:((done:Int)).toNat<(target P x t code).lim
  ·rw[if_pos hlt]
   have hlt':done<x.length:=by simpa[target]using hlt
   refine wpAny_bind (iB hcap λts tk => ?_);have e1:(x.take (target P x t code).lim).drop ((done:Int)).toNat=x.drop done:=by simp[target]
   rw[e1];obtain⟨h1,t1,rfl⟩:=hsame;refine wpAny_bind (ql (s:={ sb with heap:=h1,toks:=tk }) PA ⋯ λh2 PA2 => ?_);refine fin (ps++[x.drop done]) { sb with heap:=h2,toks:=tk } (by simp) ?_ PA2 ⟨h2,tk,rfl⟩;simp only[List.map_append,List.map_cons,List.map_nil,List.sum_append,List.sum_cons,List.sum_nil,List.length_drop];unfold cap;omega
  ·rw[if_neg hlt]
   have hlt':¬done<x.length:=by simpa[target]using hlt
   refine fin ps s (by rw[List.drop_eq_nil_of_le ⋯,List.append_nil]) (by unfold cap;omega) PA hsame
 |some be=>
  obtain⟨b,e⟩:=be;rw[hf]at hm;obtain⟨m,rfl,hb,he⟩:=hm;obtain⟨sa1,sa2,sa3⟩:=F.sane x done b e hf;dsimp only;have hbd:(done:Int).toNat=done:=by simp
  have rest:∀(ps':List (List Nat)) (s':Shared),ps'.flatten=ps.flatten++(x.take b).drop done->ps'.length<=ps.length+1->(ps'.map List.length).sum<=3*done+(b-done)->cY G s0 s'.heap D ps'->(∃h tk,s'={ sb with heap:=h,toks:=tk }) ->
   wpAny (model G.p G.w) (A.under (Code.builtin "re.Pattern.sub.loop" ⟨[.ref P, .str (tx x) t, .str (tx repl) tr, .int 0 0, .int 0 0, .int cnt 0, .int done 0, .int done 0, .bool must, .ref D, .bool false],[]⟩))
    (do
      let item <-pure (.str (tx repl) tr)
      if(item !=Value.none)=true then do
         let _ <-updateSeq D λx=>x.push item
         again (Code.builtin "re.Pattern.sub.loop" ⟨[.ref P, .str (tx x) t, .str (tx repl) tr, .int 0 0, .int 0 0, .int ((cnt:Int)+1) 0, .int (m.handed:Nat) 0, .int (m.handed:Nat) 0, .bool (m.handed==m.start), .ref D, .bool false],[]⟩)
       else again (Code.builtin "re.Pattern.sub.loop" ⟨[.ref P, .str (tx x) t, .str (tx repl) tr, .int 0 0, .int 0 0, .int ((cnt:Int)+1) 0, .int (m.handed:Nat) 0, .int (m.handed:Nat) 0, .bool (m.handed==m.start), .ref D, .bool false],[]⟩))
    (λfin s'=>match fin with
      | .done f=>R (.ok f) s'
      | .again c'=>c'.quiet=true/\codeAny (model G.p G.w) A c' R s') (λe s'=>R (.error e) s') s':=by
   intro ps' s' hfl hlen hsum PA' hsame';refine wpAny_bind (wpAny_pure ?_);rw[if_pos (by rfl)];obtain⟨h1,t1,rfl⟩:=hsame';refine wpAny_bind (ql (s:={ sb with heap:=h1,toks:=t1 }) PA' ⋯ λh2 PA2 => ?_);refine wpAny_pure ⟨Code.quiet_builtin _ (by decide +kernel), ?_⟩;rw[he];refine hsome b e hf (cnt+1) _ { sb with heap:=h2,toks:=t1 } _ ?_ ?_ ?_ PA2 ⟨h2,t1,rfl⟩
   ·simp[hfl]
   ·simp;omega
   ·simp only[List.map_append,List.map_cons,List.map_nil,List.sum_append,List.sum_cons,List.sum_nil];omega
  by_cases hlt:((done:Int)).toNat<m.start
  ·rw[if_pos hlt]
   refine wpAny_bind (iB hcap λts tk => ?_);obtain⟨h1,t1,rfl⟩:=hsame;refine wpAny_bind (ql (s:={ sb with heap:=h1,toks:=tk }) PA ⋯ λh2 PA2 => ?_);rw[hb,hbd]at PA2;refine rest (ps++[(x.take b).drop done]) { sb with heap:=h2,toks:=tk } (by simp) (by simp) ?_ PA2 ⟨h2,tk,rfl⟩;simp only[List.map_append,List.map_cons,List.map_nil,List.sum_append,List.sum_cons,List.sum_nil,List.length_drop,List.length_take];omega
  ·rw[if_neg hlt]
   refine rest ps s ?_ ⋯ ⋯ PA hsame;rw[hb,hbd]at hlt;have:b=done:=⋯;rw[this,List.drop_take];simp
theorem z8{code:Array Nat}{f:List Nat->Nat->Option (Nat×Nat)}(F:oU code f){P D:Addr}{x repl:List Nat}{t tr:Tok}{s0:Heap}(hx:x.length<=100000)(hr:repl.length<=2)(hP:eD s0 P code){R:Result->Shared->Prop}{sb:Shared}:
 ∀(n done cnt:Nat) (must:Bool) (s:Shared) (ps:List (List Nat)),x.length-done<=n->done<=x.length->ps.length<=2*done->(ps.map List.length).sum<=3*done->cY G s0 s.heap D ps->(∃h tk,s={ sb with heap:=h,toks:=tk }) ->
  (∀t' s',(∃h tk,s'={ sb with heap:=h,toks:=tk }/\∀b o,s0.get? b=some o->h.get? b=some o)->R (.ok (.ret (.str (tx (ps.flatten++ja f repl x (n+1) done)) t'))) s') ->
  codeAny (model G.p G.w) A (.builtin "re.Pattern.sub.loop" ⟨[.ref P, .str (tx x) t, .str (tx repl) tr,rawInt 0,rawInt 0,rawInt cnt,rawInt done,rawInt done, .bool must, .ref D, .bool false],[]⟩) R s:=by
 intro n
 induction n with
 |zero=>
  intro done cnt must s ps hn hd hl hs PA hsame q;refine oV F hx hr hP hd hl hs PA hsame (λhf t' s' h => ?_) λb e hf => ?_
  ·have:=q t' s' h
   rw[yg hf]at this;exact this
  ·have:=F.sane x done b e hf;omega
 |succ n ih=>
  intro done cnt must s ps hn hd hl hs PA hsame q;refine oV F hx hr hP hd hl hs PA hsame (λhf t' s' h => ?_) λb e hf cnt' must' s' ps' h1 h2 h3 PA' hs' => ?_
  ·have:=q t' s' h
   rw[yg hf]at this;exact this
  ·have sa:=F.sane x done b e hf
   refine ih e cnt' must' s' ps' ⋯ sa.2.2 h2 h3 PA' hs' λt' s'' h => ?_
   have:=q t' s'' h;rw[BW hf]at this;rw[h1]
   simpa[List.append_assoc]using this
end
end
section
open PySem PySem.W PySem.Calls PyProof.Rows
open PySem.Builtin.Re
theorem gp:PlainAttrs "re.Pattern":=
 ⟨⟨"object.__getattribute__",by rw[typeLookup_type,builtinLookup_eq_fast];kernel_rfl,by decide +kernel⟩,by rw[typeLookup_type,builtinLookup_eq_fast];kernel_rfl⟩
theorem jc:PySem.Slot "re.Pattern" "sub" "re.Pattern.sub":=
 .of (owner:="re.Pattern") (n:="sub") (by rw[typeLookup_type,builtinLookup_eq_fast];kernel_rfl) (by decide +kernel) (by decide +kernel) (by decide +kernel)
   (by first|exact .inl (by decide +kernel)|exact .inr (by decide +kernel)) (by rw[isSubtype_type];kernel_rfl)
theorem rS:typeOf (.builtin "re.Pattern.sub")=pure (.type "method_descriptor"):=by show builtinType _=_;rw[builtinType_eq_fast];kernel_rfl
theorem yh(a b c:Value):argsOk "re.Pattern.sub" ⟨[a,b,c],[]⟩:=by unfold argsOk;kernel_rfl
theorem rU:typeLookup (.type "str") "__call__"=pure none:=by rw[typeLookup_type,builtinLookup_eq_fast];kernel_rfl
section
variable {G:Cfg} {A:Around} {E:Value->Shared->Prop}
theorem vW(a b:Value):reNamed "re.Pattern.sub" "sub" ["repl","string","count"] 2 [a,b] []=pure [some a,some b,none]:=∅
theorem rV {code:Array Nat} {f:List Nat->Nat->Option (Nat×Nat)} (F:oU code f) {P:Addr} {x repl:List Nat} {t tr:Tok} {s:Shared} (hx:x.length<=100000) (hr:repl.length<=2) (hb:repl.contains 92=false) (hP:eD s.heap P code) {Q:Value->Shared->Prop}
 (q:∀t' s',Keeps s s'->Q (.str (tx (ja f repl x (x.length+1) 0)) t') s'):wpAny (model G.p G.w) A (call (.builtin "re.Pattern.sub") [.ref P, .str (tx repl) tr, .str (tx x) t]) Q E s:=by
 obtain⟨o,fs,T,oT,ws,n,h1,hcls,_⟩:=hP.ex;have hT:s.TypeIs (.ref P) "re.Pattern":=⟨o,h1,hcls⟩;refine wpAny_call (codeAny_call_builtin jc.plain vV (jc.check _ _ _ _ _ _ _ _ hT (yh _ _ _) ?_));unfold Builtin.«re.Pattern.sub» reSubstitute;dsimp only;rw[vW];refine wpAny_bind (wpAny_pure ?_);dsimp only;refine wpAny_bind (wpAny_pure ?_);refine wpAny_bind (wpAny_specialOf (typeIs_str _ _ _) rU ?_);rw[if_neg (by simp)];refine wpAny_bind (wpAny_pure ?_);dsimp only;refine wpAny_bind (wpAny_pure ?_);rw[if_neg (by simp)];have hlit:(!(tx repl).cps.contains 92)=true:=by
  show(!(repl.toArray).contains 92)=true
  simpa using hb
 rw[if_pos hlit];refine wpAny_bind (wpAny_pure (wpAny_bind (wpAny_holding (rQ hP ?_))));rw[if_neg (by simp)];refine wpAny_bind (wpAny_newList ?_ (by simp[sizeLine_eq]));refine wpAny_pure ⟨Code.quiet_builtin _ (by decide +kernel), ?_⟩;have kp:∀b o,s.heap.get? b=some o->(s.heap.push { cls := .type "list",data := .seq ([]:List Value).toArray }).get? b=some o:=λb o e=>Heap.get?_push_of_some _ e
 refine z8 (G:=G) (cnt:=0) F hx hr (s0:=s.heap) hP (sb:=s) x.length 0 false { s with heap:=s.heap.push { cls := .type "list",data := .seq ([]:List Value).toArray } } [] ⋯ ⋯ (by simp) (by simp) ⟨kp, ?_, ?_⟩ ⟨_,_,rfl⟩ λt' s' h => ?_
 ·exact aW _ (Nat.le_refl _)
 ·exact⟨#[],0,Heap.get?_push_size _ rfl,Reps.nil⟩
 ·obtain⟨h',tk,rfl,kk⟩:=h
  exact q t' _ ⟨h',tk,rfl,kk⟩
end
noncomputable def f1(x:List Nat)(start:Nat):Option (Nat×Nat):=(cj x.toArray x.toArray.size (x.toArray.size-start) start).map λb=>(b,b+1)
noncomputable def f2(x:List Nat)(start:Nat):Option (Nat×Nat):=(ck x.toArray x.toArray.size (x.toArray.size-start) start).map λb=>(b,cX x.toArray x.toArray.size b)
theorem ki{text:Array Nat}{lim:Nat}:∀(n p b:Nat),cj text lim n p=some b->p<=b/\b<lim
 |0,p,b,h=>by
  have h:(if cH text lim p=true then some p else none)=some b:=h
  split at h
  ·rename_i hh
   injection h with h;subst h
   unfold cH at hh;simp only[Bool.and_eq_true,decide_eq_true_eq]at hh;exact⟨Nat.le_refl _,hh.1.2⟩
  ·injections h
 |n+1,p,b,h=>by
  have h:(if cH text lim p=true then some p else cj text lim n (p+1))=some b:=h
  split at h
  ·rename_i hh
   injection h with h;subst h
   unfold cH at hh;simp only[Bool.and_eq_true,decide_eq_true_eq]at hh;exact⟨Nat.le_refl _,hh.1.2⟩
  ·have:=ki n (p+1) b h;omega
theorem BY:oU code1 f1 where
 ends:=λx start must hx hs=>by
  refine⟨5*x.toArray.size+8, ?_,zY x.toArray start must (by simpa using hs)⟩;have:x.toArray.size=x.length:=by simp
  unfold cap at hx;omega
 sane:=λx start b e h=>by
  unfold f1 at h;cases hf:cj x.toArray x.toArray.size (x.toArray.size-start) start with
  |none=>rw[hf]at h;injections h
  |some c=>
   rw[hf]at h
   injection h with h;injection h with h1 h2
   have:=ki _ _ _ hf;have hz:x.toArray.size=x.length:=by simp
   omega
theorem BZ:oU code2 f2 where
 ends:=λx start must hx hs=>⟨24,⋯,z0 x.toArray start must (by simpa using hs)⟩
 sane:=λx start b e h=>by
  unfold f2 at h;cases hf:ck x.toArray x.toArray.size (x.toArray.size-start) start with
  |none=>rw[hf]at h;injections h
  |some c=>
   rw[hf]at h
   injection h with h;injection h with h1 h2
   have:=jN _ _ _ hf;have hz:x.toArray.size=x.length:=by simp
   subst h1;subst h2;unfold cX
   split
   ·rename_i hc
    simp only[Bool.and_eq_true,decide_eq_true_eq]at hc
    omega
   ·omega
noncomputable def hV(x:List Nat):List Nat:=ja f2 [13,10] x (x.length+1) 0
noncomputable def uT(x:List Nat):List Nat:=ja f1 [46,46] x (x.length+1) 0
noncomputable def fQuote:List V->R:=fm (sS λx=>(decide (x.length<=100000)&&decide ((hV x).length<=100000), .str (uT (hV x))))
structure EG(Φ:Fns)(d:Def):Prop where
 body:∃x e1 e2 e3 p1 p2 p3 p4 p5 p6 p7,d.params=[x]/\d.body=[.Return (some (.Call (.Attribute (.Name "_twin_re_1" p1) "sub" p2) [e1, .Call (.Attribute (.Name "_twin_re_2" p3) "sub" p4) [e2,e3] [] p5] [] p6)) p7]/\p2.endLine=p6.line/\p4.endLine=p5.line /\
  ∀s,ev Φ [] 40 d.κ (bX d.κ [(x, .str s)]) e1=(true, .str [46,46])/\ev Φ [] 40 d.κ (bX d.κ [(x, .str s)]) e2=(true, .str [13,10])/\ev Φ [] 40 d.κ (bX d.κ [(x, .str s)]) e3=(true, .str s)
 glob1:aN (kd d.κ (nm "_twin_re_1"))=true
 glob2:aN (kd d.κ (nm "_twin_re_2"))=true
section
variable {G:Cfg} {A:Around} {Φ:Fns}
theorem kj{M:Model}{E:Value->Shared->Prop}{s:Shared}{a b:Sem Value}{Q:List Value->Shared->Prop}(h:wpAny M A a (λu s1=>wpAny M A b (λv s2=>Q [u,v] s2) E s1) E s):wpAny M A (spliced [(false,a),(false,b)]) Q E s:=
 spliced_cons (wpAny_mono h (λu s1 h1=>spliced_cons (wpAny_mono h1 (λv s2 h2=>spliced_nil h2) λ_ _ e=>e)) λ_ _ e=>e)
theorem yi {n:Nat} {a P1 P2:Addr} {d:Def} (hd:cN G a d) (hlim:G.h0.NoLimit) (Fa:∀A,fv n A->av G A Φ) {mg:Str->Option Value} (hm:G.h0.Ns mainGlobals mg) (h1:mg "_twin_re_1"=some (.ref P1)) (h2:mg "_twin_re_2"=some (.ref P2))
 (p1:eD G.h0 P1 code1) (p2:eD G.h0 P2 code2) (I:EG Φ d):dc G (n+1) a fQuote:=λA room=>by
 obtain⟨o,fd,ids0,ho,hdata,_⟩:=hd.ex;refine⟨kS ho hdata,λX s as us old off al r ok E Q q => ?_⟩;obtain⟨x,rfl⟩:∃x,as=[.str x]:=kL (λas _=>∃x,as=[.str x]) ok λv ok=>wV (λv _=>∃x,[v]=[.str x]) ok λx _=>⟨x,rfl⟩
 have ok':(decide (x.length<=100000)&&decide ((hV x).length<=100000))=true:=ok;simp only[Bool.and_eq_true,decide_eq_true_eq]at ok';obtain⟨px,e1,e2,e3,q1,q2,q3,q4,q5,q6,q7,hp,hb,hl1,hl2,hev⟩:=I.body;refine uR hd (by have:=room.depth;omega) hlim old (by rw[hp,<-r.length];rfl) λenv s1 g ids hids en E' => ?_
 have FaB:=Fa _ (room.deeper env);have S1:=en.sta old off al r;rw[hids,hp]at S1;have GE:=(fw (G:=G) (A:=A.deeper env) FaB [] 40 d.κ env X (bX d.κ [(px, .str x)]) en.En).1;obtain⟨v1,v2,v3⟩:=hev x;have st2:starEach [e2,e3] env=[(false,eval e2 env),(false,eval e3 env)]:=by
  rw[eC GE (show(ev Φ [] 40 d.κ (bX d.κ [(px, .str x)]) e2).1=true by rw[v2]),eC GE (show(ev Φ [] 40 d.κ (bX d.κ [(px, .str x)]) e3).1=true by rw[v3])];rfl
 have st1:starEach [e1, .Call (.Attribute (.Name "_twin_re_2" q3) "sub" q4) [e2,e3] [] q5] env=[(false,eval e1 env),(false,eval (.Call (.Attribute (.Name "_twin_re_2" q3) "sub" q4) [e2,e3] [] q5) env)]:=by
  rw[eC GE (show(ev Φ [] 40 d.κ (bX d.κ [(px, .str x)]) e1).1=true by rw[v1])];rfl
 have t1:backTo q6 (starEach [e1, .Call (.Attribute (.Name "_twin_re_2" q3) "sub" q4) [e2,e3] [] q5] env)=[(false,eval e1 env),(false,eval (.Call (.Attribute (.Name "_twin_re_2" q3) "sub" q4) [e2,e3] [] q5) env)]:=by
  rw[st1];rfl
 have t2:backTo q5 (starEach [e2,e3] env)=[(false,eval e2 env),(false,eval e3 env)]:=by
  rw[st2];rfl
 have nodict:∀{P:Addr} {code:Array Nat} {h:Heap},eD h P code->∀b,Value.ref P = .ref b->∃ob,h.get? b=some ob/\ob.dict=none:=λ{P code h} p b e=>by
  injection e with e;subst e
  obtain⟨o,_,_,_,_,_,h1,_,h2,_⟩:=p.ex;exact⟨o,h1,h2⟩
 have tyP:∀{P:Addr} {code:Array Nat} {s:Shared},eD s.heap P code->s.TypeIs (.ref P) "re.Pattern":=λ{P code s} p=>by
  obtain⟨o,_,_,_,_,_,h1,h2,_⟩:=p.ex;exact⟨o,h1,h2⟩
 rw[hb];refine wpAny_execs_cons (wpAny_Return_some ?_);refine wpAny_Call_method_lateS (gG rfl) (by rw[t1];rfl) (by rw[hl1];exact beq_self_eq_true _) (kU FaB en.En hm h1 I.glob1 S1 ?_);refine⟨"re.Pattern","re.Pattern.sub",gp,jc,rS,tyP (p1.keeps S1.old),nodict (p1.keeps S1.old), ?_⟩;rw[t1];refine Calls.callWith_builtin rfl (bF rfl (kj (GE.ok e1 (by rw[v1]) _ s1 S1 _ _ λu s2 k2 r2 => ?_)));rw[v1]at r2;obtain⟨tu,rfl⟩:=ah.str_iff.mp r2;have S2:=S1.keeps (Kp.keep k2);refine wpAny_Call_method_lateS (gG rfl) (by rw[t2];rfl) (by rw[hl2];exact beq_self_eq_true _) (kU FaB en.En hm h2 I.glob2 S2 ?_);refine⟨"re.Pattern","re.Pattern.sub",gp,jc,rS,tyP (p2.keeps S2.old),nodict (p2.keeps S2.old), ?_⟩
 rw[t2];refine Calls.callWith_builtin rfl (bF rfl (kj (GE.ok e2 (by rw[v2]) _ s2 S2 _ _ λu s3 k3 r3 => ?_)));rw[v2]at r3;obtain⟨tv,rfl⟩:=ah.str_iff.mp r3;have S3:=S2.keeps (Kp.keep k3);refine GE.ok e3 (by rw[v3]) _ s3 S3 _ _ λu s4 k4 r4 => ?_
 rw[v3]at r4;obtain⟨tw,rfl⟩:=ah.str_iff.mp r4;have S4:=S3.keeps (Kp.keep k4);refine rV BZ ok'.1 nofun nofun (p2.keeps S4.old) λt5 s5 k5 => ?_
 have S5:=S4.keeps (Kp.keep k5);refine rV BY ok'.2 nofun nofun (p1.keeps S5.old) λt6 s6 k6 => ?_
 exact q _ _ (Kp.trans en.keeps (Kp.trans k2 (Kp.trans k3 (Kp.trans k4 (Kp.trans k5 k6))))) (ah.str_iff.mpr ⟨t6,rfl⟩)
end
end
section
open PySem PySem.W PySem.Calls PyProof.Rows
noncomputable def dB(ids:List Str)(d:DP):Def:=⟨ids.map nm,d.body,d.scope.names⟩
noncomputable def EH(ids:List Str)(d:DP):Bool:=
 d.scope.kind == .function&&(!d.scope.isCoroutine)&&(!d.scope.isGenerator)&&dQ (ids.map nm)&&dQ (d.scope.names.map λx=>nm x.1)&&d.scope.names.all (λx=>x.2 != .free && !(x.1==("__debug__":Str)) && !(x.1==("__classdict__":Str))) &&
 ids.all (λx=>d.scope.names.lookup x==some .local||d.scope.names.lookup x==some .cell)
theorem jd{α β:Type}{f:α->β}:∀{l:List α},(l.map f).Nodup->l.Nodup
 |[],_=>List.nodup_nil
 |x::l,h=>by
  rw[List.map_cons,List.nodup_cons]at h;exact List.nodup_cons.mpr ⟨λm=>h.1 (List.mem_map_of_mem m),jd h.2⟩
theorem bP{o:Obj}{d:DP}{q:Str}{c:Addr}(h:fj o=⟨.type "function",none, .func (fD d q 3 .none (.ref c) 0),⟨[]⟩⟩):∃pm doc,o.cls = .type "function"/\o.data = .func { fD d q 3 pm (.ref c) 0 with doc:=doc }:=by
 obtain⟨cl,dd,dt,sl⟩:=o
 induction dt using Data.casesOn with
 |func f=>
  have h3:({ f with pyModule := .none,doc := .none }:FuncData)=_:=Data.func.inj (congrArg Obj.data h);refine⟨f.pyModule,f.doc,congrArg Obj.cls h, ?_⟩;have:f={ ({ f with pyModule := .none,doc := .none }:FuncData)with pyModule:=f.pyModule,doc:=f.doc }:=rfl;rw[this,h3];rfl
 |_=>exact ab (congrArg (λo:Obj=>Nat.beq o.data.ctorIdx 7) h)
theorem cq {G:Cfg} {a c:Addr} {d:DP} {q:Str} {ids:List Str} (ho:∃o,G.h0.get? a=some o/\fj o=⟨.type "function",none, .func (fD d q 3 .none (.ref c) 0),⟨[]⟩⟩) (hc:G.h0.CodeRec (.ref c) q)
 (hb:∀pm doc (us:List Value),us.length=ids.length->bindArgs { fD d q 3 pm (.ref c) 0 with doc:=doc } ⟨us,[]⟩=pure (ids.zip us)) (ok:EH ids d=true):cN G a (dB ids d):=by
 obtain⟨o,h1,h2⟩:=ho;obtain⟨pm,doc,h3,h4⟩:=bP h2;unfold EH at ok;simp only[Bool.and_eq_true,Bool.not_eq_true',List.all_eq_true,Bool.or_eq_true,beq_iff_eq,bne_iff_ne,ne_eq]at ok;obtain⟨⟨⟨⟨⟨⟨k1,k2⟩,k3⟩,k4⟩,k5⟩,k6⟩,k7⟩:=ok;refine⟨⟨o,_,ids,h1,h4,hc,rfl,rfl,rfl,k1,k2,k3,rfl,rfl,rfl,jd (nodup_iff.mp k4),hb pm doc,λx hx=>k7 x hx⟩,nodup_iff.mp k5,λx m => ?_,λx k m => ?_⟩
 ·exact(k6 _ m).1.1 rfl
 ·exact⟨(k6 _ m).1.2,(k6 _ m).2⟩
theorem oW{P:List Value->Prop}(h:∀u,P [u])(us:List Value)(e:us.length=1):P us:=by
 induction us using List.casesOn with
 |nil=>injections e
 |cons u r=>induction r using List.casesOn with
  |nil=>exact h u
  |cons _ _=>injections e
theorem rW{P:List Value->Prop}(h:∀u v,P [u,v])(us:List Value)(e:us.length=2):P us:=by
 induction us using List.casesOn with
 |nil=>injections e
 |cons u r=>exact oW (P:=λr=>P (u::r)) (h u) r (Nat.succ.inj e)
theorem AQ{P:List Value->Prop}(h:∀u v w,P [u,v,w])(us:List Value)(e:us.length=3):P us:=by
 induction us using List.casesOn with
 |nil=>injections e
 |cons u r=>exact rW (P:=λr=>P (u::r)) (h u) r (Nat.succ.inj e)
theorem Dh{P:List Value->Prop}(h:∀u v w x,P [u,v,w,x])(us:List Value)(e:us.length=4):P us:=by
 induction us using List.casesOn with
 |nil=>injections e
 |cons u r=>exact AQ (P:=λr=>P (u::r)) (h u) r (Nat.succ.inj e)
theorem said{l:iL}{m:Str->Option Value}(x:∀e∈l,(m e.1).map strip=e.2){n:Str}{v:Option Value}(e:l.lookup n=some v):(m n).map strip=v:=x (n,v) (mem_of_lookup e)
theorem aD{v:Option Value}(e:v.map strip=none):v=none:=by
 induction v using Option.casesOn with
 |none=>rfl
 |some v=>injections e
theorem gN{v:Option Value}{a:Addr}(e:v.map strip=some (.ref a)):v=some (.ref a):=by
 induction v using Option.casesOn with
 |none=>injections e
 |some v=>
  exact congrArg some (ig rfl (Option.some.inj e))
theorem dY{v:Option Value}{a:String}(e:v.map strip=some (.builtin a)):v=some (.builtin a):=by
 induction v using Option.casesOn with
 |none=>injections e
 |some v=>
  exact congrArg some (ig rfl (Option.some.inj e))
theorem je{v:Option Value}{a:String}(e:v.map strip=some (.type a)):v=some (.type a):=by
 induction v using Option.casesOn with
 |none=>injections e
 |some v=>
  exact congrArg some (ig rfl (Option.some.inj e))
theorem iC{v:Option Value}{x:Str}(e:v.map strip=some (.str x 0)):∃t,v=some (.str x t):=by
 induction v using Option.casesOn with
 |none=>injections e
 |some v=>
  rw[Option.map_some]at e
  injection e with e
  obtain⟨t,rfl⟩:=nr e;exact⟨t,rfl⟩
theorem eY{v:Option Value}{i:Int}(e:v.map strip=some (.int i 0)):∃t,v=some (.int i t):=by
 induction v using Option.casesOn with
 |none=>injections e
 |some v=>
  have e:=Option.some.inj e
  induction v using Value.casesOn with
  |int j t=>exact⟨t,congrArg (λj=>some (Value.int j t)) (Value.int.inj e).1⟩
  |_=>exact ab (congrArg (λv:Value=>Nat.beq v.ctorIdx 4) e)
theorem ER{α:Type}{l:List α}(h:l.length=6):∃a b c d e f,l=[a,b,c,d,e,f]:=by
 obtain⟨a,l,rfl⟩:=List.exists_cons_of_length_eq_add_one h;obtain⟨b,l,rfl⟩:=List.exists_cons_of_length_eq_add_one (Nat.succ.inj h);obtain⟨c,l,rfl⟩:=List.exists_cons_of_length_eq_add_one (Nat.succ.inj (Nat.succ.inj h));obtain⟨d,l,rfl⟩:=List.exists_cons_of_length_eq_add_one (Nat.succ.inj (Nat.succ.inj (Nat.succ.inj h)));obtain⟨e,l,rfl⟩:=List.exists_cons_of_length_eq_add_one (Nat.succ.inj (Nat.succ.inj (Nat.succ.inj (Nat.succ.inj h))));obtain⟨f,l,rfl⟩:=List.exists_cons_of_length_eq_add_one (Nat.succ.inj (Nat.succ.inj (Nat.succ.inj (Nat.succ.inj (Nat.succ.inj h)))));exact⟨a,b,c,d,e,f,by rw[List.eq_nil_of_length_eq_zero (l:=l) (Nat.succ.inj (Nat.succ.inj (Nat.succ.inj (Nat.succ.inj (Nat.succ.inj (Nat.succ.inj h))))))]⟩
theorem qm{o:Obj}{C N:Addr}{nm' q:Str}(h:fj o=⟨.type "type",none, .cls { name:=nm',bases:=[.type "object"],mro:=[.ref C, .type "object"],ns:=N,qualname:=q,hasDict:=true,slotNames:=[],subclasses:=[],abstract:=false,collection:=none,hasDel:=false },⟨[some (.builtin "object.__new__")]⟩⟩):
 ∃k0 k1 k2 k3 k5,o=excClassObj nm' q C N [.type "object"] [.type "object"] true [] [] false none none k0 k1 k2 k3 k5 "object.__new__":=by
 obtain⟨cl,dd,dt,sl⟩:=o
 induction dt using Data.casesOn with
 |cls c=>
  obtain⟨l⟩:=sl;have h4:ic ⟨l⟩=_:=congrArg Obj.slots h;have h1:cl=_:=congrArg Obj.cls h;have h2:dd=_:=congrArg Obj.dict h;have h3:c=_:=Data.cls.inj (congrArg Obj.data h);unfold ic at h4;cases hl:Nat.beq (Array.mk l).toList.length 6 with
  |false=>rw[hl]at h4;exact ab (congrArg (λa:Array (Option Value)=>Nat.beq a.toList.length 1) h4)
  |true=>
   rw[hl]at h4;obtain⟨k0,k1,k2,k3,k,k5,rfl⟩:=ER (Nat.eq_of_beq_eq_true hl);have h4:k=_:=(List.cons.inj (congrArg Array.toList h4)).1;subst h1;subst h2;subst h3;subst h4;exact⟨k0,k1,k2,k3,k5,rfl⟩
 |_=>exact ab (congrArg (λo:Obj=>Nat.beq o.data.ctorIdx 8) h)
open PySem.Builtin.Re in
theorem vX(v:Value):reRawOf (strip v)=reRawOf v/\reRawNat (strip v)=reRawNat v:=by induction v using Value.casesOn<;>exact⟨rfl,rfl⟩
open PySem.Builtin.Re in
theorem jf {h:Heap} {P T:Addr} {fs ws:List Value} {code:Array Nat} (hP:∃o,h.get? P=some o/\fj o=⟨.type "re.Pattern",none, .fields ⟨fs⟩,⟨[]⟩⟩) (hT:∃o,h.get? T=some o/\fj o=⟨.type "tuple",none, .seq ⟨ws⟩ 0,⟨[]⟩⟩)
 (h5:fs[5]? = some (.ref T)) (h2:fs[2]? = some (.int 0 0)) (h6:fs[6]? = some (.int 0 0)) (hc:(ws.map reRawOf).map (·.toNat)=code.toList):eD h P code:=by
 obtain⟨o,ho,eo⟩:=hP;obtain⟨oT,hoT,eT⟩:=hT;obtain⟨cl,dd,dt,sl⟩:=o;obtain⟨cl',dd',dt',sl'⟩:=oT;obtain⟨vs,rfl,c3⟩:∃vs,dt = .fields vs/\vs.toList.map strip=fs:=by
  induction dt using Data.casesOn with
  |fields vs=>exact⟨vs,rfl,congrArg Array.toList (Data.fields.inj (congrArg Obj.data eo))⟩
  |_=>exact ab (congrArg (λo:Obj=>Nat.beq o.data.ctorIdx 9) eo)
 obtain⟨us,m,rfl,b3⟩:∃us m,dt' = .seq us m/\us.toList.map strip=ws:=by
  induction dt' using Data.casesOn with
  |seq us m=>exact⟨us,m,rfl,congrArg Array.toList (Data.seq.inj (congrArg Obj.data eT)).1⟩
  |_=>exact ab (congrArg (λo:Obj=>Nat.beq o.data.ctorIdx 2) eT)
 have c1:cl=_:=congrArg Obj.cls eo;have c2:dd=_:=congrArg Obj.dict eo;have at_:∀i,(vs.toList[i]?).map strip=fs[i]? := λi=>by rw[<-c3,List.getElem?_map]
 have get:∀i,vs.getD i .none=(vs.toList[i]?).getD .none:=λi=>by simp[Array.getD_eq_getD_getElem?]
 refine⟨_,vs,T,_,us,m,ho,c1,c2,rfl, ?_, ?_, ?_,hoT,rfl, ?_⟩
 ·rw[get]
  have e5:=at_ 5;rw[h5]at e5;rw[gN e5];rfl
 ·rw[get]
  have e2:=at_ 2;rw[h2]at e2;obtain⟨t,e⟩:=eY e2;rw[e];rfl
 ·rw[get]
  have e6:=at_ 6;rw[h6]at e6;obtain⟨t,e⟩:=eY e6;rw[e];rfl
 ·apply Array.ext'
  rw[<-hc,<-b3];simp only[Array.toList_map,List.map_map]
  congr 1
  funext v
  simp only[Function.comp_apply];rw[(vX v).1]
noncomputable def kI(L:List (Int×Value))(k:Int):Bool:=L.any λe=>Value.isInt k e.2
theorem rX(k:Int)(v:Value):Value.isInt k (strip v)=Value.isInt k v:=by induction v using Value.casesOn<;>rfl
theorem qo {prog:Program} {w:World} {h:Heap} {a:Addr} {L:List (Int×Value)} {t:SetTable} (ho:∃o,h.get? a=some o/\fj o=⟨.type "set",none, .set ⟨L⟩ 0 t,⟨[]⟩⟩)
 (hL:L.all (λe=>match e.2 with| .int i _=>e.1==PySem.hashInt i|_=>false)=true) (ht:t.fits L.length=true) (hn:L.length<scanBound):h.SetOf (intKind prog w) a (kI L) L.length:=by
 obtain⟨o,ho,eo⟩:=ho;obtain⟨cl,dd,dt,sl⟩:=o;obtain⟨es,ep,tt,rfl,c3,c4⟩:∃es ep tt,dt = .set es ep tt/\es.toList.map (λe=>(e.1,strip e.2))=L/\({ tt with led:=true }:SetTable)=t:=by
  induction dt using Data.casesOn with
  |set es ep tt=>exact⟨es,ep,tt,rfl,congrArg Array.toList (Data.set.inj (congrArg Obj.data eo)).1,(Data.set.inj (congrArg Obj.data eo)).2.2⟩
  |_=>exact ab (congrArg (λo:Obj=>Nat.beq o.data.ctorIdx 4) eo)
 have c1:cl=_:=congrArg Obj.cls eo;have c2:dd=_:=congrArg Obj.dict eo;have c5:sl=_:=congrArg Obj.slots eo;have len:es.size=L.length:=by rw[<-c3,List.length_map,Array.length_toList]
 refine⟨_,es,ep,tt,ho,⟨c1,c2,c5⟩,rfl,λe he => ?_,λk => ?_,⋯, ?_,len⟩
 ·have hm:(e.1,strip e.2)∈L:=by rw[<-c3];exact List.mem_map.mpr ⟨e,he,rfl⟩
  have:=List.all_eq_true.mp hL _ hm;dsimp only at this;cases hv:e.2 with
  |int i t0=>
   rw[hv]at this;refine⟨⟨i,by simp[intKind,Value.isInt],eq_of_beq this⟩,rfl⟩
  |_=>rw[hv]at this;injections this
 ·unfold kI
  rw[<-c3,List.any_map,List.any_eq_true];refine exists_congr λe=>and_congr_right λ_ => ?_
  show Value.isInt k (strip e.2)=true↔Value.isInt k e.2=true;rw[rX]
 ·have h2:({ tt with led:=true }:SetTable).fits L.length=true:=by rw[c4];exact ht
  rw[len];exact h2
end
section
open PySem PySem.W
section
variable {Φ:Fns} {τ:Tau} {μ:List Nm} {W n:Nat} {κ:List (Str×NameKind)} {ρ ρ':Rho} {rest:List Stmt} {res:Res} {p:Pos}
theorem cO{ts:List Expr}{e:Expr}(h:ds (ev Φ τ 40 κ (freeze (aB 40 e) ρ)) κ μ (freeze (aB 40 e) ρ) ts e=(true, .next ρ'))(h2:ex Φ τ μ W κ n rest ρ'=res):ex Φ τ μ W κ (n+1) (.Assign ts e p::rest) ρ=res:=by
 show seq (ds (ev Φ τ 40 κ (freeze (aB 40 e) ρ)) κ μ (freeze (aB 40 e) ρ) ts e) (ex Φ τ μ W κ n rest)=res;rw[h,<-h2];rfl
theorem tV{t e:Expr}{op:Operator}(h:nF (ev Φ τ 40 κ (freeze (aB 40 e) ρ)) κ Φ (freeze (aB 40 e) ρ) t op e=(true, .next ρ'))(h2:ex Φ τ μ W κ n rest ρ'=res):ex Φ τ μ W κ (n+1) (.AugAssign t op e p::rest) ρ=res:=by
 show seq (nF (ev Φ τ 40 κ (freeze (aB 40 e) ρ)) κ Φ (freeze (aB 40 e) ρ) t op e) (ex Φ τ μ W κ n rest)=res;rw[h,<-h2];rfl
theorem B0 {x:Str} {a:Expr} {l:List V} {v:V} {q1 q2 q:Pos} (hq:(q1.endLine==q2.line)=true) (hl:lk (freeze (fu (aB 40) [a]) ρ) (nm x) = .own l) (h:ev Φ τ 40 κ (freeze (fu (aB 40) [a]) ρ) a=(true,v)) (hx:ae (kd κ (nm x))=true) (hc:l.length<=cap)
 (hρ:put (freeze (fu (aB 40) [a]) ρ) (nm x) (.own (l++[v]))=ρ') (h2:ex Φ τ μ W κ n rest ρ'=res):ex Φ τ μ W κ (n+1) (.Expr (.Call (.Attribute (.Name x q) "append" q1) [a] [] q2) p::rest) ρ=res:=by
 show seq (CV (ev Φ τ 40 κ (freeze (fu (aB 40) [a]) ρ)) κ (freeze (fu (aB 40) [a]) ρ) (bif af (nm "append") (nm "append")&&(q1.endLine==q2.line)&&true&&true then some (x,a)else none)) (ex Φ τ μ W κ n rest)=res;rw[hq,ai.mpr rfl];show seq (zk (ae (kd κ (nm x))) (freeze (fu (aB 40) [a]) ρ) (nm x) (ev Φ τ 40 κ (freeze (fu (aB 40) [a]) ρ) a) (lk (freeze (fu (aB 40) [a]) ρ) (nm x))) (ex Φ τ μ W κ n rest)=res;rw[hl,h,hx];show seq (true&&true&&decide (l.length<=cap), .next (put (freeze (fu (aB 40) [a]) ρ) (nm x) (.own (l++[v])))) (ex Φ τ μ W κ n rest)=res;rw[decide_eq_true hc,hρ,<-h2];rfl
theorem dk{e:Expr}{v:V}(h:ev Φ τ 40 κ (freeze (aB 40 e) ρ) e=(true,v)):ex Φ τ μ W κ (n+1) (.Return (some e) p::rest) ρ=(true, .ret v):=by
 show((ev Φ τ 40 κ (freeze (aB 40 e) ρ) e).1,em.ret (ev Φ τ 40 κ (freeze (aB 40 e) ρ) e).2)=_;rw[h]
theorem aR:ex Φ τ μ W κ (n+1) [] ρ=(true, .next ρ):=rfl
theorem dH{t:Expr}{a b:List Stmt}{v:V}{c:Bool}(hp:(aI a&&aI b&&aq (fits 20) a&&aq (fits 20) b)=false)(h:ev Φ τ 40 κ (freeze (aB 40 t) ρ) t=(true,v))(hv:aa v=(true,c))(hr:ex Φ τ μ W κ n ((bif c then a else b)++rest) (freeze (aB 40 t) ρ)=res):
 ex Φ τ μ W κ (n+1) (.If t a b p::rest) ρ=res:=by
 show(bif (aI a&&aI b&&aq (fits 20) a&&aq (fits 20) b)then _ else iQ ((ev Φ τ 40 κ (freeze (aB 40 t) ρ) t).1&&(aa (ev Φ τ 40 κ (freeze (aB 40 t) ρ) t).2).1) (aa (ev Φ τ 40 κ (freeze (aB 40 t) ρ) t).2).2
  (ex Φ τ μ W κ n (a++rest) (freeze (aB 40 t) ρ)) (ex Φ τ μ W κ n (b++rest) (freeze (aB 40 t) ρ)):Res)=res
 rw[hp,h,cond_false,hv];unfold iQ
 induction c using Bool.casesOn with
 |true=>rw[<-hr];simp
 |false=>rw[<-hr];simp
theorem jg {t:Expr} {a b:List Stmt} {v:V} {c:Bool} {ρa ρb:Rho} {fa fb:Bool} (hp:(aI a&&aI b&&aq (fits 20) a&&aq (fits 20) b)=true) (h:ev Φ τ 40 κ (freeze (aB 40 t) ρ) t=(true,v)) (hv:aa v=(true,c))
 (ha:ex Φ τ μ W κ n a (freeze (aB 40 t) ρ)=(fa, .next ρa)) (hb:ex Φ τ μ W κ n b (freeze (aB 40 t) ρ)=(fb, .next ρb)) (hf:(bif c then fa else fb)=true)
 (hr:ex Φ τ μ W κ n rest (et (aC (c9 20) a++aC (c9 20) b) c ρa ρb)=res):ex Φ τ μ W κ (n+1) (.If t a b p::rest) ρ=res:=by
 show(bif (aI a&&aI b&&aq (fits 20) a&&aq (fits 20) b)then seq (nG (aC (c9 20) a++aC (c9 20) b) ((ev Φ τ 40 κ (freeze (aB 40 t) ρ) t).1&&(aa (ev Φ τ 40 κ (freeze (aB 40 t) ρ) t).2).1)
  (aa (ev Φ τ 40 κ (freeze (aB 40 t) ρ) t).2).2 (ex Φ τ μ W κ n a (freeze (aB 40 t) ρ)) (ex Φ τ μ W κ n b (freeze (aB 40 t) ρ))) (ex Φ τ μ W κ n rest)else _:Res)=res
 rw[hp,cond_true,h,hv,ha,hb];unfold nG seq;dsimp only;rw[hr,hf];simp
theorem rY{t:Expr}{b:List Stmt}{ρ':Rho}(h:bE (λρ=>ev Φ τ 40 κ ρ t) (ex Φ τ μ W κ n b) W (freeze (aB 40 t) ρ)=(true, .next ρ'))(h2:ex Φ τ μ W κ n rest ρ'=res):ex Φ τ μ W κ (n+1) (.While t b [] p::rest) ρ=res:=by
 show seq (bE (λρ=>ev Φ τ 40 κ ρ t) (ex Φ τ μ W κ n b) W (freeze (aB 40 t) ρ)) (ex Φ τ μ W κ n rest)=res;rw[h,<-h2];rfl
theorem qq {t it:Expr} {b:List Stmt} {ρ':Rho} {xs:List V} (hi:aQ κ (ev Φ τ 40 κ (freeze (aB 40 it) ρ)) t it=(true,xs)) (ht:(az t).all (λx=>ae (kd κ x))=true)
 (h:bK (λv ρ=>((aT t v ρ).1&&(ex Φ τ μ W κ n b (aT t v ρ).2).1,(ex Φ τ μ W κ n b (aT t v ρ).2).2)) (freeze (aB 40 it) ρ) xs (freeze (aB 40 it) ρ)=(true, .next ρ')) (h2:ex Φ τ μ W κ n rest ρ'=res):ex Φ τ μ W κ (n+1) (.For t it b [] p::rest) ρ=res:=by
 show seq ((aQ κ (ev Φ τ 40 κ (freeze (aB 40 it) ρ)) t it).1&&(az t).all (λx=>ae (kd κ x))&&(bK (λv ρ=>((aT t v ρ).1&&(ex Φ τ μ W κ n b (aT t v ρ).2).1,(ex Φ τ μ W κ n b (aT t v ρ).2).2)) (freeze (aB 40 it) ρ) (aQ κ (ev Φ τ 40 κ (freeze (aB 40 it) ρ)) t it).2 (freeze (aB 40 it) ρ)).1,
  (bK (λv ρ=>((aT t v ρ).1&&(ex Φ τ μ W κ n b (aT t v ρ).2).1,(ex Φ τ μ W κ n b (aT t v ρ).2).2)) (freeze (aB 40 it) ρ) (aQ κ (ev Φ τ 40 κ (freeze (aB 40 it) ρ)) t it).2 (freeze (aB 40 it) ρ)).2) (ex Φ τ μ W κ n rest)=res
 rw[hi,ht,h,<-h2];rfl
theorem ml {t it:Expr} {b:List Stmt} {v:V} {xs:List V} (hi:aQ κ (ev Φ τ 40 κ (freeze (aB 40 it) ρ)) t it=(true,xs)) (ht:(az t).all (λx=>ae (kd κ x))=true)
 (h:bK (λv ρ=>((aT t v ρ).1&&(ex Φ τ μ W κ n b (aT t v ρ).2).1,(ex Φ τ μ W κ n b (aT t v ρ).2).2)) (freeze (aB 40 it) ρ) xs (freeze (aB 40 it) ρ)=(true, .ret v)):ex Φ τ μ W κ (n+1) (.For t it b [] p::rest) ρ=(true, .ret v):=by
 show seq ((aQ κ (ev Φ τ 40 κ (freeze (aB 40 it) ρ)) t it).1&&(az t).all (λx=>ae (kd κ x))&&(bK (λv ρ=>((aT t v ρ).1&&(ex Φ τ μ W κ n b (aT t v ρ).2).1,(ex Φ τ μ W κ n b (aT t v ρ).2).2)) (freeze (aB 40 it) ρ) (aQ κ (ev Φ τ 40 κ (freeze (aB 40 it) ρ)) t it).2 (freeze (aB 40 it) ρ)).1,
  (bK (λv ρ=>((aT t v ρ).1&&(ex Φ τ μ W κ n b (aT t v ρ).2).1,(ex Φ τ μ W κ n b (aT t v ρ).2).2)) (freeze (aB 40 it) ρ) (aQ κ (ev Φ τ 40 κ (freeze (aB 40 it) ρ)) t it).2 (freeze (aB 40 it) ρ)).2) (ex Φ τ μ W κ n rest)=_
 rw[hi,ht,h];rfl
theorem eZ{f:V->Rho->Res}{ρ0 ρ1:Rho}{x:V}{xs:List V}{r:Res}(h:f x ρ=(true, .next ρ1))(h2:bK f ρ0 xs (mask ρ0 ρ1)=r):bK f ρ0 (x::xs) ρ=r:=by
 rw[fY,h];subst h2;rfl
theorem z9{f:V->Rho->Res}{ρ0 ρ1:Rho}{x:V}{xs:List V}(h:f x ρ=(true, .brk ρ1)):bK f ρ0 (x::xs) ρ=(true, .next (mask ρ0 ρ1)):=by
 rw[fY,h]
theorem Aa{f:V->Rho->Res}{ρ0:Rho}{x v:V}{xs:List V}(h:f x ρ=(true, .ret v)):bK f ρ0 (x::xs) ρ=(true, .ret v):=by
 rw[fY,h]
theorem tW{t:Rho->R}{f:Rho->Res}{ρ1:Rho}{v:V}{r:Res}(ht:t ρ=(true,v))(hv:aa v=(true,true))(h:f ρ=(true, .next ρ1))(h2:bE t f n ρ1=r):bE t f (n+1) ρ=r:=by
 rw[iP,ht,show aa ((true,v):R).2=_ from hv,h];subst h2;rfl
theorem vY{t:Rho->R}{f:Rho->Res}{v:V}(ht:t ρ=(true,v))(hv:aa v=(true,false)):bE t f (n+1) ρ=(true, .next ρ):=by
 rw[iP,ht,show aa ((true,v):R).2=_ from hv];rfl
variable {N:Nat} {v x y z:V}
theorem ES{a:R}(h1:a.1=true)(h2:a.2=v):a=(true,v):=by rw[<-h1,<-h2]
theorem cI{E:Expr->R}{e:Expr}(h:E e=(true,v)):fG E (some e)=(true,v):=h
theorem aK{o:Expr}{lo hi stp:Option Expr}{p q:Pos}{a b c:V}(ho:ev Φ τ N κ ρ o=(true,x))(hl:fG (ev Φ τ N κ ρ) lo=(true,a))(hh:fG (ev Φ τ N κ ρ) hi=(true,b))(hs:fG (ev Φ τ N κ ρ) stp=(true,c))(hr:df x a b c=(true,v)):
 ev Φ τ (N+1) κ ρ (.Subscript o (.Slice lo hi stp p) q)=(true,v):=by
 show(let x:=ev Φ τ N κ ρ o;let a:=fG (ev Φ τ N κ ρ) lo;let b:=fG (ev Φ τ N κ ρ) hi;let c:=fG (ev Φ τ N κ ρ) stp;let r:=df x.2 a.2 b.2 c.2;((x.1&&a.1&&b.1&&c.1&&r.1,r.2):R))=_;simp only[ho,hl,hh,hs,hr,Bool.and_self]
noncomputable def EI(τ:Tau)(o:Expr):Nat:=match o with
 | .Name x _=>CS τ (nm x)
 |_=>0
noncomputable def rZ:Expr->Bool
 | .Slice _ _ _ _=>true
 |_=>false
theorem vZ{E:Ev}{τ:Tau}{o i:Expr}(h:rZ i=false):uy E τ κ ρ o i=ll E τ κ ρ o i:=by
 induction i using Expr.casesOn<;>first|rfl|exact ab h.symm
theorem aE{o i:Expr}{q:Pos}{ty:Nat}(hi:rZ i=false)(ho:look κ ρ (ev Φ τ N κ ρ) o=(true,x))(hy:ev Φ τ N κ ρ i=(true,y))(ht:EI τ o=ty)(hr:gR ty x y=(true,v)):
 ev Φ τ (N+1) κ ρ (.Subscript o i q)=(true,v):=by
 have e:ev Φ τ (N+1) κ ρ (.Subscript o i q)=ll (ev Φ τ N) τ κ ρ o i:=vZ hi;rw[e];subst ht;show(let x:=look κ ρ (ev Φ τ N κ ρ) o;let y:=ev Φ τ N κ ρ i;let r:=gR (EI τ o) x.2 y.2;((x.1&&y.1&&r.1,r.2):R))=_;simp only[ho,hy,hr,Bool.and_self]
theorem fc{a:Str}{l:List V}{p:Pos}{E:Expr->R}(h:lk ρ (nm a) = .own l)(hn:ae (kd κ (nm a))=true):look κ ρ E (.Name a p)=(true, .list l):=by
 show qO _ _ (lk ρ (nm a))=_;rw[h,hn];rfl
theorem aA{a:Str}{p:Pos}{E:Expr->R}(h:E (.Name a p)=(true,v))(hn:∀l,lk ρ (nm a) ≠ .own l):look κ ρ E (.Name a p)=(true,v):=by
 show qO _ _ (lk ρ (nm a))=_;generalize lk ρ (nm a)=t at hn
 induction t using Mine.Slot.casesOn with
 |own l=>exact absurd rfl (hn l)
 |_=>exact h
theorem look_other{e:Expr}{E:Expr->R}(he:cC e=false)(h:E e=(true,v)):look κ ρ E e=(true,v):=by
 exact(qW he).trans h
theorem ev_add{a b:Expr}{p:Pos}(ha:look κ ρ (ev Φ τ N κ ρ) a=(true,x))(hb:ev Φ τ N κ ρ b=(true,y))(hr:bW .Add x y=(true,v)):ev Φ τ (N+1) κ ρ (.BinOp a .Add b p)=(true,v):=by
 show(let x:=look κ ρ (ev Φ τ N κ ρ) a;let y:=ev Φ τ N κ ρ b;let r:=bW .Add x.2 y.2;((x.1&&y.1&&r.1,r.2):R))=_;simp only[ha,hb,hr,Bool.and_self]
theorem ev_bin{a b:Expr}{op:Operator}{p:Pos}(hop:op ≠ .Add)(ha:ev Φ τ N κ ρ a=(true,x))(hb:ev Φ τ N κ ρ b=(true,y))(hr:bW op x y=(true,v)):ev Φ τ (N+1) κ ρ (.BinOp a op b p)=(true,v):=by
 show nB (ev Φ τ N) κ ρ a op b=_;unfold nB
 induction op using Operator.casesOn<;>first|exact absurd rfl hop|simp only[ha,hb,hr,Bool.and_self]
theorem ev_cmp{a b:Expr}{op:CmpOp}{p:Pos}{c:Bool}(hop:op ≠ .In)(ha:ev Φ τ N κ ρ a=(true,x))(hb:ev Φ τ N κ ρ b=(true,y))(hr:pK op x y=(true,c)):ev Φ τ (N+1) κ ρ (.Compare a [op] [b] p)=(true, .bool c):=by
 show ft (ev Φ τ N κ ρ) a op b=_;unfold ft;simp only[ha,hb,hr,Bool.and_self]
theorem gq{es:List Expr}{p:Pos}(h:eS (ev Φ τ N κ ρ) es=(true,v)):ev Φ τ (N+1) κ ρ (.BoolOp .And es p)=(true,v):=h
theorem fe{es:List Expr}{p:Pos}(h:mX (ev Φ τ N κ ρ) es=(true,v)):ev Φ τ (N+1) κ ρ (.BoolOp .Or es p)=(true,v):=h
theorem kW{E:Expr->R}{e:Expr}{r:R}(h:E e=r):eS E [e]=r:=h
theorem eK{E:Expr->R}{e e':Expr}{es:List Expr}{r:R}(h:E e=(true,x))(hv:aa x=(true,true))(h2:eS E (e'::es)=r):eS E (e::e'::es)=r:=by
 show(let x:=E e;let c:=aa x.2;let r:=eS E (e'::es);((x.1&&c.1&&(bif c.2 then r.1 else true),cQ c.2 r.2 x.2):R))=r;simp only[h,hv,h2,bo,cond_true,Bool.and_self,Bool.true_and]
theorem jh{E:Expr->R}{e e':Expr}{es:List Expr}(h:E e=(true,x))(hv:aa x=(true,false)):eS E (e::e'::es)=(true,x):=by
 show(let x:=E e;let c:=aa x.2;let r:=eS E (e'::es);((x.1&&c.1&&(bif c.2 then r.1 else true),cQ c.2 r.2 x.2):R))=_;simp only[h,hv,bo,cond_false,Bool.and_self]
theorem mm{E:Expr->R}{e:Expr}{r:R}(h:E e=r):mX E [e]=r:=h
theorem r8{E:Expr->R}{e e':Expr}{es:List Expr}{r:R}(h:E e=(true,x))(hv:aa x=(true,false))(h2:mX E (e'::es)=r):mX E (e::e'::es)=r:=by
 show(let x:=E e;let c:=aa x.2;let r:=mX E (e'::es);((x.1&&c.1&&(bif c.2 then true else r.1),cQ c.2 x.2 r.2):R))=r;simp only[h,hv,h2,bo,cond_false,Bool.and_self,Bool.true_and]
theorem qr{E:Expr->R}{e e':Expr}{es:List Expr}(h:E e=(true,x))(hv:aa x=(true,true)):mX E (e::e'::es)=(true,x):=by
 show(let x:=E e;let c:=aa x.2;let r:=mX E (e'::es);((x.1&&c.1&&(bif c.2 then true else r.1),cQ c.2 x.2 r.2):R))=_;simp only[h,hv,bo,cond_true,Bool.and_self]
theorem tX{a:Expr}{p:Pos}{c:Bool}(h:ev Φ τ N κ ρ a=(true,x))(hv:aa x=(true,c)):ev Φ τ (N+1) κ ρ (.UnaryOp .Not a p)=(true, .bool (!c)):=by
 show(let x:=ev Φ τ N κ ρ a;let r:=DK .Not x.2;((x.1&&r.1,r.2):R))=_;rw[h];show((true&&(aa x).1,V.bool (!(aa x).2)):R)=_;rw[hv];rfl
theorem EJ{t a b:Expr}{p:Pos}{c:Bool}(ht:ev Φ τ N κ ρ t=(true,x))(hv:aa x=(true,c))(h:ev Φ τ N κ ρ (bif c then a else b)=(true,v)):ev Φ τ (N+1) κ ρ (.IfExp t a b p)=(true,v):=by
 show mZ (ev Φ τ N κ ρ) t a b=_;unfold mZ;simp only[ht,hv,bo]
 induction c using Bool.casesOn<;>simp only[cond_true,cond_false,Bool.and_self,Bool.true_and]at h |- <;> rw[h]
theorem evL_nil{E:Expr->R}:cy E []=(true,[]):=rfl
theorem evL_of{E:Expr->R}{e:Expr}{es:List Expr}{vs:List V}(h:E e=(true,x))(h2:cy E es=(true,vs)):cy E (e::es)=(true,x::vs):=by
 rw[CN,h,h2];rfl
theorem ji{es:List Expr}{p:Pos}{vs:List V}(h:cy (ev Φ τ N κ ρ) es=(true,vs))(hl:vs.length<=cap):ev Φ τ (N+1) κ ρ (.List es p)=(true, .list vs):=by
 show((il (cy (ev Φ τ N κ ρ) es), .list (cy (ev Φ τ N κ ρ) es).2):R)=_;unfold il;rw[h];simp[hl]
theorem r9{es:List Expr}{k:Nat}{p:Pos}{vs:List V}(h:cy (ev Φ τ N κ ρ) es=(true,vs))(hl:vs.length<=cap):ev Φ τ (N+1) κ ρ (.Tuple es k p)=(true, .tup vs):=by
 show((il (cy (ev Φ τ N κ ρ) es), .tup (cy (ev Φ τ N κ ρ) es).2):R)=_;unfold il;rw[h];simp[hl]
theorem ev_call{f:Str}{as:List Expr}{p q:Pos}{vs:List V}(h1:af (nm f) (nm "len")=false)(h2:af (nm f) (nm "list")=false)(hg:aN (kd κ (nm f))=true)(ha:cy (ev Φ τ N κ ρ) as=(true,vs))(hr:lm Φ (nm f) vs=(true,v)):ev Φ τ (N+1) κ ρ (.Call (.Name f p) as [] q)=(true,v):=by
 have e:ev Φ τ (N+1) κ ρ (.Call (.Name f p) as [] q)=eA Φ (ev Φ τ N κ ρ) κ (nm f) as:=by
  show jz Φ (ev Φ τ N) κ ρ (.Name f p) as q=_;show(bif af (nm f) (nm "len")then _ else kN (bif af (nm f) (nm "list")then iN as else none) _ _)=_;rw[h1,h2];rfl
 rw[e];unfold eA;simp only[hg,ha,hr,Bool.and_self]
theorem ev_len{a:Expr}{p q:Pos}(hg:aN (kd κ (nm "len"))=true)(ha:look κ ρ (ev Φ τ N κ ρ) a=(true,x))(hr:kz x=(true,v)):ev Φ τ (N+1) κ ρ (.Call (.Name "len" p) [a] [] q)=(true,v):=by
 have e:ev Φ τ (N+1) κ ρ (.Call (.Name "len" p) [a] [] q)=nC (ev Φ τ N) κ ρ (nm "len") a:=rfl;rw[e];unfold nC;simp only[hg,ha,hr,Bool.and_self]
theorem qs{bs:List Expr}{p p' q q':Pos}{vs ws:List V}(hg:aN (kd κ (nm "list"))=true)(hg2:aN (kd κ (nm "range"))=true)(ha:cy (ev Φ τ N κ ρ) bs=(true,vs))(hr:dN vs=(true,ws)):ev Φ τ (N+1) κ ρ (.Call (.Name "list" p) [.Call (.Name "range" p') bs [] q'] [] q)=(true, .list ws):=by
 have e:ev Φ τ (N+1) κ ρ (.Call (.Name "list" p) [.Call (.Name "range" p') bs [] q'] [] q)=bt (ev Φ τ N κ ρ) κ (nm "list") (nm "range") bs:=rfl;rw[e];unfold bt;simp only[hg,hg2,ha,hr,Bool.and_self]
theorem ev_meth{o:Expr}{m:Str}{as:List Expr}{p q:Pos}{vs:List V}(hp:(p.endLine==q.line)=true)(hl:as.length<30)(hs:dR o=true)(ho:ev Φ τ N κ ρ o=(true,x))(ha:cy (ev Φ τ N κ ρ) as=(true,vs))(hr:eU Φ (nm m) x vs=(true,v)):ev Φ τ (N+1) κ ρ (.Call (.Attribute o m p) as [] q)=(true,v):=by
 show(bif p.endLine==q.line&&decide (as.length<30)then jy Φ (ev Φ τ N κ ρ) o (nm m) as else bad)=_;rw[hp,decide_eq_true hl];show jy Φ (ev Φ τ N κ ρ) o (nm m) as=_;unfold jy;simp only[ho,ha,hr,hs,Bool.and_self]
theorem ev_field{o:Expr}{a:Str}{p:Pos}(hs:dR o=true)(ho:ev Φ τ N κ ρ o=(true,x))(hr:w6 (nm a) x=(true,v)):ev Φ τ (N+1) κ ρ (.Attribute o a p)=(true,v):=by
 show gE (ev Φ τ N κ ρ) o (nm a)=_;unfold gE;simp only[ho,hr,hs,Bool.and_self]
theorem uU{elt t it:Expr}{ifs:List Expr}{scope:Scope}{p:Pos}{xs ys:List V}(h1:ew κ scope=true)(h2:mY scope.names t=true)(hi:aQ κ (ev Φ τ N κ ρ) t it=(true,xs))(hc:a9 (cK (ev Φ τ N) elt t ifs scope (bD scope ρ)) xs=(true,ys))(hl:xs.length<=cap):
 ev Φ τ (N+1) κ ρ (.ListComp elt [⟨t,it,ifs,0⟩] scope p)=(true, .list ys):=by
 show(let xs:=aQ κ (ev Φ τ N κ ρ) t it;let r:=a9 (cK (ev Φ τ N) elt t ifs scope (bD scope ρ)) xs.2;((ew κ scope&&mY scope.names t&&xs.1&&r.1&&decide (xs.2.length<=cap), .list r.2):R))=_;simp only[h1,h2,hi,hc,decide_eq_true hl,Bool.and_self]
theorem qt{E:Expr->R}{x:Str}{p:Pos}{e:Expr}(h:E e=(true,v))(hn:ae (kd κ (nm x))=true):ds E κ μ ρ [.Name x p] e=(true, .next (put ρ (nm x) (fX μ (nm x) e v))):=by
 show(let v:=E e;((v.1&&ae (kd κ (nm x)), .next (put ρ (nm x) (fX μ (nm x) e v.2))):Res))=_;simp only[h,hn,Bool.and_self]
theorem bk{x:Str}{e:Expr}{q:Pos}(h:ev Φ τ 40 κ (freeze (aB 40 e) ρ) e=(true,v))(hn:ae (kd κ (nm x))=true)(hρ:put (freeze (aB 40 e) ρ) (nm x) (fX μ (nm x) e v)=ρ')(h2:ex Φ τ μ W κ n rest ρ'=res):ex Φ τ μ W κ (n+1) (.Assign [.Name x p] e q::rest) ρ=res:=
 cO (by rw[qt h hn,hρ]) h2
theorem bH{s:List Nat}{k:Nat}(hs:s.length<=cap):df (.str s) (.int (k:Int)) .none .none=(true, .str (s.drop k)):=by
 show((decide (s.length<=cap),V.str (jY s (some (k:Int)) none)):R)=_;rw[decide_eq_true hs]
 congr 2
 unfold jY bound;dsimp only;rw[show decide ((k:Int)<0)=false by simp];simp only[cond_false,Int.toNat_natCast]
 by_cases h:k<=s.length
 ·rw[show Nat.min k s.length=k from Nat.min_eq_left h];exact List.take_of_length_le (by simp)
 ·rw[show Nat.min k s.length=s.length from Nat.min_eq_right ⋯,List.drop_eq_nil_of_le (Nat.le_refl _),List.drop_eq_nil_of_le ⋯];simp
theorem Di{s:List Nat}{k:Nat}(hs:s.length<=cap):df (.str s) .none (.int (k:Int)) .none=(true, .str (s.take k)):=by
 show((decide (s.length<=cap),V.str (jY s none (some (k:Int)))):R)=_;rw[decide_eq_true hs]
 congr 2
 unfold jY bound;dsimp only;rw[show decide ((k:Int)<0)=false by simp];simp only[cond_false,Int.toNat_natCast,List.drop_zero,Nat.sub_zero]
 by_cases h:k<=s.length
 ·rw[show Nat.min k s.length=k from Nat.min_eq_left h]
 ·rw[show Nat.min k s.length=s.length from Nat.min_eq_right ⋯,List.take_of_length_le (Nat.le_refl _),List.take_of_length_le ⋯]
theorem v0{s:List Nat}(hs:s.length<=cap):df (.str s) .none .none .none=(true, .str s):=by
 show((decide (s.length<=cap),V.str (jY s none none)):R)=_;rw[decide_eq_true hs]
 congr 2
 unfold jY;simp
theorem tY{s:List Nat}{k:Nat}(hs:s.length<=cap)(h0:0<k)(hk:k<=s.length):df (.str s) .none (.int (-(k:Int))) .none=(true, .str (s.take (s.length-k))):=by
 show((decide (s.length<=cap),V.str (jY s none (some (-(k:Int))))):R)=_;rw[decide_eq_true hs]
 congr 2
 unfold jY bound;dsimp only;rw[show decide (-(k:Int)<0)=true from decide_eq_true ⋯];simp only[cond_true,List.drop_zero,Nat.sub_zero]
 congr 1
 omega
theorem eE{s:List Nat}{k:Nat}{ty:Nat}(hs:s.length<=cap)(hk:k<s.length):gR ty (.str s) (.int (k:Int))=(true, .str [s.getD k 0]):=by
 show((aL s.length (k:Int)&&decide (s.length<=cap),V.str [s.getD (place s.length (k:Int)) 0]):R)=_;rw[decide_eq_true hs];unfold aL place;rw[show decide ((k:Int)<0)=false by simp];simp only[cond_false,Int.toNat_natCast];rw[show decide (-(s.length:Int)<=(k:Int))=true from decide_eq_true ⋯,show decide ((k:Int)<(s.length:Int))=true from decide_eq_true ⋯]
 rfl
theorem jj{s:List Nat}{k:Nat}{ty:Nat}(hs:s.length<=cap)(h0:0<k)(hk:k<=s.length):gR ty (.str s) (.int (-(k:Int)))=(true, .str [s.getD (s.length-k) 0]):=by
 show((aL s.length (-(k:Int))&&decide (s.length<=cap),V.str [s.getD (place s.length (-(k:Int))) 0]):R)=_;rw[decide_eq_true hs];unfold aL place;rw[show decide (-(k:Int)<0)=true from decide_eq_true ⋯];simp only[cond_true];rw[show decide (-(s.length:Int) <= -(k:Int))=true from decide_eq_true ⋯,show decide (-(k:Int)<(s.length:Int))=true from decide_eq_true ⋯,show(-(k:Int)+(s.length:Int)).toNat=s.length-k by omega]
 rfl
theorem sub_int{l:List V}{k:Nat}{i:Int}(hs:l.length<=cap)(hk:k<l.length)(hi:l.getD k .none = .int i):gR 1 (.list l) (.int (k:Int))=(true, .int i):=by
 show((aL l.length (k:Int)&&decide (l.length<=cap)&&mV (l.getD (place l.length (k:Int)) .none),V.int (getI (l.getD (place l.length (k:Int)) .none))):R)=_;rw[decide_eq_true hs];unfold aL place;rw[show decide ((k:Int)<0)=false by simp];simp only[cond_false,Int.toNat_natCast];rw[show decide (-(l.length:Int)<=(k:Int))=true from decide_eq_true ⋯,show decide ((k:Int)<(l.length:Int))=true from decide_eq_true ⋯,hi]
 rfl
theorem qu{t:Expr}{b:List Stmt}{ρ0:Rho}(Inv:Nat->Rho)(val:Nat->V):∀(k i:Nat),(∀j,i<=j->j<i+k->∃ρ1 ρ2,aT t (val j) (Inv j)=(true,ρ1)/\ex Φ τ μ W κ n b ρ1=(true, .next ρ2)/\mask ρ0 ρ2=Inv (j+1)) ->
 bK (λv ρ=>((aT t v ρ).1&&(ex Φ τ μ W κ n b (aT t v ρ).2).1,(ex Φ τ μ W κ n b (aT t v ρ).2).2)) ρ0 ((List.range' i k).map val) (Inv i)=(true, .next (Inv (i+k)))
 |0,i,_=>rfl
 |k+1,i,h=>by
  obtain⟨ρ1,ρ2,h1,h2,h3⟩:=h i (Nat.le_refl _) ⋯;rw[List.range'_succ,List.map_cons];refine eZ (ρ1:=ρ2) ?_ ?_
  ·show((aT t (val i) (Inv i)).1&&(ex Φ τ μ W κ n b (aT t (val i) (Inv i)).2).1,(ex Φ τ μ W κ n b (aT t (val i) (Inv i)).2).2)=_
   rw[h1];dsimp only;rw[h2];rfl
  ·rw[h3,show i+(k+1)=i+1+k by omega]
   exact qu Inv val k (i+1) λj hj hj2=>h j ⋯ ⋯
theorem gO{t:Expr}{b:List Stmt}{ρ1:Rho}{o:em}(h1:aT t v ρ=(true,ρ1))(h2:ex Φ τ μ W κ n b ρ1=(true,o)):((aT t v ρ).1&&(ex Φ τ μ W κ n b (aT t v ρ).2).1,(ex Φ τ μ W κ n b (aT t v ρ).2).2)=((true,o):Res):=by
 rw[h1];dsimp only;rw[h2];rfl
theorem iD:∀(n a:Nat),fk (a:Int) 1 n=(List.range' a n).map λi:Nat=>(i:Int)
 |0,a=>rfl
 |n+1,a=>by
  rw[List.range'_succ,List.map_cons,fV,<-iD n (a+1)]
  congr 1
theorem dZ{k:Nat}(h:k<=10000):dN [.int (k:Int)]=(true,(List.range' 0 k).map λi:Nat => .int (i:Int)):=by
 have hs:Builtin.Range.rangeSize 0 (k:Int) 1=k:=by
  unfold Builtin.Range.rangeSize;simp
  omega
 have h1:bC 0 (k:Int) 1=true:=by
  have fl:∀i:Int, -2<=i->i<=20000->Builtin.Range.rangeFitsLong i=true:=λi a b=>by
   unfold Builtin.Range.rangeFitsLong;simp
   omega
  unfold bC Builtin.Range.small;rw[hs,fl 0 ⋯ ⋯,fl k ⋯ ⋯,fl 1 ⋯ ⋯,if_pos nofun,fl (k+(1-1)) ⋯ ⋯,decide_eq_true (show(k:Int)<=10000 by omega)];simp
 show((bC 0 (k:Int) 1,(cA 0 (k:Int) 1).map V.int):Bool×List V)=_;rw[h1];unfold cA;rw[hs];have:=iD k 0;simp only[Int.toNat_natCast];rw[show((0:Nat):Int)=0 from rfl]at this;rw[this,List.map_map];rfl
theorem B1{x y:Str}{e:Expr}{p' q:Pos}(h:ev Φ τ 40 κ (freeze (aB 40 e) ρ) e=(true,v))(hx:ae (kd κ (nm x))=true)(hy:ae (kd κ (nm y))=true)(hρ:put (put (freeze (aB 40 e) ρ) (nm x) (.val v)) (nm y) (.val v)=ρ')(h2:ex Φ τ μ W κ n rest ρ'=res):
 ex Φ τ μ W κ (n+1) (.Assign [.Name x p, .Name y p'] e q::rest) ρ=res:=by
 refine cO (ρ':=ρ') ?_ h2;show(let v:=ev Φ τ 40 κ (freeze (aB 40 e) ρ) e;(((v.1&&true&&([nm x,nm y].all λx=>ae (kd κ x))), .next (put (put (freeze (aB 40 e) ρ) (nm x) (.val v.2)) (nm y) (.val v.2))):Res))=_;simp only[h,List.all_cons,hx,hy,List.all_nil,Bool.and_self,hρ]
theorem iE {x:Str} {i e:Expr} {p' q:Pos} {l:List V} {j:Nat} (hl:lk (freeze (aB 40 e) ρ) (nm x) = .own l) (hi:ev Φ τ 40 κ (freeze (aB 40 e) ρ) i=(true, .int (j:Int))) (h:ev Φ τ 40 κ (freeze (aB 40 e) ρ) e=(true,v)) (hx:ae (kd κ (nm x))=true) (hj:j<l.length) (hc:l.length<=cap)
 (hρ:put (freeze (aB 40 e) ρ) (nm x) (.own (gS l j v))=ρ') (h2:ex Φ τ μ W κ n rest ρ'=res):ex Φ τ μ W κ (n+1) (.Assign [.Subscript (.Name x p) i p'] e q::rest) ρ=res:=by
 refine cO (ρ':=ρ') ?_ h2;show zh (ae (kd κ (nm x))) (freeze (aB 40 e) ρ) (nm x) (ev Φ τ 40 κ (freeze (aB 40 e) ρ) i) (ev Φ τ 40 κ (freeze (aB 40 e) ρ) e) (lk (freeze (aB 40 e) ρ) (nm x))=_;rw[hl,hi,h,hx];show(true&&(true&&true)&&(decide (0<=(j:Int))&&decide ((j:Int)<(l.length:Int))&&decide (l.length<=cap)),em.next (put (freeze (aB 40 e) ρ) (nm x) (.own (gS l (j:Int).toNat v))))=(true,em.next ρ');rw[decide_eq_true hc,decide_eq_true (Int.natCast_nonneg j),decide_eq_true (Int.ofNat_lt.mpr hj),Int.toNat_natCast,hρ];rfl
theorem bL{f:Nm}{vs:List V}{r:R}(h:kK Φ.fn f=none)(hb:eJ f vs=r):lm Φ f vs=r:=by
 unfold lm;rw[h];exact hb
theorem bM{f:Nm}{vs:List V}{r:R}{F:List V->R}(h:kK Φ.fn f=some F)(hb:F vs=r):lm Φ f vs=r:=by
 unfold lm;rw[h];exact hb
theorem ff{t:Expr}{as:List Expr}{p' q:Pos}{vs xs:List V}(hg:aN (kd κ (nm "range"))=true)(ht:cC t=true)(ha:cy (ev Φ τ N κ ρ) as=(true,vs))(hr:dN vs=(true,xs)):aQ κ (ev Φ τ N κ ρ) t (.Call (.Name "range" p') as [] q)=(true,xs):=by
 show(let x:=cy (ev Φ τ N κ ρ) as;let r:=dN x.2;((aN (kd κ (nm "range"))&&x.1&&r.1&&cC t,r.2):Bool×List V))=_;simp only[hg,ht,ha,hr,Bool.and_self]
theorem sd{t e:Expr}{xs:List V}(he:aQ κ (ev Φ τ N κ ρ) t e=jZ κ (ev Φ τ N κ ρ) t e)(h:ev Φ τ N κ ρ e=(true,v))(hx:li v=(true,xs))(ht:cC t=true\/(fq t=true/\CJ v=true)):aQ κ (ev Φ τ N κ ρ) t e=(true,xs):=by
 rw[he];unfold jZ;simp only[h,hx,Bool.and_self,Bool.true_and]
 rcases ht with h|⟨h1,h2⟩
 ·rw[h];rfl
 ·rw[h1,h2];simp
theorem mq:∀(n a:Nat),fk ((a:Int)*2) 2 n=(List.range' a n).map λi:Nat=>(i:Int)*2
 |0,a=>rfl
 |n+1,a=>by
  rw[List.range'_succ,List.map_cons,fV,<-mq n (a+1)]
  congr 2
  omega
theorem tZ{k:Nat}(h:k<=5000):dN [.int 2, .int (2*((k:Int)+1)), .int 2]=(true,(List.range' 1 k).map λi:Nat => .int ((i:Int)*2)):=by
 have hs:Builtin.Range.rangeSize 2 (2*((k:Int)+1)) 2=k:=by
  unfold Builtin.Range.rangeSize;simp
  omega
 have fl:∀i:Int, -2<=i->i<=20000->Builtin.Range.rangeFitsLong i=true:=λi a b=>by
  unfold Builtin.Range.rangeFitsLong;simp
  omega
 have h1:bC 2 (2*((k:Int)+1)) 2=true:=by
  unfold bC Builtin.Range.small;rw[hs,fl 2 ⋯ ⋯,fl (2*((k:Int)+1)) ⋯ ⋯,fl k ⋯ ⋯,if_pos nofun,fl (2*((k:Int)+1)+(2-1)) ⋯ ⋯,decide_eq_true (show(k:Int)<=10000 by omega)];simp
 show((bC 2 (2*((k:Int)+1)) 2,(cA 2 (2*((k:Int)+1)) 2).map V.int):Bool×List V)=_;rw[h1];unfold cA;rw[hs];have:=mq k 1;simp only[Int.toNat_natCast];rw[show((1:Nat):Int)*2=2 from rfl]at this;rw[this,List.map_map];rfl
end
end
section
open PySem PySem.W PySem.Challenge
noncomputable abbrev PW:=pw_uk0028_02
noncomputable abbrev eF:=a0 PW 3 1
noncomputable abbrev qv:=a0 PW 3 3
noncomputable abbrev yj:=aV PW 8
noncomputable abbrev EK:=aV PW 11
noncomputable abbrev DQ:=aV PW 13
noncomputable abbrev B2:=aV PW 18
noncomputable abbrev fA:=aV PW 19
noncomputable abbrev yk:=aV PW 21
noncomputable abbrev qw:=aV PW 22
noncomputable abbrev jO:=aV PW 23
noncomputable abbrev fM:=aV PW 24
noncomputable def GL:List (Nm×V):=[(nm "_MAX_STRING_SIZE", .int 40),(nm "_MOVE_COST", .int 2),(nm "_CASE_COST", .int 1),(nm "CRLF", .str [13,10]),(nm "Whitespace", .cls)]
theorem yl{Φ:Fns}{τ:Tau}{W:Nat}{d:Def}{as:List V}{v:V}(h:ex Φ τ (aC (gT 20) d.body) W d.κ 200 d.body (bX d.κ (kB d.params as))=(true, .ret v))(hl:Nat.beq d.params.length as.length=true):bY Φ τ W d as=(true,v):=by
 unfold bY;rw[h];unfold iR;rw[hl];rfl
section
variable {fn meth:List (Nm×(List V->R))} {τ:Tau} {W:Nat}
noncomputable def bc(a b:Nat):Int:=bif af [a] [b]then 0 else bif af (bR [a]) (bR [b])then 1 else 2
theorem Ab(a b:Nat):bY ⟨GL,fn,meth⟩ τ W (dB ["ch_a","ch_b"] B2) [.str [a], .str [b]]=(true, .int (bc a b)):=by
 refine yl ?_ rfl;refine dH (v := .bool (af [a] [b])) (c:=af [a] [b]) ∅ ∅ rfl ?_;unfold bc;cases af [a] [b]with
 |true=>exact dk ∅
 |false=>
  refine dH (v := .bool (af (bR [a]) (bR [b]))) (c:=af (bR [a]) (bR [b])) ∅ ∅ rfl ?_;cases af (bR [a]) (bR [b])with
  |true=>exact dk ∅
  |false=>exact dk ∅
end
end
section
open PySem PySem.W PySem.Challenge
noncomputable def aH:List Nat->List Nat->Nat
 |x::a,y::b=>bif af [x] [y]then aH a b+1 else 0
 |_,_=>0
structure LS where
 row:List Int
 dist:Int
 res:Int
 mn:Int
noncomputable def iF(c:Nat)(a:List Nat)(i:Nat)(s:LS):LS:=
 let d:=s.row.getD i 0;let idl:=(bif decide (d<s.res)then d else s.res)+2;let sub:=s.dist+bc c (a.getD i 0);let r:=bif decide (sub<idl)then sub else idl
 ⟨s.row.set i r,d,r,bif decide (r<s.mn)then r else s.mn⟩
noncomputable def eG(c:Nat)(a:List Nat)(s:LS):Nat->LS
 |0=>s
 |k+1=>iF c a k (eG c a s k)
noncomputable def AR:Int:=9223372036854775807
noncomputable def gr(a:List Nat)(m:Int):List Nat->Nat->List Int->Int->Int
 |[],_,_,res=>res
 |c::bs,j,row,res=>
  let s:=eG c a ⟨row,(j:Int)*2,(j:Int)*2,AR⟩ a.length
  bif decide (m<s.mn)then m+1 else gr a m bs (j+1) s.row s.res
noncomputable def kl(a b:List Nat)(m:Int):Int:=
 bif decide (m<((b.length:Int)-a.length)*2)then m+1 else gr a m b 0 ((List.range' 1 a.length).map λi:Nat=>(i:Int)*2) 0
noncomputable def v5(a b:List Nat)(m:Int):Int:=
 bif a.isEmpty||b.isEmpty then 2*((a.length:Int)+b.length)
 else bif decide (40<a.length)||decide (40<b.length)then m+1
 else bif decide (b.length<a.length)then kl b a m else kl a b m
noncomputable def aO(a:List Nat)(q:Nat):List Nat:=a.take (a.length-q)
noncomputable def m9(a b:List Nat)(m:Int):Int:=
 bif af a b then 0 else
 let k:=aH a b;let a1:=a.drop k;let b1:=b.drop k;let q:=aH a1.reverse b1.reverse
 v5 (aO a1 q) (aO b1 q) m
section
variable {fn meth:List (Nm×(List V->R))}
noncomputable abbrev v6:List (Str×NameKind):=fA.scope.names
noncomputable abbrev t7:Tau:=[(nm "row",1)]
noncomputable def eL(a b m pre post row result bindex bchar distance minimum index substitute insdel:Mine.Slot):Rho:=
 [(nm "a",a),(nm "b",b),(nm "max_cost",m),(nm "pre",pre),(nm "post",post),(nm "row",row),(nm "result",result),(nm "bindex",bindex),(nm "bchar",bchar),(nm "distance",distance),(nm "minimum",minimum),(nm "index",index),(nm "substitute",substitute),(nm "insert_delete",insdel)]
noncomputable abbrev vS(x:List Nat):Mine.Slot := .val (.str x)
noncomputable abbrev vI(i:Int):Mine.Slot := .val (.int i)
theorem mr{row:List Int}{i:Nat}(h:i<row.length):(row.map V.int).getD i .none = .int (row.getD i 0):=by
 simp[List.getD_eq_getElem?_getD,h]
theorem jP{t:Rho->R}{f:Rho->Res}(Inv:Nat->Rho):∀(k i n:Nat),(∀j,i<=j->j<i+k->(∃v,t (Inv j)=(true,v)/\aa v=(true,true))/\f (Inv j)=(true, .next (Inv (j+1))))->(∃v,t (Inv (i+k))=(true,v)/\aa v=(true,false))->k<n ->
 bE t f n (Inv i)=(true, .next (Inv (i+k)))
 |0,i,n,_,h,hn=>by
  obtain⟨v,h1,h2⟩:=h;obtain⟨n,rfl⟩:∃n',n=n'+1:=⟨n-1,⋯⟩;exact vY h1 h2
 |k+1,i,n,hs,h,hn=>by
  obtain⟨⟨v,h1,h2⟩,h3⟩:=hs i (Nat.le_refl _) ⋯;obtain⟨n,rfl⟩:∃n',n=n'+1:=⟨n-1,⋯⟩;refine tW h1 h2 h3 ?_;rw[show i+(k+1)=i+1+k by omega]at h |-;exact jP Inv k (i+1) n (λj hj hj2=>hs j ⋯ ⋯) h ⋯
theorem kX:∀(a b:List Nat) (j:Nat),j<aH a b->j<a.length/\j<b.length/\af [a.getD j 0] [b.getD j 0]=true
 |[],b,j,h=>by induction b using List.casesOn<;>exact absurd h (Nat.not_lt_zero j)
 |x::a,[],j,h=>absurd h (Nat.not_lt_zero j)
 |x::a,y::b,j,h=>by
  have h':j<bif af [x] [y]then aH a b+1 else 0:=h
  cases e:af [x] [y]with
  |true=>
   rw[e]at h'
   induction j using Nat.casesOn with
   |zero=>exact⟨by simp,by simp,e⟩
   |succ j=>
    have h2:j<aH a b:=by simpa using h'
    obtain⟨i1,i2,i3⟩:=kX a b j h2;exact⟨by simp;omega,by simp;omega,by simpa using i3⟩
  |false=>rw[e]at h';exact absurd h' (Nat.not_lt_zero j)
theorem qx:∀(a b:List Nat),aH a b<a.length->aH a b<b.length->af [a.getD (aH a b) 0] [b.getD (aH a b) 0]=false
 |[],b,h,_=>absurd h (Nat.not_lt_zero _)
 |x::a,[],_,h=>absurd h (Nat.not_lt_zero _)
 |x::a,y::b,h1,h2=>by
  cases e:af [x] [y]with
  |true=>
   have ep:aH (x::a) (y::b)=aH a b+1:=by show(bif af [x] [y]then _ else _)=_;rw[e];rfl
   rw[ep]at h1 h2 |-;have:=qx a b (by simpa using h1) (by simpa using h2)
   simpa using this
  |false=>
   have ep:aH (x::a) (y::b)=0:=by show(bif af [x] [y]then _ else _)=_;rw[e];rfl
   rw[ep];exact e
theorem uV(a b:List Nat):aH a b<=a.length/\aH a b<=b.length:=by
 rcases Nat.eq_zero_or_pos (aH a b)with h|h
 ·omega
 ·have:=kX a b (aH a b-1) ⋯;omega
theorem truthy_str{s:List Nat}(h:s.length<=cap):aa (.str s)=(true, !s.isEmpty):=by
 show((decide (s.length<=cap), !s.isEmpty):Bool×Bool)=_;rw[decide_eq_true h]
theorem fg{s:List Nat}{j:Nat}(h:j<s.length):(s.drop j).isEmpty=false:=by
 rw[List.isEmpty_eq_false_iff];intro e;rw[List.drop_eq_nil_iff]at e;omega
theorem gP{s:List Nat}{j:Nat}(h:s.length<=j):(s.drop j).isEmpty=true:=by
 rw[List.isEmpty_iff,List.drop_eq_nil_iff];exact h
structure se(fn:List (Nm×(List V->R))):Prop where
 sub:∀x y,∃f,kK fn (nm "_substitution_cost")=some f/\f [.str [x], .str [y]]=(true, .int (bc x y))
 mn:kK fn (nm "min")=none
theorem jQ(c:Nat)(a:List Nat)(s:LS):∀k,(eG c a s k).row.length=s.row.length
 |0=>rfl
 |k+1=>by
  show(iF c a k (eG c a s k)).row.length=_;unfold iF;simp only[List.length_set];exact jQ c a s k
theorem sg(row:List Int)(j:Nat)(x:Int):gS (row.map V.int) j (.int x)=(row.set j x).map V.int:=by
 unfold gS;rw[List.map_set]
noncomputable def jk(s:Option Stmt):List Stmt:=match s with
 |some (.For _ _ b _ _)=>b
 |_=>[]
noncomputable def dl(s:Option Stmt):Expr:=match s with
 |some (.For t _ _ _ _)=>t
 |_ => .Name "" default
noncomputable abbrev mu:List Stmt:=jk fA.body[15]?
noncomputable abbrev Dj:List Stmt:=jk mu[3]?
noncomputable def eI(a b:List Nat)(m k p:Int)(j:Nat)(c:Nat)(s:LS):Rho:=eL (vS a) (vS b) (vI m) (vI k) (vI p) (.own (s.row.map .int)) (vI s.res) (vI j) (vS [c]) (vI s.dist) (vI s.mn) .un .un .un
theorem v7(hs:se fn)(a b:List Nat)(m k p:Int)(j c:Nat)(s:LS)(ha:a.length<=500)(hr:s.row.length=a.length){μ:List Nm}:
 bK (λv ρ=>((aT (dl mu[3]?) v ρ).1&&(ex ⟨GL,fn,meth⟩ t7 μ 1000 v6 180 Dj (aT (dl mu[3]?) v ρ).2).1,(ex ⟨GL,fn,meth⟩ t7 μ 1000 v6 180 Dj (aT (dl mu[3]?) v ρ).2).2)) (eI a b m k p j c s)
  ((List.range' 0 a.length).map λi:Nat => .int (i:Int)) (eI a b m k p j c s)=(true, .next (eI a b m k p j c (eG c a s a.length))):=by
 have ca:a.length<=cap:=by unfold cap;omega
 refine(qu (λi=>eI a b m k p j c (eG c a s i)) (λi => .int (i:Int)) a.length 0 λi _ hi => ?_).trans (by rw[Nat.zero_add]);have hi':i<a.length:=⋯;have hrow:(eG c a s i).row.length=a.length:=by rw[jQ,hr]
 show ∃ρ1 ρ2,_/\_/\mask (eI a b m k p j c s) ρ2=eI a b m k p j c (iF c a i (eG c a s i));generalize eG c a s i=u at hrow |-;obtain⟨f,hf1,hf2⟩:=hs.sub c (a.getD i 0);have hlen:(u.row.map V.int).length<=cap:=by rw[List.length_map];omega
 have hlt:i<(u.row.map V.int).length:=by rw[List.length_map];omega
 obtain⟨sub,hsub⟩:∃x,x=u.dist+bc c (a.getD i 0):=⟨_,rfl⟩;obtain⟨d,hd⟩:∃x,x=u.row.getD i 0:=⟨_,rfl⟩;obtain⟨idl,hidl⟩:∃x,x=(bif decide (d<u.res)then d else u.res)+2:=⟨_,rfl⟩;obtain⟨r,hres⟩:∃x,x=bif decide (sub<idl)then sub else idl:=⟨_,rfl⟩
 have e:iF c a i u=⟨u.row.set i r,d,r,bif decide (r<u.mn)then r else u.mn⟩:=by rw[hres,hidl,hsub,hd];rfl
 rw[e];have e2:eI a b m k p j c ⟨u.row.set i r,d,r,bif decide (r<u.mn)then r else u.mn⟩=eL (vS a) (vS b) (vI m) (vI k) (vI p) (.own (gS (u.row.map .int) i (.int r))) (vI r) (vI j) (vS [c]) (vI d) (vI (bif decide (r<u.mn)then r else u.mn)) .un .un .un:=by
  rw[sg];rfl
 rw[e2];refine⟨eL (vS a) (vS b) (vI m) (vI k) (vI p) (.own (u.row.map .int)) (vI u.res) (vI j) (vS [c]) (vI u.dist) (vI u.mn) (vI i) .un .un,
  eL (vS a) (vS b) (vI m) (vI k) (vI p) (.own (gS (u.row.map .int) i (.int r))) (vI r) (vI j) (vS [c]) (vI d) (vI (bif decide (r<u.mn)then r else u.mn)) (vI i) (vI sub) (vI idl),∅, ?_,∅⟩
 refine bk (v := .int sub) (ev_add (x := .int u.dist) (aA ∅ (λl h=>by injections h)) (ev_call ∅ ∅ ∅ (evL_of ∅ (evL_of (aE rfl (aA ∅ (λl h=>by injections h)) ∅ (ty:=0) ∅ (eE ca hi')) evL_nil)) (bM hf1 hf2)) (by rw[hsub];rfl)) ∅
  (ρ':=eL (vS a) (vS b) (vI m) (vI k) (vI p) (.own (u.row.map .int)) (vI u.res) (vI j) (vS [c]) (vI u.dist) (vI u.mn) (vI i) (vI sub) .un) ∅ ?_
 refine bk (v := .int d) (aE rfl (fc (l:=u.row.map .int) ∅ ∅) ∅ (ty:=1) ∅ (by rw[hd];exact sub_int hlen hlt (mr ⋯))) ∅
  (ρ':=eL (vS a) (vS b) (vI m) (vI k) (vI p) (.own (u.row.map .int)) (vI u.res) (vI j) (vS [c]) (vI d) (vI u.mn) (vI i) (vI sub) .un) ∅ ?_
 refine bk (v := .int idl) (ev_add (look_other rfl (ev_call ∅ ∅ ∅ (evL_of (x := .int u.res) ∅ (evL_of (x := .int d) ∅ evL_nil)) (bL hs.mn rfl))) (y := .int 2) ∅ (by rw[hidl];rfl)) ∅
  (ρ':=eL (vS a) (vS b) (vI m) (vI k) (vI p) (.own (u.row.map .int)) (vI u.res) (vI j) (vS [c]) (vI d) (vI u.mn) (vI i) (vI sub) (vI idl)) ∅ ?_
 refine bk (v := .int r) (ev_call ∅ ∅ ∅ (evL_of (x := .int idl) ∅ (evL_of (x := .int sub) ∅ evL_nil)) (bL hs.mn (by rw[hres];rfl))) ∅
  (ρ':=eL (vS a) (vS b) (vI m) (vI k) (vI p) (.own (u.row.map .int)) (vI r) (vI j) (vS [c]) (vI d) (vI u.mn) (vI i) (vI sub) (vI idl)) ∅ ?_
 refine iE (l:=u.row.map .int) (j:=i) (v := .int r) ∅ ∅ ∅ ∅ hlt hlen
  (ρ':=eL (vS a) (vS b) (vI m) (vI k) (vI p) (.own (gS (u.row.map .int) i (.int r))) (vI r) (vI j) (vS [c]) (vI d) (vI u.mn) (vI i) (vI sub) (vI idl)) ∅ ?_
 exact jg (v := .bool (decide (r<u.mn))) (c:=decide (r<u.mn)) (ρa:=eL (vS a) (vS b) (vI m) (vI k) (vI p) (.own (gS (u.row.map .int) i (.int r))) (vI r) (vI j) (vS [c]) (vI d) (vI r) (vI i) (vI sub) (vI idl))
  (ρb:=eL (vS a) (vS b) (vI m) (vI k) (vI p) (.own (gS (u.row.map .int) i (.int r))) (vI r) (vI j) (vS [c]) (vI d) (vI u.mn) (vI i) (vI sub) (vI idl)) (fa:=true) (fb:=true) ∅ ∅ rfl ∅ ∅ (by simp) ∅
theorem oX(hs:se fn)(a b:List Nat)(m k p:Int)(ha:a.length<=500)(hb:b.length<=500){μ:List Nm}{ρ0:Rho}(h0:∃row0 res0,ρ0=eL (vS a) (vS b) (vI m) (vI k) (vI p) (.own (List.map V.int row0)) (vI res0) .un .un .un .un .un .un .un):∀(bs:List Nat) (j:Nat) (row:List Int) (res:Int),b.drop j=bs->row.length=a.length ->
 (∃row',bK (λv ρ=>((aT (dl fA.body[15]?) v ρ).1&&(ex ⟨GL,fn,meth⟩ t7 μ 1000 v6 184 mu (aT (dl fA.body[15]?) v ρ).2).1,(ex ⟨GL,fn,meth⟩ t7 μ 1000 v6 184 mu (aT (dl fA.body[15]?) v ρ).2).2)) ρ0
   ((List.range' j bs.length).map λi:Nat => .int (i:Int)) (eL (vS a) (vS b) (vI m) (vI k) (vI p) (.own (row.map .int)) (vI res) .un .un .un .un .un .un .un)=(true, .next (eL (vS a) (vS b) (vI m) (vI k) (vI p) (.own (List.map V.int row')) (vI (gr a m bs j row res)) .un .un .un .un .un .un .un))) \/
 (bK (λv ρ=>((aT (dl fA.body[15]?) v ρ).1&&(ex ⟨GL,fn,meth⟩ t7 μ 1000 v6 184 mu (aT (dl fA.body[15]?) v ρ).2).1,(ex ⟨GL,fn,meth⟩ t7 μ 1000 v6 184 mu (aT (dl fA.body[15]?) v ρ).2).2)) ρ0
   ((List.range' j bs.length).map λi:Nat => .int (i:Int)) (eL (vS a) (vS b) (vI m) (vI k) (vI p) (.own (row.map .int)) (vI res) .un .un .un .un .un .un .un)=(true, .ret (.int (gr a m bs j row res))))
 |[],j,row,res,hd,hr => .inl ⟨row,rfl⟩
 |c::bs,j,row,res,hd,hr=>by
  have ca:a.length<=cap:=by unfold cap;omega
  have cb:b.length<=cap:=by unfold cap;omega
  have hj:j<b.length:=by
   rcases Nat.lt_or_ge j b.length with h|h
   ·exact h
   ·rw[List.drop_eq_nil_of_le h]at hd;injections hd
  have hc:b.getD j 0=c:=by
   have:=List.drop_eq_getElem_cons hj;rw[hd]at this
   injection this with h1 _
   rw[List.getD_eq_getElem?_getD,List.getElem?_eq_getElem hj,<-h1];rfl
  have hd':b.drop (j+1)=bs:=by
   have:=List.drop_eq_getElem_cons hj;rw[hd]at this
   injection this with _ h2
   exact h2.symm
  obtain⟨s,hsr⟩:∃s,s=eG c a ⟨row,(j:Int)*2,(j:Int)*2,AR⟩ a.length:=⟨_,rfl⟩;have hlen:s.row.length=a.length:=by rw[hsr,jQ,hr]
  have eo:gr a m (c::bs) j row res=bif decide (m<s.mn)then m+1 else gr a m bs (j+1) s.row s.res:=by rw[hsr];rfl
  have hmul:bW .Mult (.int (j:Int)) (.int 2)=(true, .int ((j:Int)*2)):=by
   show((small (j:Int)||small 2,V.int ((j:Int)*2)):R)=_;rw[show small 2=true from rfl,Bool.or_true]
  have lena:kz (.str a)=(true, .int a.length):=by
   show((decide (a.length<=cap),V.int a.length):R)=_;rw[decide_eq_true ca]
  have body:∀{res':Res},(bif decide (m<s.mn)then(true,em.ret (.int (m+1)))else(true,em.next (eL (vS a) (vS b) (vI m) (vI k) (vI p) (.own (s.row.map .int)) (vI s.res) (vI j) (vS [c]) (vI s.dist) (vI s.mn) .un .un .un)))=res' ->
   ex ⟨GL,fn,meth⟩ t7 μ 1000 v6 184 mu (eL (vS a) (vS b) (vI m) (vI k) (vI p) (.own (row.map .int)) (vI res) (vI j) .un .un .un .un .un .un)=res':=by
   intro res' h;refine bk (v := .str [c]) (aE rfl (aA ∅ (λl h=>by injections h)) ∅ (ty:=0) ∅ (by rw[<-hc];exact eE cb hj)) ∅
    (ρ':=eL (vS a) (vS b) (vI m) (vI k) (vI p) (.own (row.map .int)) (vI res) (vI j) (vS [c]) .un .un .un .un .un) ∅ ?_
   refine B1 (v := .int ((j:Int)*2)) (ev_bin nofun (x := .int (j:Int)) (y := .int 2) ∅ ∅ hmul) ∅ ∅
    (ρ':=eL (vS a) (vS b) (vI m) (vI k) (vI p) (.own (row.map .int)) (vI ((j:Int)*2)) (vI j) (vS [c]) (vI ((j:Int)*2)) .un .un .un .un) ∅ ?_
   refine bk (v := .int AR) ∅ ∅ (ρ':=eI a b m k p j c ⟨row,(j:Int)*2,(j:Int)*2,AR⟩) ∅ ?_;refine qq (ρ':=eI a b m k p j c s) (ff ∅ rfl (evL_of (ev_len ∅ (aA ∅ (λl h=>by injections h)) lena) evL_nil) (dZ (k:=a.length) ⋯)) ∅ ?_ ?_
   ·rw[hsr]
    exact v7 hs a b m k p j c ⟨row,(j:Int)*2,(j:Int)*2,AR⟩ ha hr
   ·refine dH (v := .bool (decide (m<s.mn))) (c:=decide (m<s.mn)) ∅ ∅ rfl ?_
    rw[<-h];cases decide (m<s.mn)with
    |true=>exact dk ∅
    |false=>exact aR
  rw[eo];rw[List.length_cons,List.range'_succ,List.map_cons];cases hm:decide (m<s.mn)with
  |true=>
   refine .inr (Aa (gO (ρ1:=eL (vS a) (vS b) (vI m) (vI k) (vI p) (.own (row.map .int)) (vI res) (vI j) .un .un .un .un .un .un) ∅ (body ?_)));rw[hm];rfl
  |false=>
   have nx:((aT (dl fA.body[15]?) (.int (j:Int)) (eL (vS a) (vS b) (vI m) (vI k) (vI p) (.own (row.map .int)) (vI res) .un .un .un .un .un .un .un)).1&&(ex ⟨GL,fn,meth⟩ t7 μ 1000 v6 184 mu (aT (dl fA.body[15]?) (.int (j:Int)) (eL (vS a) (vS b) (vI m) (vI k) (vI p) (.own (row.map .int)) (vI res) .un .un .un .un .un .un .un)).2).1,
    (ex ⟨GL,fn,meth⟩ t7 μ 1000 v6 184 mu (aT (dl fA.body[15]?) (.int (j:Int)) (eL (vS a) (vS b) (vI m) (vI k) (vI p) (.own (row.map .int)) (vI res) .un .un .un .un .un .un .un)).2).2)=((true,em.next (eL (vS a) (vS b) (vI m) (vI k) (vI p) (.own (s.row.map .int)) (vI s.res) (vI j) (vS [c]) (vI s.dist) (vI s.mn) .un .un .un)):Res):=
    gO (ρ1:=eL (vS a) (vS b) (vI m) (vI k) (vI p) (.own (row.map .int)) (vI res) (vI j) .un .un .un .un .un .un) ∅ (body (by rw[hm];rfl))
   obtain⟨row0,res0,rfl⟩:=h0;have mk:mask (eL (vS a) (vS b) (vI m) (vI k) (vI p) (.own (List.map V.int row0)) (vI res0) .un .un .un .un .un .un .un) (eL (vS a) (vS b) (vI m) (vI k) (vI p) (.own (s.row.map .int)) (vI s.res) (vI j) (vS [c]) (vI s.dist) (vI s.mn) .un .un .un)=eL (vS a) (vS b) (vI m) (vI k) (vI p) (.own (s.row.map .int)) (vI s.res) .un .un .un .un .un .un .un:=∅
   rcases oX hs a b m k p ha hb ⟨row0,res0,rfl⟩ bs (j+1) s.row s.res hd' hlen (μ:=μ)with⟨row',h⟩|h
   ·exact .inl ⟨row',eZ nx (by rw[mk];exact h)⟩
   ·exact .inr (eZ nx (by rw[mk];exact h))
theorem sh(hs:se fn)(a b:List Nat)(m k p:Int)(ha:a.length<=500)(hb:b.length<=500)(hab:a.length<=b.length):
 ex ⟨GL,fn,meth⟩ t7 (aC (gT 20) fA.body) 1000 v6 188 (fA.body.drop 12) (eL (vS a) (vS b) (vI m) (vI k) (vI p) .un .un .un .un .un .un .un .un .un)=(true, .ret (.int (kl a b m))):=by
 have ca:a.length<=cap:=by unfold cap;omega
 have cb:b.length<=cap:=by unfold cap;omega
 have lenv:∀{x:List Nat},x.length<=cap->kz (.str x)=(true, .int x.length):=λ{x} h=>by
  show((decide (x.length<=cap),V.int x.length):R)=_;rw[decide_eq_true h]
 have hmul:bW .Mult (.int ((b.length:Int)-a.length)) (.int 2)=(true, .int (((b.length:Int)-a.length)*2)):=by
  show((small _||small 2,V.int _):R)=_;rw[show small 2=true from rfl,Bool.or_true]
 refine dH (v := .bool (decide (m<((b.length:Int)-a.length)*2))) (c:=decide (m<((b.length:Int)-a.length)*2)) ∅
  (ev_cmp nofun (ev_bin nofun (ev_bin nofun (ev_len ∅ (aA ∅ (λl h=>by injections h)) (lenv cb)) (ev_len ∅ (aA ∅ (λl h=>by injections h)) (lenv ca)) rfl) (y := .int 2) ∅ hmul) (y := .int m) ∅ rfl) rfl ?_
 unfold kl;cases decide (m<((b.length:Int)-a.length)*2)with
 |true=>exact dk ∅
 |false=>
  simp only[cond_false];have er:((List.range' 1 a.length).map λi:Nat=>V.int ((i:Int)*2))=((List.range' 1 a.length).map λi:Nat=>(i:Int)*2).map V.int:=by rw[List.map_map];rfl
  refine bk (v := .list ((List.range' 1 a.length).map λi:Nat=>V.int ((i:Int)*2))) (qs ∅ ∅ (evL_of (x := .int 2) ∅ (evL_of (x := .int (2*((a.length:Int)+1))) (ev_bin nofun (x := .int 2) ∅ (ev_add (look_other rfl (ev_len ∅ (aA ∅ (λl h=>by injections h)) (lenv ca))) (y := .int 1) ∅ rfl) rfl) (evL_of (x := .int 2) ∅ evL_nil))) (tZ ⋯)) ∅
   (ρ':=eL (vS a) (vS b) (vI m) (vI k) (vI p) (.own ((List.range' 1 a.length).map λi:Nat=>V.int ((i:Int)*2))) .un .un .un .un .un .un .un .un) ∅ ?_
  rw[er];generalize hr0:((List.range' 1 a.length).map λi:Nat=>(i:Int)*2)=row0;have hlen:row0.length=a.length:=by rw[<-hr0];simp
  refine bk (v := .int 0) ∅ ∅ (ρ':=eL (vS a) (vS b) (vI m) (vI k) (vI p) (.own (row0.map .int)) (vI 0) .un .un .un .un .un .un .un) ∅ ?_;have hi:=λ(N:Nat)=>dZ (k:=b.length) ⋯
  rcases oX hs a b m k p ha hb ⟨row0,0,rfl⟩ b 0 row0 0 rfl hlen (fn:=fn) (meth:=meth) (μ:=aC (gT 20) fA.body)with⟨row',h⟩|h
  ·refine qq (ff ∅ rfl (evL_of (ev_len ∅ (aA ∅ (λl h=>by injections h)) (lenv cb)) evL_nil) (dZ ⋯)) ∅ h ?_
   exact dk ∅
  ·exact ml (ff ∅ rfl (evL_of (ev_len ∅ (aA ∅ (λl h=>by injections h)) (lenv cb)) evL_nil) (dZ ⋯)) ∅ h
theorem Ac(hs:se fn)(a b:List Nat)(m k p:Int)(ha:a.length<=500)(hb:b.length<=500):
 ex ⟨GL,fn,meth⟩ t7 (aC (gT 20) fA.body) 1000 v6 191 (fA.body.drop 9) (eL (vS a) (vS b) (vI m) (vI k) (vI p) .un .un .un .un .un .un .un .un .un)=(true, .ret (.int (v5 a b m))):=by
 have ca:a.length<=cap:=by unfold cap;omega
 have cb:b.length<=cap:=by unfold cap;omega
 have lenv:∀{x:List Nat},x.length<=cap->kz (.str x)=(true, .int x.length):=λ{x} h=>by
  show((decide (x.length<=cap),V.int x.length):R)=_;rw[decide_eq_true h]
 refine dH (v := .bool (a.isEmpty||b.isEmpty)) (c:=a.isEmpty||b.isEmpty) ∅ ?_ rfl ?_
 ·refine fe ?_
  cases h:a.isEmpty with
  |true=>
   refine qr (tX (x := .str a) ∅ (truthy_str ca) |>.trans (by rw[h];try rfl)) rfl
  |false=>
   refine r8 (tX (x := .str a) ∅ (truthy_str ca) |>.trans (by rw[h];try rfl)) rfl ?_;refine mm ?_;exact(tX (x := .str b) ∅ (truthy_str cb)).trans (by simp)
 unfold v5;cases hz:(a.isEmpty||b.isEmpty)with
 |true=>
  refine dk ?_;refine ev_bin nofun (x := .int 2) ∅ (ev_add (look_other rfl (ev_len ∅ (aA ∅ (λl h=>by injections h)) (lenv ca))) (ev_len ∅ (aA ∅ (λl h=>by injections h)) (lenv cb)) rfl) ?_
  rfl
 |false=>
  simp only[cond_false];have gt:∀(x y:Int),pK .Gt (.int x) (.int y)=(true,decide (y<x)):=λ_ _=>rfl
  refine dH (v := .bool (decide (40<a.length)||decide (40<b.length))) (c:=decide (40<a.length)||decide (40<b.length)) ∅ ?_ rfl ?_
  ·refine fe ?_
   have e1:∀n:Nat,decide ((40:Int)<(n:Int))=decide (40<n):=λn=>by
    by_cases h:40<n
    ·rw[decide_eq_true h,decide_eq_true ⋯]
    ·rw[decide_eq_false h,decide_eq_false ⋯]
   cases h:decide (40<a.length)with
   |true=>
    refine qr ((ev_cmp nofun (ev_len ∅ (aA ∅ (λl h=>by injections h)) (lenv ca)) (y := .int 40) ∅ (gt _ _)).trans (by rw[e1,h];try rfl)) rfl
   |false=>
    refine r8 ((ev_cmp nofun (ev_len ∅ (aA ∅ (λl h=>by injections h)) (lenv ca)) (y := .int 40) ∅ (gt _ _)).trans (by rw[e1,h];try rfl)) rfl (mm ?_);exact(ev_cmp nofun (ev_len ∅ (aA ∅ (λl h=>by injections h)) (lenv cb)) (y := .int 40) ∅ (gt _ _)).trans (by rw[e1];try rfl)
  cases hl:(decide (40<a.length)||decide (40<b.length))with
  |true=>exact dk ∅
  |false=>
   simp only[cond_false];have e2:decide ((b.length:Int)<(a.length:Int))=decide (b.length<a.length):=by
    by_cases h:b.length<a.length
    ·rw[decide_eq_true h,decide_eq_true ⋯]
    ·rw[decide_eq_false h,decide_eq_false ⋯]
   have hlt:∀{N:Nat},ev ⟨GL,fn,meth⟩ t7 39 v6 (eL (vS a) (vS b) (vI m) (vI k) (vI p) .un .un .un .un .un .un .un .un .un) (.Name "a" default)=(true, .str a)->True:=λ_=>trivial
   refine jg (v := .bool (decide (b.length<a.length))) (c:=decide (b.length<a.length)) (ρa:=eL (vS b) (vS a) (vI m) (vI k) (vI p) .un .un .un .un .un .un .un .un .un) (ρb:=eL (vS a) (vS b) (vI m) (vI k) (vI p) .un .un .un .un .un .un .un .un .un) (fa:=true) (fb:=true) ∅
    ((ev_cmp nofun (ev_len ∅ (aA ∅ (λl h=>by injections h)) (lenv cb)) (ev_len ∅ (aA ∅ (λl h=>by injections h)) (lenv ca)) (c:=decide (b.length<a.length)) (by rw[<-e2];rfl)))
    rfl ∅ ∅ (by simp) ?_
   cases hc:decide (b.length<a.length)with
   |true=>exact sh hs b a m k p hb ha (by have:=of_decide_eq_true hc;omega)
   |false=>exact sh hs a b m k p ha hb (by have:=of_decide_eq_false hc;omega)
theorem Ad(a b:List Nat)(m:Int)(ha:a.length<=500)(hb:b.length<=500)(hs:se fn):
 bY ⟨GL,fn,meth⟩ t7 1000 (dB ["a","b","max_cost"] fA) [.str a, .str b, .int m]=(true, .int (m9 a b m)):=by
 refine yl ?_ rfl;show ex _ _ _ _ _ 200 _ (eL (vS a) (vS b) (vI m) .un .un .un .un .un .un .un .un .un .un .un)=_;refine dH (v := .bool (af a b)) (c:=af a b) ∅ ∅ rfl ?_;unfold m9;cases af a b with
 |true=>exact dk ∅
 |false=>
  simp only[cond_false];refine bk (v := .int 0) ∅ ∅ (ρ':=eL (vS a) (vS b) (vI m) (vI 0) .un .un .un .un .un .un .un .un .un .un) ∅ ?_;have ca:a.length<=cap:=by unfold cap;omega
  have cb:b.length<=cap:=by unfold cap;omega
  have pl:=uV a b;refine rY (ρ':=eL (vS a) (vS b) (vI m) (vI (aH a b)) .un .un .un .un .un .un .un .un .un .un) ?_ ?_
  ·have dr:∀(s:List Nat) j,s.length<=cap->(s.drop j).length<=cap:=λs j h=>by rw[List.length_drop];omega
   refine Eq.trans (jP (λj=>eL (vS a) (vS b) (vI m) (vI j) .un .un .un .un .un .un .un .un .un .un) (aH a b) 0 1000 ?_ ?_ ⋯) (by rw[Nat.zero_add])
   ·intro j _ hj
    have hj':j<aH a b:=⋯;obtain⟨h1,h2,h3⟩:=kX a b j hj';refine⟨⟨.bool (af [a.getD j 0] [b.getD j 0]), ?_,by rw[h3];rfl⟩, ?_⟩
    ·refine gq (eK (aK ∅ ∅ rfl rfl (bH ca)) (by rw[truthy_str (dr _ _ ca),fg h1];rfl) (eK (aK ∅ ∅ rfl rfl (bH cb)) (by rw[truthy_str (dr _ _ cb),fg h2];rfl)
      (kW (ev_cmp nofun (aE rfl (aA ∅ (λl h=>by injections h)) ∅ (ty:=0) ∅ (eE ca h1)) (aE rfl (aA ∅ (λl h=>by injections h)) ∅ (ty:=0) ∅ (eE cb h2)) rfl))))
    ·exact tV ∅ aR
   ·rw[Nat.zero_add]
    by_cases h1:aH a b<a.length
    ·by_cases h2:aH a b<b.length
     ·have h3:=qx a b h1 h2
      refine⟨.bool (af [a.getD (aH a b) 0] [b.getD (aH a b) 0]), ?_,by rw[h3];rfl⟩;refine gq (eK (aK ∅ ∅ rfl rfl (bH ca)) (by rw[truthy_str (dr _ _ ca),fg h1];rfl) (eK (aK ∅ ∅ rfl rfl (bH cb)) (by rw[truthy_str (dr _ _ cb),fg h2];rfl)
       (kW (ev_cmp nofun (aE rfl (aA ∅ (λl h=>by injections h)) ∅ (ty:=0) ∅ (eE ca h1)) (aE rfl (aA ∅ (λl h=>by injections h)) ∅ (ty:=0) ∅ (eE cb h2)) rfl))))
     ·refine⟨.str (b.drop (aH a b)), ?_,by rw[truthy_str (dr _ _ cb),gP ⋯];rfl⟩
      exact gq (eK (aK ∅ ∅ rfl rfl (bH ca)) (by rw[truthy_str (dr _ _ ca),fg h1];rfl) (jh (aK ∅ ∅ rfl rfl (bH cb)) (by rw[truthy_str (dr _ _ cb),gP ⋯];rfl)))
    ·refine⟨.str (a.drop (aH a b)), ?_,by rw[truthy_str (dr _ _ ca),gP ⋯];rfl⟩
     exact gq (jh (aK ∅ ∅ rfl rfl (bH ca)) (by rw[truthy_str (dr _ _ ca),gP ⋯];rfl))
  refine bk (v := .str (a.drop (aH a b))) (aK ∅ ∅ rfl rfl (bH ca)) ∅ (ρ':=eL (vS (a.drop (aH a b))) (vS b) (vI m) (vI (aH a b)) .un .un .un .un .un .un .un .un .un .un) ∅ ?_;refine bk (v := .str (b.drop (aH a b))) (aK ∅ ∅ rfl rfl (bH cb)) ∅ (ρ':=eL (vS (a.drop (aH a b))) (vS (b.drop (aH a b))) (vI m) (vI (aH a b)) .un .un .un .un .un .un .un .un .un .un) ∅ ?_;have ca1:(a.drop (aH a b)).length<=cap:=by rw[List.length_drop];omega
  have cb1:(b.drop (aH a b)).length<=cap:=by rw[List.length_drop];omega
  have ha1:(a.drop (aH a b)).length<=500:=by rw[List.length_drop];omega
  have hb1:(b.drop (aH a b)).length<=500:=by rw[List.length_drop];omega
  generalize (aH a b:Int)=k;generalize a.drop (aH a b)=a1 at *;generalize b.drop (aH a b)=b1 at *;refine bk (v := .int 0) ∅ ∅ (ρ':=eL (vS a1) (vS b1) (vI m) (vI k) (vI 0) .un .un .un .un .un .un .un .un .un) ∅ ?_;have pl1:=uV a1.reverse b1.reverse;rw[List.length_reverse,List.length_reverse]at pl1;have ce:∀(s:List Nat) j,s.length<=cap->(aO s j).length<=cap:=λs j h=>by unfold aO;rw[List.length_take];omega
  have upto:∀(nme:Str) (s:List Nat) (ρ:Rho) (j:Nat),s.length<=cap->j<=s.length->ev ⟨GL,fn,meth⟩ t7 38 v6 ρ (.Name nme default)=(true, .str s)->True:=λ_ _ _ _ _ _ _=>trivial
  have orv:∀(j:Nat) {E:Expr->R} {e1 e2:Expr},E e1=(true, .int (-(j:Int)))->E e2=(true, .none)->mX E [e1,e2]=(true,if j=0 then .none else .int (-(j:Int))):=λj {E e1 e2} h1 h2=>by
   by_cases h:j=0
   ·rw[if_pos h]
    exact r8 h1 (by show((true, !decide (-(j:Int)=0)):Bool×Bool)=_;rw[h];rfl) (mm h2)
   ·rw[if_neg h]
    exact qr h1 (by show((true, !decide (-(j:Int)=0)):Bool×Bool)=_;rw[decide_eq_false ⋯];rfl)
  have sl:∀(s:List Nat) (j:Nat),s.length<=cap->j<=s.length->df (.str s) .none (if j=0 then .none else .int (-(j:Int))) .none=(true, .str (aO s j)):=λs j h hj=>by
   by_cases h0:j=0
   ·rw[if_pos h0,h0]
    have:aO s 0=s:=by unfold aO;simp
    rw[this];exact v0 h
   ·rw[if_neg h0];exact tY h ⋯ hj
  have neg1:∀j:Nat,(-(j:Int)-1) = -((j+1:Nat):Int):=λj=>⋯
  have rg:∀(s:List Nat) (j:Nat),j<s.length->s.reverse.getD j 0=s.getD (s.length-(j+1)) 0:=λs j h=>by
   rw[List.getD_eq_getElem?_getD,List.getD_eq_getElem?_getD,List.getElem?_reverse h]
   congr 2
   omega
  have ne1:∀(s:List Nat) (j:Nat),j<s.length->(aO s j).isEmpty=false:=λs j h=>by
   rw[List.isEmpty_eq_false_iff];intro e;have:=congrArg List.length e;unfold aO at this;rw[List.length_take]at this;simp at this;omega
  have em1:∀(s:List Nat) (j:Nat),s.length<=j->(aO s j).isEmpty=true:=λs j h=>by
   unfold aO;rw[show s.length-j=0 by omega];simp
  refine rY (ρ':=eL (vS a1) (vS b1) (vI m) (vI k) (vI (-(aH a1.reverse b1.reverse:Int))) .un .un .un .un .un .un .un .un .un) ?_ ?_
  ·refine Eq.trans (jP (λj=>eL (vS a1) (vS b1) (vI m) (vI k) (vI (-(j:Int))) .un .un .un .un .un .un .un .un .un) (aH a1.reverse b1.reverse) 0 1000 ?_ ?_ ⋯) (by rw[Nat.zero_add])
   ·intro j _ hj
    have hj':j<aH a1.reverse b1.reverse:=⋯;obtain⟨h1,h2,h3⟩:=kX _ _ j hj';rw[List.length_reverse]at h1 h2;rw[rg _ _ h1,rg _ _ h2]at h3;refine⟨⟨.bool (af [a1.getD (a1.length-(j+1)) 0] [b1.getD (b1.length-(j+1)) 0]), ?_,by rw[h3];rfl⟩, ?_⟩
    ·refine gq (eK (aK ∅ rfl (cI (fe (orv j ∅ ∅))) rfl (sl a1 j ca1 ⋯)) (by rw[truthy_str (ce _ _ ca1),ne1 _ _ h1];rfl) (eK (aK ∅ rfl (cI (fe (orv j ∅ ∅))) rfl (sl b1 j cb1 ⋯)) (by rw[truthy_str (ce _ _ cb1),ne1 _ _ h2];rfl)
      (kW (ev_cmp nofun (aE rfl (aA ∅ (λl h=>by injections h)) (Eq.trans (b:=(true, .int (-(j:Int)-1))) ∅ (by rw[neg1])) (ty:=0) ∅ (jj ca1 ⋯ ⋯))
        (aE rfl (aA ∅ (λl h=>by injections h)) (Eq.trans (b:=(true, .int (-(j:Int)-1))) ∅ (by rw[neg1])) (ty:=0) ∅ (jj cb1 ⋯ ⋯)) rfl))))
    ·refine Eq.trans (tV (ρ':=eL (vS a1) (vS b1) (vI m) (vI k) (vI (-(j:Int)-1)) .un .un .un .un .un .un .un .un .un) ∅ aR) ?_
     rw[neg1]
   ·rw[Nat.zero_add]
    generalize hq:aH a1.reverse b1.reverse=q at *
    by_cases h1:q<a1.length
    ·by_cases h2:q<b1.length
     ·have h3:=qx a1.reverse b1.reverse (by rw[hq,List.length_reverse];exact h1) (by rw[hq,List.length_reverse];exact h2)
      rw[hq,rg _ _ h1,rg _ _ h2]at h3;refine⟨.bool (af [a1.getD (a1.length-(q+1)) 0] [b1.getD (b1.length-(q+1)) 0]), ?_,by rw[h3];rfl⟩;refine gq (eK (aK ∅ rfl (cI (fe (orv q ∅ ∅))) rfl (sl a1 q ca1 ⋯)) (by rw[truthy_str (ce _ _ ca1),ne1 _ _ h1];rfl) (eK (aK ∅ rfl (cI (fe (orv q ∅ ∅))) rfl (sl b1 q cb1 ⋯)) (by rw[truthy_str (ce _ _ cb1),ne1 _ _ h2];rfl)
       (kW (ev_cmp nofun (aE rfl (aA ∅ (λl h=>by injections h)) (Eq.trans (b:=(true, .int (-(q:Int)-1))) ∅ (by rw[neg1])) (ty:=0) ∅ (jj ca1 ⋯ ⋯))
         (aE rfl (aA ∅ (λl h=>by injections h)) (Eq.trans (b:=(true, .int (-(q:Int)-1))) ∅ (by rw[neg1])) (ty:=0) ∅ (jj cb1 ⋯ ⋯)) rfl))))
     ·refine⟨.str (aO b1 q), ?_,by rw[truthy_str (ce _ _ cb1),em1 _ _ ⋯];rfl⟩
      exact gq (eK (aK ∅ rfl (cI (fe (orv q ∅ ∅))) rfl (sl a1 q ca1 ⋯)) (by rw[truthy_str (ce _ _ ca1),ne1 _ _ h1];rfl) (jh (aK ∅ rfl (cI (fe (orv q ∅ ∅))) rfl (sl b1 q cb1 ⋯)) (by rw[truthy_str (ce _ _ cb1),em1 _ _ ⋯];rfl)))
    ·refine⟨.str (aO a1 q), ?_,by rw[truthy_str (ce _ _ ca1),em1 _ _ ⋯];rfl⟩
     exact gq (jh (aK ∅ rfl (cI (fe (orv q ∅ ∅))) rfl (sl a1 q ca1 ⋯)) (by rw[truthy_str (ce _ _ ca1),em1 _ _ ⋯];rfl))
  refine bk (v := .str (aO a1 (aH a1.reverse b1.reverse))) (aK ∅ rfl (cI (fe (orv _ ∅ ∅))) rfl (sl a1 _ ca1 ⋯)) ∅ (ρ':=eL (vS (aO a1 (aH a1.reverse b1.reverse))) (vS b1) (vI m) (vI k) (vI (-(aH a1.reverse b1.reverse:Int))) .un .un .un .un .un .un .un .un .un) ∅ ?_;refine bk (v := .str (aO b1 (aH a1.reverse b1.reverse))) (aK ∅ rfl (cI (fe (orv _ ∅ ∅))) rfl (sl b1 _ cb1 ⋯)) ∅ (ρ':=eL (vS (aO a1 (aH a1.reverse b1.reverse))) (vS (aO b1 (aH a1.reverse b1.reverse))) (vI m) (vI k) (vI (-(aH a1.reverse b1.reverse:Int))) .un .un .un .un .un .un .un .un .un) ∅ ?_;have la:(aO a1 (aH a1.reverse b1.reverse)).length<=500:=by unfold aO;rw[List.length_take];omega
  have lb:(aO b1 (aH a1.reverse b1.reverse)).length<=500:=by unfold aO;rw[List.length_take];omega
  show _=((true,em.ret (.int (v5 (aO a1 (aH a1.reverse b1.reverse)) (aO b1 (aH a1.reverse b1.reverse)) m))):Res);exact Ac hs _ _ m _ _ la lb
end
end
section
open PySem PySem.W PySem.Challenge
structure WS where
 n:Nat
 nt:Nat
 cnt:List Int
 b:Nat
noncomputable def mw(s:WS):WS:=
 let c:=bif decide (s.cnt.length<=s.b)then s.cnt++List.replicate (s.b+1-s.cnt.length) 0 else s.cnt
 ⟨s.n+1,s.nt+1,c.set s.b (c.getD s.b 0+1),0⟩
noncomputable def mx:List Nat->WS->WS
 |[],s=>s
 |c::l,s=>bif af [c] [32]then mx l ⟨s.n+1,s.nt,s.cnt,s.b+1⟩else bif af [c] [9]then mx l (mw s)else s
section
noncomputable abbrev Ae:List (Str×NameKind):=eF.scope.names
noncomputable abbrev Af:Tau:=[(nm "count",1)]
noncomputable def nc:Fns:=⟨GL,[],[]⟩
noncomputable def eW(self ws S T count b n nt ch:Mine.Slot):Rho:=[(nm "self",self),(nm "ws",ws),(nm "S",S),(nm "T",T),(nm "count",count),(nm "b",b),(nm "n",n),(nm "nt",nt),(nm "ch",ch)]
noncomputable def qF(x:Nat)(raw:List Nat)(s:WS)(ch:Mine.Slot):Rho:=eW (.val (.obj x raw)) (vS raw) (vS [32]) (vS [9]) (.own (s.cnt.map .int)) (vI s.b) (vI s.n) (vI s.nt) ch
noncomputable abbrev B3:List Stmt:=jk eF.body[4]?
noncomputable abbrev DR:Expr:=dl eF.body[4]?
theorem oY(k:Int):ei [V.int 0] k=(List.replicate k.toNat (0:Int)).map V.int:=by
 unfold ei
 induction k.toNat with
 |zero=>rfl
 |succ n ih=>rw[List.replicate_succ,List.flatten_cons,ih,List.replicate_succ];rfl
theorem B4{μ:List Nm}(hμ:iM (nm "count") μ=true)(x:Nat)(raw:List Nat)(s:WS)(c:Nat)(h32:af [c] [32]=false)(h9:af [c] [9]=true)(hb:s.b<=400)(hc:s.cnt.length<=401):
 ex nc Af μ 1000 Ae 195 B3 (qF x raw s (vS [c]))=(true, .next (qF x raw (mw s) (vS [c]))):=by
 obtain⟨n,nt,cnt,b⟩:=s;dsimp only at hb hc;have cc:cnt.length<=cap:=by unfold cap;omega
 refine dH (v := .bool (af [c] [32])) (c:=af [c] [32]) ∅ ∅ rfl ?_;rw[h32];refine dH (v := .bool (af [c] [9])) (c:=af [c] [9]) ∅ ∅ rfl ?_;rw[h9];refine bk (v := .int ((n:Int)+1)) ∅ ∅ (ρ':=eW (.val (.obj x raw)) (vS raw) (vS [32]) (vS [9]) (.own (cnt.map .int)) (vI b) (vI ((n:Int)+1)) (vI nt) (vS [c])) ∅ ?_;refine bk (v := .int ((nt:Int)+1)) ∅ ∅ (ρ':=eW (.val (.obj x raw)) (vS raw) (vS [32]) (vS [9]) (.own (cnt.map .int)) (vI b) (vI ((n:Int)+1)) (vI ((nt:Int)+1)) (vS [c])) ∅ ?_;have hl:((cnt.map V.int).length:Int)=(cnt.length:Int):=by rw[List.length_map]
 have hl':(cnt.map V.int).length<=cap:=by rw[List.length_map];exact cc
 have lenv:kz (.list (cnt.map .int))=(true, .int cnt.length):=by
  show((decide ((cnt.map V.int).length<=cap),V.int (cnt.map V.int).length):R)=_;rw[decide_eq_true hl',hl]
 have hd:decide ((cnt.length:Int)<=(b:Int))=decide (cnt.length<=b):=by
  by_cases h:cnt.length<=b
  ·rw[decide_eq_true h,decide_eq_true ⋯]
  ·rw[decide_eq_false h,decide_eq_false ⋯]
 have hmul:bW .Mult (.list [.int 0]) (.int ((b:Int)-cnt.length+1))=(true, .list (ei [.int 0] ((b:Int)-cnt.length+1))):=by
  show((decide (-1000<=(b:Int)-cnt.length+1)&&decide ((b:Int)-cnt.length+1<=1000)&&decide (1<=1000),V.list _):R)=_;rw[decide_eq_true (show -1000<=(b:Int)-cnt.length+1 by omega),decide_eq_true (show(b:Int)-cnt.length+1<=1000 by omega)]
  rfl
 have hrl:(ei [V.int 0] ((b:Int)-cnt.length+1)).length<=402:=by rw[oY];simp;omega
 have hadd:bW .Add (.list (cnt.map .int)) (.list (ei [.int 0] ((b:Int)-cnt.length+1)))=(true, .list (cnt.map .int++ei [.int 0] ((b:Int)-cnt.length+1))):=by
  show((decide ((cnt.map V.int).length+(ei [V.int 0] ((b:Int)-cnt.length+1)).length<=cap),V.list _):R)=_;rw[decide_eq_true (by rw[List.length_map];unfold cap;omega)]
 obtain⟨c',hc'⟩:∃c',c'=bif decide (cnt.length<=b)then cnt++List.replicate (b+1-cnt.length) 0 else cnt:=⟨_,rfl⟩
 have hset:mw ⟨n,nt,cnt,b⟩=⟨n+1,nt+1,c'.set b (c'.getD b 0+1),0⟩:=by rw[hc'];rfl
 have e1:cnt.map V.int++ei [V.int 0] ((b:Int)-cnt.length+1)=(cnt++List.replicate ((b:Int)-cnt.length+1).toNat 0).map V.int:=by rw[oY,List.map_append]
 have blt:b<c'.length:=by
  rw[hc'];cases h:decide (cnt.length<=b)with
  |true=>simp;omega
  |false=>have:=of_decide_eq_false h;simp;omega
 have clen:c'.length<=900:=by
  rw[hc'];cases h:decide (cnt.length<=b)with
  |true=>simp;omega
  |false=>simp;omega
 refine jg (v := .bool (decide ((cnt.length:Int)<=(b:Int)))) (c:=decide (cnt.length<=b)) (ρa:=eW (.val (.obj x raw)) (vS raw) (vS [32]) (vS [9]) (.own (cnt.map .int++ei [.int 0] ((b:Int)-cnt.length+1))) (vI b) (vI ((n:Int)+1)) (vI ((nt:Int)+1)) (vS [c]))
  (ρb:=eW (.val (.obj x raw)) (vS raw) (vS [32]) (vS [9]) (.own (cnt.map .int)) (vI b) (vI ((n:Int)+1)) (vI ((nt:Int)+1)) (vS [c])) (fa:=true) (fb:=true) ∅
  (ev_cmp nofun (x := .int (b:Int)) ∅ (ev_len ∅ (fc (l:=cnt.map .int) ∅ ∅) lenv) rfl) (by rw[hd];rfl) ?_ ∅ (by simp) ?_
 ·refine bk (v := .list (cnt.map .int++ei [.int 0] ((b:Int)-cnt.length+1))) (ev_add (fc (l:=cnt.map .int) ∅ ∅) (ev_bin nofun (x := .list [.int 0]) ∅
   (ev_add (look_other rfl (ev_bin nofun (x := .int (b:Int)) ∅ (ev_len ∅ (fc (l:=cnt.map .int) ∅ ∅) lenv) rfl)) (y := .int 1) ∅ rfl) hmul) hadd) ∅ ?_ aR
  show put _ (nm "count") (bif iM (nm "count") μ&&true then _ else _)=_;rw[hμ]
  kernel_rfl
 ·have hm:∀y:List V,y=c'.map V.int->ex nc Af μ 1000 Ae 190 (B3.drop 0) (eW (.val (.obj x raw)) (vS raw) (vS [32]) (vS [9]) (.own y) (vI b) (vI ((n:Int)+1)) (vI ((nt:Int)+1)) (vS [c]))=ex nc Af μ 1000 Ae 190 (B3.drop 0) (eW (.val (.obj x raw)) (vS raw) (vS [32]) (vS [9]) (.own (c'.map V.int)) (vI b) (vI ((n:Int)+1)) (vI ((nt:Int)+1)) (vS [c])):=λy h=>by rw[h]
  have mg:∀(ns:List Nm),ns=[nm "count"]->et ns (decide (cnt.length<=b)) (eW (.val (.obj x raw)) (vS raw) (vS [32]) (vS [9]) (.own (cnt.map .int++ei [.int 0] ((b:Int)-cnt.length+1))) (vI b) (vI ((n:Int)+1)) (vI ((nt:Int)+1)) (vS [c]))
   (eW (.val (.obj x raw)) (vS raw) (vS [32]) (vS [9]) (.own (cnt.map .int)) (vI b) (vI ((n:Int)+1)) (vI ((nt:Int)+1)) (vS [c]))=eW (.val (.obj x raw)) (vS raw) (vS [32]) (vS [9]) (.own (c'.map .int)) (vI b) (vI ((n:Int)+1)) (vI ((nt:Int)+1)) (vS [c]):=λns h=>by
   rw[h,hc',e1];cases hcc:decide (cnt.length<=b)with
   |true=>
    have:cnt.length<=b:=of_decide_eq_true hcc;have e3:((b:Int)-cnt.length+1).toNat=b+1-cnt.length:=⋯;rw[e3];kernel_rfl
   |false=>kernel_rfl
  rw[mg _ ∅];have hlt:b<(c'.map V.int).length:=by rw[List.length_map];exact blt
  have hlc:(c'.map V.int).length<=cap:=by rw[List.length_map];unfold cap;omega
  refine iE (l:=c'.map .int) (j:=b) (v := .int (c'.getD b 0+1)) ∅ ∅ (ev_add (look_other rfl (aE rfl (fc (l:=c'.map .int) ∅ ∅) (y := .int (b:Int)) ∅ (ty:=1) ∅ (sub_int hlc hlt (mr blt)))) (y := .int 1) ∅ rfl)
   ∅ hlt hlc (ρ':=eW (.val (.obj x raw)) (vS raw) (vS [32]) (vS [9]) (.own (gS (c'.map .int) b (.int (c'.getD b 0+1)))) (vI b) (vI ((n:Int)+1)) (vI ((nt:Int)+1)) (vS [c])) ∅ ?_
  refine bk (v := .int 0) ∅ ∅ (ρ':=qF x raw (mw ⟨n,nt,cnt,b⟩) (vS [c])) ?_ aR;rw[hset];unfold qF;dsimp only;rw[<-sg]
  kernel_rfl
theorem Dk{μ:List Nm}(x:Nat)(raw:List Nat)(s:WS)(c:Nat)(h32:af [c] [32]=true):ex nc Af μ 1000 Ae 195 B3 (qF x raw s (vS [c]))=(true, .next (qF x raw ⟨s.n+1,s.nt,s.cnt,s.b+1⟩ (vS [c]))):=by
 obtain⟨n,nt,cnt,b⟩:=s;refine dH (v := .bool (af [c] [32])) (c:=af [c] [32]) ∅ ∅ rfl ?_;rw[h32];refine bk (v := .int ((n:Int)+1)) ∅ ∅ (ρ':=eW (.val (.obj x raw)) (vS raw) (vS [32]) (vS [9]) (.own (cnt.map .int)) (vI b) (vI ((n:Int)+1)) (vI nt) (vS [c])) ∅ ?_;exact bk (v := .int ((b:Int)+1)) ∅ ∅ (ρ':=eW (.val (.obj x raw)) (vS raw) (vS [32]) (vS [9]) (.own (cnt.map .int)) (vI ((b:Int)+1)) (vI ((n:Int)+1)) (vI nt) (vS [c])) ∅ aR
theorem B5{μ:List Nm}(x:Nat)(raw:List Nat)(s:WS)(c:Nat)(h32:af [c] [32]=false)(h9:af [c] [9]=false):ex nc Af μ 1000 Ae 195 B3 (qF x raw s (vS [c]))=(true, .brk (qF x raw s (vS [c]))):=by
 refine dH (v := .bool (af [c] [32])) (c:=af [c] [32]) ∅ ∅ rfl ?_;rw[h32];refine dH (v := .bool (af [c] [9])) (c:=af [c] [9]) ∅ ∅ rfl ?_;rw[h9]
 rfl
theorem oZ{s:WS}(h:s.cnt.length<=401)(hb:s.b<=400):(mw s).cnt.length<=401:=by
 unfold mw;simp only[List.length_set];cases h2:decide (s.cnt.length<=s.b)with
 |true=>simp;omega
 |false=>simpa using h
theorem qy{μ:List Nm}(hμ:iM (nm "count") μ=true)(x:Nat)(raw:List Nat){s0:WS}:∀(l:List Nat) (s:WS),s.b+l.length<=400->s.cnt.length<=401 ->
 bK (λv ρ=>((aT DR v ρ).1&&(ex nc Af μ 1000 Ae 195 B3 (aT DR v ρ).2).1,(ex nc Af μ 1000 Ae 195 B3 (aT DR v ρ).2).2)) (qF x raw s0 .un) (nv l) (qF x raw s .un)=(true, .next (qF x raw (mx l s) .un))
 |[],s,_,_=>rfl
 |c::l,s,hb,hc=>by
  rw[List.length_cons]at hb;have mk:∀u:WS,mask (qF x raw s0 .un) (qF x raw u (vS [c]))=qF x raw u .un:=λu=>∅
  have tg:aT DR (.str [c]) (qF x raw s .un)=(true,qF x raw s (vS [c])):=∅;show bK _ _ (V.str [c]::nv l) _=_;unfold mx;cases h32:af [c] [32]with
  |true=>
   refine eZ (gO tg (Dk x raw s c h32)) ?_;rw[mk];exact qy hμ x raw l ⟨s.n+1,s.nt,s.cnt,s.b+1⟩ (by show s.b+1+l.length<=400;omega) hc
  |false=>
   cases h9:af [c] [9]with
   |true=>
    refine eZ (gO tg (B4 hμ x raw s c h32 h9 ⋯ hc)) ?_;rw[mk];exact qy hμ x raw l (mw s) (by show 0+l.length<=400;omega) (oZ hc ⋯)
   |false=>
    refine(z9 (gO tg (B5 x raw s c h32 h9))).trans ?_;rw[mk];rfl
noncomputable abbrev AS:List Stmt:=(eF.body.drop 1).take 4
theorem B6(x:Nat)(raw:List Nat)(hr:raw.length<=400):ex nc Af (aC (gT 20) eF.body) 1000 Ae 200 AS (bX Ae [(nm "self", .obj x raw),(nm "ws", .str raw)])=(true, .next (qF x raw (mx raw ⟨0,0,[],0⟩) .un)):=by
 have cr:raw.length<=cap:=by unfold cap;omega
 refine cO (ρ':=eW (.val (.obj x raw)) (vS raw) (vS [32]) (vS [9]) .un .un .un .un .un) ∅ ?_;refine bk (v := .list []) ∅ ∅ (ρ':=eW (.val (.obj x raw)) (vS raw) (vS [32]) (vS [9]) (.own []) .un .un .un .un) ∅ ?_;refine cO (ρ':=qF x raw ⟨0,0,[],0⟩ .un) ∅ ?_;refine qq (sd (by rfl) (v := .str raw) ∅ (xs:=nv raw) (by show((decide (raw.length<=cap),nv raw):Bool×List V)=_;rw[decide_eq_true cr]) (.inl rfl)) ∅ ?_ aR;have:=qy (μ:=aC (gT 20) eF.body) (s0:=⟨0,0,[],0⟩) ∅ x raw raw ⟨0,0,[],0⟩ (by simpa using hr) (by simp);exact this
noncomputable def Ag:Stmt->List Pos
 | .Assign [.Attribute (.Name _ a) _ b] _ c=>[a,b,c]
 |_=>[]
noncomputable def qz(s:Option Stmt):Expr:=match s with
 |some (.Assign _ e _)=>e
 |_ => .Name "" default
noncomputable def runW:WsRun:=λraw=>(decide (raw.length<=400),(mx raw ⟨0,0,[],0⟩).n,(mx raw ⟨0,0,[],0⟩).nt,(mx raw ⟨0,0,[],0⟩).cnt,(mx raw ⟨0,0,[],0⟩).b)
theorem my:∀(l:List Nat) (s:WS),s.b+l.length<=400->s.cnt.length<=401->(mx l s).cnt.length<=401
 |[],s,_,h=>h
 |c::l,s,hb,h=>by
  rw[List.length_cons]at hb;unfold mx;cases af [c] [32]with
  |true=>exact my l _ (by show s.b+1+l.length<=400;omega) h
  |false=>
   cases af [c] [9]with
   |true=>exact my l _ (by show 0+l.length<=400;omega) (oZ h ⋯)
   |false=>exact h
theorem Ah:qk nc Af 1000 (dB ["self","ws"] eF) runW:=by
 refine⟨_,_,_,_,AS,λi=>((eF.body.drop 5).flatMap Ag).getD i default,qz eF.body[5]?,qz eF.body[6]?,qz eF.body[7]?,qz eF.body[8]?,rfl,∅,∅,List.forall_mem_cons.mpr ⟨∅,List.forall_mem_cons.mpr ⟨∅,List.forall_mem_cons.mpr ⟨∅,List.forall_mem_cons.mpr ⟨∅,λ_ h=>nomatch h⟩⟩⟩⟩,rfl,rfl,rfl,rfl,rfl,λx raw h => ?_,λraw h n nt cnt b e => ?_⟩
 ·have hr:raw.length<=400:=of_decide_eq_true h
  refine⟨_,aC (gT 20) eF.body,B6 x raw hr,∅,∅,∅,∅,∅⟩
 ·have hr:raw.length<=400:=of_decide_eq_true h
  have hl:cnt.length<=401:=by
   have:=my raw ⟨0,0,[],0⟩ (by simpa using hr) (by simp);unfold runW at e;simp only[Prod.mk.injEq]at e;rw[<-e.2.2.2.1];exact this
  have hl':(cnt.map V.int).length<=cap:=by rw[List.length_map];unfold cap;omega
  refine⟨∅,∅, ?_, ?_⟩
  ·refine r9 (evL_of (x := .tup (cnt.map .int)) (ev_call ∅ ∅ ∅ (evL_of (x := .list (cnt.map .int)) ∅ evL_nil) (bL rfl ?_)) (evL_of (x := .int b) ∅ evL_nil)) (by simp[cap])
   show((decide ((cnt.map V.int).length<=cap),V.tup (cnt.map V.int)):R)=_;rw[decide_eq_true hl']
  ·have:(decide (((cnt.map V.int).length:Int)<=1))=decide (cnt.length<=1):=by
    rw[List.length_map]
    by_cases h:cnt.length<=1
    ·rw[decide_eq_true h,decide_eq_true ⋯]
    ·rw[decide_eq_false h,decide_eq_false ⋯]
   rw[<-this];refine ev_cmp nofun (x := .int ((cnt.map V.int).length:Int)) (y := .int 1) (ev_len ∅ (aA (v := .list (cnt.map .int)) ∅ (λl h=>by injections h)) ?_) ∅ rfl;show((decide ((cnt.map V.int).length<=cap),V.int ((cnt.map V.int).length:Int)):R)=_;rw[decide_eq_true hl']
end
end
section
open PySem PySem.W PySem.Challenge
theorem Dl:Dd nc (dB ["code"] EK) where
 body:=⟨_,_,_,_,nm "code",rfl,rfl,λc=>ev_call ∅ ∅ ∅ (evL_of (x := .str [c]) ∅ evL_nil) (bL rfl ∅)⟩
 glob:=∅
noncomputable abbrev mz:List Stmt:=DQ.body.drop 1
theorem Dm:Df nc (dB ["code"] DQ) (nm "code") mz where
 params:=rfl
 body:=⟨_,_,_,_,_,_,rfl,rfl,λc=>ev_call ∅ ∅ ∅ (evL_of (x := .str [c]) ∅ evL_nil) (bL rfl ∅),rfl,λe p h=>by cases h⟩
 glob:=∅
 loc:=∅
noncomputable abbrev v8:List (Str×NameKind):=DQ.scope.names
noncomputable def d0(L:List (Int×Str))(c:Nat):List Nat:=match L.lookup (c:Int)with
 |some y=>nm y
 |none=>bR [c]
theorem B7(L:List (Int×Str))(c:Nat):Ep nc 1000 L v8 (nm "code") mz [.str [c]]=(true, .str (d0 L c)):=by
 show iR (ex nc [] [] 1000 v8 200 mz (put (bX v8 [(nm "code", .str [c])]) (nm "r") (.val (wx L c))))=_;have e:ex nc [] [] 1000 v8 200 mz (put (bX v8 [(nm "code", .str [c])]) (nm "r") (.val (wx L c)))=(true, .ret (.str (d0 L c))):=by
  unfold wx d0;cases L.lookup (c:Int)with
  |some y=>
   refine dH (v := .bool true) (c:=true) ∅ ∅ rfl ?_;exact dk ∅
  |none=>
   refine dH (v := .bool false) (c:=false) ∅ ∅ rfl ?_;exact dk ∅
 rw[e];rfl
theorem ym:EG nc (dB ["data"] yj) where
 body:=⟨nm "data",_,_,_,_,_,_,_,_,_,_,rfl,rfl,rfl,rfl,λs=>⟨∅,∅,∅⟩⟩
 glob1:=∅
 glob2:=∅
noncomputable def fSub:List V->R:=bY nc [] 1000 (dB ["ch_a","ch_b"] B2)
noncomputable def Dn:Fns:=⟨GL,[(nm "_substitution_cost",fSub)],[]⟩
noncomputable def fLev:List V->R:=bY Dn t7 1000 (dB ["a","b","max_cost"] fA)
theorem yn(a b:List Nat)(m:Int)(ha:a.length<=500)(hb:b.length<=500):fLev [.str a, .str b, .int m]=(true, .int (m9 a b m)):=
 Ad a b m ha hb ⟨λx y=>⟨fSub,rfl,Ab x y⟩,rfl⟩
end
section
open PySem PySem.W PySem.Calls PyProof.Rows PySem.Challenge
noncomputable abbrev GW(w:World)(h:Heap):Cfg:=⟨PW,w,100,h⟩
section
variable {w:World} {h:Heap}
noncomputable abbrev mA(h:Heap):Prop:=cP (eQ PW) 140 rowsL h
theorem bm(B:mA h){i:Nat}{x:Addr×Obj}(e:(eQ PW).objs[i]? = some x):∃o,h.get? x.1=some o/\fj o=x.2:=B.objs x (List.mem_of_getElem? e)
theorem cZ(B:mA h){i:Nat}{x:Addr×Str}(e:(eQ PW).codes[i]? = some x):h.CodeRec (.ref x.1) x.2:=B.codes x (List.mem_of_getElem? e)
theorem B8(B:mA h):cN (GW w h) 55 (dB ["self","ws"] eF):=cq (c:=54) (q:="Whitespace.__init__") (bm B (i:=1) rfl) (cZ B (i:=1) rfl) (λpm doc=>rW λu0 u1=>∅) ∅
theorem B9(B:mA h):∃o fd,h.get? 55=some o/\o.cls = .type "function"/\o.data = .func fd:=by
 obtain⟨o,e1,e2⟩:=bm B (i:=1) rfl;obtain⟨pm,doc,e3,e4⟩:=bP e2;exact⟨o,_,e1,e3,e4⟩
theorem yo(B:mA h):cN (GW w h) 69 (dB ["self","tabsize"] qv):=cq (c:=68) (q:="Whitespace.indent_level") (bm B (i:=3) rfl) (cZ B (i:=3) rfl) (λpm doc=>rW λu0 u1=>∅) ∅
theorem yp(B:mA h):∃o fd,h.get? 69=some o/\o.cls = .type "function"/\o.data = .func fd:=by
 obtain⟨o,e1,e2⟩:=bm B (i:=3) rfl;obtain⟨pm,doc,e3,e4⟩:=bP e2;exact⟨o,_,e1,e3,e4⟩
theorem Ai(B:mA h):cN (GW w h) 121 (dB ["data"] yj):=cq (c:=120) (q:="quotedata") (bm B (i:=8) rfl) (cZ B (i:=8) rfl) (λpm doc=>oW λu0=>∅) ∅
theorem Et(B:mA h):cN (GW w h) 139 (dB ["code"] EK):=cq (c:=138) (q:="in_table_b1") (bm B (i:=9) rfl) (cZ B (i:=9) rfl) (λpm doc=>oW λu0=>∅) ∅
theorem Eu(B:mA h):cN (GW w h) 185 (dB ["code"] DQ):=cq (c:=184) (q:="map_table_b3") (bm B (i:=10) rfl) (cZ B (i:=10) rfl) (λpm doc=>oW λu0=>∅) ∅
theorem Do(B:mA h):cN (GW w h) 192 (dB ["ch_a","ch_b"] B2):=cq (c:=191) (q:="_substitution_cost") (bm B (i:=11) rfl) (cZ B (i:=11) rfl) (λpm doc=>rW λu0 u1=>∅) ∅
theorem Dp(B:mA h):cN (GW w h) 199 (dB ["a","b","max_cost"] fA):=cq (c:=198) (q:="_levenshtein_distance") (bm B (i:=12) rfl) (cZ B (i:=12) rfl) (λpm doc=>AQ λu0 u1 u2=>∅) ∅
theorem Aj(B:mA h):cN (GW w h) 204 (dB ["p","q"] yk):=cq (c:=203) (q:="_law_stops") (bm B (i:=13) rfl) (cZ B (i:=13) rfl) (λpm doc=>rW λu0 u1=>∅) ∅
theorem DS(B:mA h):∃o fd,h.get? 204=some o/\o.cls = .type "function"/\o.data = .func fd:=by
 obtain⟨o,e1,e2⟩:=bm B (i:=13) rfl;obtain⟨pm,doc,e3,e4⟩:=bP e2;exact⟨o,_,e1,e3,e4⟩
theorem Ak(B:mA h):cN (GW w h) 211 (dB ["p","q","stops","numbers"] qw):=cq (c:=210) (q:="_law_typed") (bm B (i:=14) rfl) (cZ B (i:=14) rfl) (λpm doc=>Dh λu0 u1 u2 u3=>∅) ∅
theorem DT(B:mA h):∃o fd,h.get? 211=some o/\o.cls = .type "function"/\o.data = .func fd:=by
 obtain⟨o,e1,e2⟩:=bm B (i:=14) rfl;obtain⟨pm,doc,e3,e4⟩:=bP e2;exact⟨o,_,e1,e3,e4⟩
theorem t8(B:mA h):cN (GW w h) 218 (dB ["text"] jO):=cq (c:=217) (q:="_law_prepared") (bm B (i:=15) rfl) (cZ B (i:=15) rfl) (λpm doc=>oW λu0=>∅) ∅
theorem Ca(B:mA h):∃o fd,h.get? 218=some o/\o.cls = .type "function"/\o.data = .func fd:=by
 obtain⟨o,e1,e2⟩:=bm B (i:=15) rfl;obtain⟨pm,doc,e3,e4⟩:=bP e2;exact⟨o,_,e1,e3,e4⟩
theorem Dq(B:mA h):cN (GW w h) 223 (dB ["script"] fM):=cq (c:=222) (q:="law") (bm B (i:=16) rfl) (cZ B (i:=16) rfl) (λpm doc=>oW λu0=>∅) ∅
structure yq(mg mN:Str->Option Value):Prop where
 g:∀e∈(eQ PW).globals,(mg e.1).map strip=e.2
 n:∀e∈(match(eQ PW).nss with|x::_=>x.2|[]=>[]),(mN e.1).map strip=e.2
theorem d4{mg mb:Str->Option Value}{f:Str}{u:Value}(h:bootBuiltins f=some u)(h1:mg f=none)(h2:mb f=some u):∀v,bootBuiltins f=some v->mg f=none/\mb f=some v:=λv e=>⟨h1,h2.trans (h.symm.trans e)⟩
theorem Am(B:mA h):∃mN mg mb,gU (GW w h) 99 mN mg mb/\yq mg mN:=by
 obtain⟨mg,hg,eg⟩:=B.globals;obtain⟨mb,hb,eb⟩:=B.builtins;obtain⟨ms,hs,es⟩:=B.statics;obtain⟨mN,hN,eN⟩:=B.nss _ (List.mem_of_getElem? (i:=0) rfl);obtain⟨o,ho,eo⟩:=bm B (i:=17) rfl;obtain⟨k0,k1,k2,k3,k5,rfl⟩:=qm eo;refine⟨mN,mg,mb,⟨⟨⟨_,_,_,_,_,_,_,_,_,_,_,_,ho⟩,hN⟩,aD (said eN (n:="__getattribute__") ∅),aD (said eN (n:="__getattr__") ∅),aD (said eN (n:="__setattr__") ∅),λx hx => ?_,λx hx => ?_,hg,hb,λf v hf hv => ?_,⟨ms,hs,aD (said es (n:="sys.recursionlimit") ∅)⟩,
  iC (said eN (n:="S") ∅),iC (said eN (n:="T") ∅),⟨ms,hs,aD (said es (n:="thirdparty.any") ∅)⟩⟩,⟨eg,eN⟩⟩
 ·simp only[bG,List.mem_cons,List.not_mem_nil,or_false]at hx
  rcases hx with rfl|rfl|rfl|rfl|rfl<;>exact aD (said eN ∅)
 ·simp only[bG,List.mem_cons,List.not_mem_nil,or_false]at hx
  rcases hx with rfl|rfl|rfl|rfl|rfl<;>(rw[typeLookup_type,builtinLookup_eq_fast];kernel_rfl)
 ·exact(List.forall_mem_cons.mpr ⟨d4 (u := .builtin "len") ∅ (aD (said eg ∅)) (dY (said eb ∅)),List.forall_mem_cons.mpr ⟨d4 (u := .builtin "ord") ∅ (aD (said eg ∅)) (dY (said eb ∅)),List.forall_mem_cons.mpr ⟨d4 (u := .builtin "chr") ∅ (aD (said eg ∅)) (dY (said eb ∅)),List.forall_mem_cons.mpr ⟨d4 (u := .builtin "min") ∅ (aD (said eg ∅)) (dY (said eb ∅)),List.forall_mem_cons.mpr ⟨d4 (u := .builtin "max") ∅ (aD (said eg ∅)) (dY (said eb ∅)),List.forall_mem_cons.mpr ⟨d4 (u := .builtin "sum") ∅ (aD (said eg ∅)) (dY (said eb ∅)),List.forall_mem_cons.mpr ⟨d4 (u := .builtin "sorted") ∅ (aD (said eg ∅)) (dY (said eb ∅)),List.forall_mem_cons.mpr ⟨d4 (u := .type "list") ∅ (aD (said eg ∅)) (je (said eb ∅)),List.forall_mem_cons.mpr ⟨d4 (u := .type "tuple") ∅ (aD (said eg ∅)) (je (said eb ∅)),List.forall_mem_cons.mpr ⟨d4 (u := .type "range") ∅ (aD (said eg ∅)) (je (said eb ∅)),List.forall_mem_cons.mpr ⟨d4 (u := .type "enumerate") ∅ (aD (said eg ∅)) (je (said eb ∅)),λ_ h=>nomatch h⟩⟩⟩⟩⟩⟩⟩⟩⟩⟩⟩:∀f∈(["len","ord","chr","min","max","sum","sorted","list","tuple","range","enumerate"]:List Str),∀v,bootBuiltins f=some v->mg f=none/\mb f=some v) f hf v hv
noncomputable def An(x:Option (Addr×Obj)):List (Int×Value):=match x with
 |some (_,⟨_,_, .set es _ _,_⟩)=>es.toList
 |_=>[]
noncomputable def fK:List (Int×Value):=An ((eQ PW).objs[22]?)
theorem Cb(B:mA h):h.SetOf (intKind PW w) 129 (kI fK) fK.length:=qo (L:=fK) (bm B (i:=22) rfl) ∅ ∅ (by decide +kernel)
theorem Ao(B:mA h):eD h 109 code1:=jf (bm B (i:=18) rfl) (bm B (i:=20) rfl) rfl rfl rfl ∅
theorem Ap(B:mA h):eD h 114 code2:=jf (bm B (i:=19) rfl) (bm B (i:=21) rfl) rfl rfl rfl ∅
end
end
section
open PySem PySem.W
noncomputable def kY(κ:List (Str×NameKind)):List Nm:=κ.filterMap λ(x,k)=>bif ae (some k)then some (nm x)else none
noncomputable def aj:List Nm->List Mine.Slot->Rho
 |x::ns,s::ss=>(x,s)::aj ns ss
 |_,_=>[]
noncomputable def Cc:List Nm->Nm->Nat
 |[],_=>0
 |y::r,x=>bif af x y then 0 else Cc r x+1
theorem pd:∀{ns:List Nm} {ss:List Mine.Slot} {x:Nm} {i:Nat} {s:Mine.Slot},Cc ns x=i->ss[i]? = some s->i<ns.length->lk (aj ns ss) x=s
 |[],_,_,_,_,_,_,h=>absurd h (Nat.not_lt_zero _)
 |y::ns,[],_,_,_,_,h,_=>by simp at h
 |y::ns,t::ss,x,i,s,h1,h2,h3=>by
  show(bif af x y then t else lk (aj ns ss) x)=s;have h1:(bif af x y then 0 else Cc ns x+1)=i:=h1;cases e:af x y with
  |true=>rw[e]at h1;subst h1;simpa using h2
  |false=>
   rw[e]at h1;subst h1;exact pd rfl (by simpa using h2) (by simpa using h3)
theorem mB:∀{ns:List Nm} {ss:List Mine.Slot} {x:Nm} {i:Nat} {s:Mine.Slot},Cc ns x=i->i<ns.length->put (aj ns ss) x s=aj ns (ss.set i s)
 |[],_,_,_,_,_,h=>absurd h (Nat.not_lt_zero _)
 |y::ns,[],_,i,_,_,h=>by induction i using Nat.casesOn<;>rfl
 |y::ns,t::ss,x,i,s,h1,h3=>by
  show(bif af x y then(y,s)::aj ns ss else(y,t)::put (aj ns ss) x s)=_;have h1:(bif af x y then 0 else Cc ns x+1)=i:=h1;cases e:af x y with
  |true=>rw[e]at h1;subst h1;rfl
  |false=>
   rw[e]at h1;subst h1;show(y,t)::put (aj ns ss) x s=(y,t)::aj ns (ss.set _ s);rw[mB rfl (by simpa using h3)]
noncomputable def gv(κ:List (Str×NameKind))(ns:List Nm)(a:Str)(i:Nat):Bool:=ae (kd κ (nm a))&&Nat.beq (Cc ns (nm a)) i&&Nat.blt i ns.length
theorem d5{κ:List (Str×NameKind)}{ns:List Nm}{a:Str}{i:Nat}(h:gv κ ns a i=true):ae (kd κ (nm a))=true/\Cc ns (nm a)=i/\i<ns.length:=by
 unfold gv at h;rw[Bool.and_eq_true,Bool.and_eq_true]at h;exact⟨h.1.1,Nat.eq_of_beq_eq_true h.1.2,by have:=h.2;rwa [Nat.blt_eq]at this⟩
section
variable {Φ:Fns} {τ:Tau} {μ:List Nm} {W n N:Nat} {κ:List (Str×NameKind)} {ns:List Nm} {ss:List Mine.Slot} {rest:List Stmt} {res:Res} {p q:Pos} {v x y:V}
theorem yr{a:Str}(i:Nat)(h:gv κ ns a i=true)(hs:ss[i]? = some (.val v)):ev Φ τ (N+1) κ (aj ns ss) (.Name a p)=(true,v):=by
 have h:=d5 h;show rd κ Φ (aj ns ss) (nm a)=_;unfold rd;rw[h.1,cond_true,pd h.2.1 hs h.2.2];rfl
theorem e_const{c:Const}{k:Nat}{ρ:Rho}(h:pP c=(true,v)):ev Φ τ (N+1) κ ρ (.Constant c k p)=(true,v):=h
theorem Dr{a:Str}{l:List V}{E:Expr->R}(i:Nat)(h:gv κ ns a i=true)(hs:ss[i]? = some (.own l)):look κ (aj ns ss) E (.Name a p)=(true, .list l):=by
 have h:=d5 h;refine fc (pd h.2.1 hs h.2.2) h.1
theorem Ds{a:Str}(i:Nat)(h:gv κ ns a i=true)(hs:ss[i]? = some (.val v)):look κ (aj ns ss) (ev Φ τ (N+1) κ (aj ns ss)) (.Name a p)=(true,v):=by
 refine aA (yr i h hs) λl e => ?_
 have h:=d5 h;rw[pd h.2.1 hs h.2.2]at e;injections e
noncomputable def pf(κ:List (Str×NameKind))(ns:List Nm)(ss:List Mine.Slot)(a:Str)(s:Mine.Slot):Prop:=∃i:Nat,gv κ ns a i=true/\ss[i]? = some s
theorem pf.of{a:Str}{s:Mine.Slot}(i:Nat)(h:gv κ ns a i=true)(hs:ss[i]? = some s):pf κ ns ss a s:=⟨i,h,hs⟩
theorem x_loc{a:Str}(h:pf κ ns ss a (.val v)):ev Φ τ (N+1) κ (aj ns ss) (.Name a p)=(true,v):=let⟨i,h1,h2⟩:=h;yr i h1 h2
theorem x_val{a:Str}(h:pf κ ns ss a (.val v)):look κ (aj ns ss) (ev Φ τ (N+1) κ (aj ns ss)) (.Name a p)=(true,v):=let⟨i,h1,h2⟩:=h;Ds i h1 h2
theorem x_own{a:Str}{l:List V}{E:Expr->R}(h:pf κ ns ss a (.own l)):look κ (aj ns ss) E (.Name a p)=(true, .list l):=let⟨i,h1,h2⟩:=h;Dr i h1 h2
theorem dw{a:Str}{e:Expr}{s:Mine.Slot}(i:Nat)(hf:freeze (aB 40 e) (aj ns ss)=aj ns ss)(hx:gv κ ns a i=true)(h:ev Φ τ 40 κ (aj ns ss) e=(true,v))(hs:fX μ (nm a) e v=s)(h2:ex Φ τ μ W κ n rest (aj ns (ss.set i s))=res):
 ex Φ τ μ W κ (n+1) (.Assign [.Name a p] e q::rest) (aj ns ss)=res:=by
 have hx:=d5 hx;refine bk (by rw[hf];exact h) hx.1 (ρ':=aj ns (ss.set i s)) ?_ h2;rw[hf,hs];exact mB hx.2.1 hx.2.2
theorem EL{e:Expr}{ts:List Expr}{ss':List Mine.Slot}(hf:freeze (aB 40 e) (aj ns ss)=aj ns ss')(hf2:freeze (aB 40 e) (aj ns ss')=aj ns ss')(h2:ex Φ τ μ W κ (n+1) (.Assign ts e q::rest) (aj ns ss')=res):
 ex Φ τ μ W κ (n+1) (.Assign ts e q::rest) (aj ns ss)=res:=by
 rw[<-h2];show seq (ds (ev Φ τ 40 κ (freeze (aB 40 e) (aj ns ss))) κ μ (freeze (aB 40 e) (aj ns ss)) ts e) (ex Φ τ μ W κ n rest)=seq (ds (ev Φ τ 40 κ (freeze (aB 40 e) (aj ns ss'))) κ μ (freeze (aB 40 e) (aj ns ss')) ts e) (ex Φ τ μ W κ n rest);rw[hf,hf2]
theorem Aq{E:Expr->R}{ρ:Rho}{a:Str}{op:Operator}{e:Expr}(hx:ae (kd κ (nm a))=true)(ho:rd κ Φ ρ (nm a)=(true,x))(h:E e=(true,y))(hr:bW op x y=(true,v))(hk:nE op x=true):nF E κ Φ ρ (.Name a p) op e=(true, .next (put ρ (nm a) (.val v))):=by
 show(let old:=rd κ Φ ρ (nm a);let v:=E e;let r:=bW op old.2 v.2;((ae (kd κ (nm a))&&old.1&&v.1&&r.1&&nE op old.2, .next (put ρ (nm a) (.val r.2))):Res))=_;simp only[hx,ho,h,hr,hk,Bool.and_self]
theorem gw{a:Str}{e:Expr}{op:Operator}(i:Nat)(hf:freeze (aB 40 e) (aj ns ss)=aj ns ss)(hx:gv κ ns a i=true)(ho:ss[i]? = some (.val x))(h:ev Φ τ 40 κ (aj ns ss) e=(true,y))(hr:bW op x y=(true,v))(hk:nE op x=true)(h2:ex Φ τ μ W κ n rest (aj ns (ss.set i (.val v)))=res):
 ex Φ τ μ W κ (n+1) (.AugAssign (.Name a p) op e q::rest) (aj ns ss)=res:=by
 have hx':=hx;have hx:=d5 hx;refine tV (ρ':=aj ns (ss.set i (.val v))) ?_ h2;rw[hf];refine(Aq hx.1 (yr (Φ:=Φ) (τ:=τ) (N:=0) (p:=p) i hx' ho) h hr hk).trans ?_;rw[mB hx.2.1 hx.2.2]
theorem AT{a:Str}{e:Expr}{l:List V}{q1 q2 q3:Pos}(i:Nat)(hf:freeze (fu (aB 40) [e]) (aj ns ss)=aj ns ss)(hx:gv κ ns a i=true)(ho:ss[i]? = some (.own l))(hq:(q1.endLine==q2.line)=true)(hl:l.length<=cap)(h:ev Φ τ 40 κ (aj ns ss) e=(true,v))(h2:ex Φ τ μ W κ n rest (aj ns (ss.set i (.own (l++[v]))))=res):
 ex Φ τ μ W κ (n+1) (.Expr (.Call (.Attribute (.Name a p) "append" q1) [e] [] q2) q3::rest) (aj ns ss)=res:=by
 have hx:=d5 hx;exact B0 hq (by rw[hf];exact pd hx.2.1 ho hx.2.2) (by rw[hf];exact h) hx.1 hl (by rw[hf,mB hx.2.1 hx.2.2]) h2
theorem Ar{t:Expr}{a b:List Stmt}{v:V}(c:Bool)(hf:freeze (aB 40 t) (aj ns ss)=aj ns ss)(hp:(aI a&&aI b&&aq (fits 20) a&&aq (fits 20) b)=false)(h:ev Φ τ 40 κ (aj ns ss) t=(true,v))(hv:aa v=(true,c))(hr:ex Φ τ μ W κ n ((bif c then a else b)++rest) (aj ns ss)=res):
 ex Φ τ μ W κ (n+1) (.If t a b p::rest) (aj ns ss)=res:=
 dH hp (by rw[hf];exact h) hv (by rw[hf];exact hr)
theorem yt{e:Expr}(hf:freeze (aB 40 e) (aj ns ss)=aj ns ss)(h:ev Φ τ 40 κ (aj ns ss) e=(true,v)):ex Φ τ μ W κ (n+1) (.Return (some e) p::rest) (aj ns ss)=(true, .ret v):=
 dk (by rw[hf];exact h)
theorem AU {t it:Expr} {b:List Stmt} {ss':List Mine.Slot} {xs:List V} (hf:freeze (aB 40 it) (aj ns ss)=aj ns ss) (hi:aQ κ (ev Φ τ 40 κ (aj ns ss)) t it=(true,xs)) (ht:(az t).all (λx=>ae (kd κ x))=true)
 (h:bK (λv ρ=>((aT t v ρ).1&&(ex Φ τ μ W κ n b (aT t v ρ).2).1,(ex Φ τ μ W κ n b (aT t v ρ).2).2)) (aj ns ss) xs (aj ns ss)=(true, .next (aj ns ss'))) (h2:ex Φ τ μ W κ n rest (aj ns ss')=res):ex Φ τ μ W κ (n+1) (.For t it b [] p::rest) (aj ns ss)=res:=
 qq (by rw[hf];exact hi) ht (by rw[hf];exact h) h2
theorem qA {t it:Expr} {b:List Stmt} (I:Nat->List Mine.Slot) (val:Nat->V) (a k:Nat) (hf:freeze (aB 40 it) (aj ns (I a))=aj ns (I a)) (hi:aQ κ (ev Φ τ 40 κ (aj ns (I a))) t it=(true,(List.range' a k).map val)) (ht:(az t).all (λx=>ae (kd κ x))=true)
 (hb:∀j,a<=j->j<a+k->∃ss1 ss2,aT t (val j) (aj ns (I j))=(true,aj ns ss1)/\ex Φ τ μ W κ n b (aj ns ss1)=(true, .next (aj ns ss2))/\mask (aj ns (I a)) (aj ns ss2)=aj ns (I (j+1))) (h2:ex Φ τ μ W κ n rest (aj ns (I (a+k)))=res):
 ex Φ τ μ W κ (n+1) (.For t it b [] p::rest) (aj ns (I a))=res:=
 AU hf hi ht (qu (λj=>aj ns (I j)) val k a λj h1 h2=>let⟨x,y,h⟩:=hb j h1 h2;⟨_,_,h⟩) h2
theorem Cs {t it:Expr} {b:List Stmt} {xs:List V} (hf:freeze (aB 40 it) (aj ns ss)=aj ns ss) (hi:aQ κ (ev Φ τ 40 κ (aj ns ss)) t it=(true,xs)) (ht:(az t).all (λx=>ae (kd κ x))=true)
 (h:bK (λv ρ=>((aT t v ρ).1&&(ex Φ τ μ W κ n b (aT t v ρ).2).1,(ex Φ τ μ W κ n b (aT t v ρ).2).2)) (aj ns ss) xs (aj ns ss)=(true, .ret v)):ex Φ τ μ W κ (n+1) (.For t it b [] p::rest) (aj ns ss)=(true, .ret v):=
 ml (by rw[hf];exact hi) ht (by rw[hf];exact h)
theorem qB{d:Def}{as:List V}(hl:Nat.beq d.params.length as.length=true)(h0:bX d.κ (kB d.params as)=aj ns ss)(h:ex Φ τ (aC (gT 20) d.body) W d.κ 200 d.body (aj ns ss)=(true, .ret v)):bY Φ τ W d as=(true,v):=by
 unfold bY;rw[h0,h];unfold iR;rw[hl];rfl
theorem sj{α σ:Type}{t:Expr}{b:List Stmt}{ρ0:Rho}(val:α->V)(step:σ->α->σ)(P:σ->Prop)(I:σ->List Mine.Slot):∀(l:List α) (s:σ),P s ->
 (∀u,∀a∈l,P u->P (step u a)/\∃ss1 ss2,aT t (val a) (aj ns (I u))=(true,aj ns ss1)/\ex Φ τ μ W κ n b (aj ns ss1)=(true, .next (aj ns ss2))/\mask ρ0 (aj ns ss2)=aj ns (I (step u a))) ->
 bK (λv ρ=>((aT t v ρ).1&&(ex Φ τ μ W κ n b (aT t v ρ).2).1,(ex Φ τ μ W κ n b (aT t v ρ).2).2)) ρ0 (l.map val) (aj ns (I s))=(true, .next (aj ns (I (l.foldl step s))))
 |[],s,_,_=>rfl
 |a::l,s,hp,h=>by
  obtain⟨hp2,ss1,ss2,h1,h2,h3⟩:=h s a (List.mem_cons_self ..) hp;rw[List.map_cons,List.foldl_cons];refine eZ (gO h1 h2) ?_;rw[h3];exact sj val step P I l (step s a) hp2 λu x hx=>h u x (List.mem_cons_of_mem _ hx)
theorem Ew {α σ:Type} {t it:Expr} {b:List Stmt} (val:α->V) (step:σ->α->σ) (P:σ->Prop) (I:σ->List Mine.Slot) (l:List α) (s:σ) (hf:freeze (aB 40 it) (aj ns (I s))=aj ns (I s)) (hi:aQ κ (ev Φ τ 40 κ (aj ns (I s))) t it=(true,l.map val)) (ht:(az t).all (λx=>ae (kd κ x))=true) (hp:P s)
 (hb:∀u,∀a∈l,P u->P (step u a)/\∃ss1 ss2,aT t (val a) (aj ns (I u))=(true,aj ns ss1)/\ex Φ τ μ W κ n b (aj ns ss1)=(true, .next (aj ns ss2))/\mask (aj ns (I s)) (aj ns ss2)=aj ns (I (step u a))) (h2:ex Φ τ μ W κ n rest (aj ns (I (l.foldl step s)))=res):
 ex Φ τ μ W κ (n+1) (.For t it b [] p::rest) (aj ns (I s))=res:=AU hf hi ht (sj val step P I l s hp hb) h2
theorem Ex{e:Expr}{ss':List Mine.Slot}(hf:freeze (aB 40 e) (aj ns ss)=aj ns ss')(h:ev Φ τ 40 κ (aj ns ss') e=(true,v)):ex Φ τ μ W κ (n+1) (.Return (some e) p::rest) (aj ns ss)=(true, .ret v):=
 dk (by rw[hf];exact h)
noncomputable abbrev jl(scope:Scope):List Nm:=scope.names.map λx=>nm x.1
theorem iG{α:Type}{f:V->Bool×Bool×R}(val:α->V)(c:α->Bool)(g:α->V):∀(l:List α),(∀a∈l,(f (val a)).1=true/\(f (val a)).2.1=c a/\(c a=true->(f (val a)).2.2=(true,g a)))->a9 f (l.map val)=(true,(l.filter c).map g)
 |[],_=>rfl
 |a::l,h=>by
  obtain⟨h1,h2,h3⟩:=h a (List.mem_cons_self ..);have ih:=iG val c g l λy hy=>h y (List.mem_cons_of_mem _ hy)
  rw[List.map_cons];rw[zd,ih,h1,h2];cases hc:c a with
  |true=>rw[h3 hc];simp[hc]
  |false=>simp[hc]
theorem yu {α:Type} (val g:α->V) (l:List α) {ρ:Rho} {elt t it:Expr} {scope:Scope} (sc:List Mine.Slot) (h1:ew κ scope=true) (h2:mY scope.names t=true) (hi:aQ κ (ev Φ τ N κ ρ) t it=(true,l.map val)) (hc:bD scope ρ=aj (jl scope) sc) (hl:l.length<=cap)
 (hb:∀a∈l,∃ss1,aT t (val a) (aj (jl scope) sc)=(true,aj (jl scope) ss1)/\ev Φ τ N scope.names (aj (jl scope) ss1) elt=(true,g a)):ev Φ τ (N+1) κ ρ (.ListComp elt [⟨t,it,[],0⟩] scope p)=(true, .list (l.map g)):=by
 refine uU h1 h2 hi ?_ (by rw[List.length_map];exact hl);rw[hc];refine(iG val (λ_=>true) g l λa ha => ?_).trans (by rw[List.filter_eq_self.mpr λ_ _=>rfl]);obtain⟨ss1,e1,e2⟩:=hb a ha;unfold cK;dsimp only;rw[e1];exact⟨rfl,rfl,λ_=>e2⟩
theorem Dt {α:Type} (val:α->V) (c:α->Bool) (g:α->V) (l:List α) {ρ:Rho} {elt t it cnd:Expr} {scope:Scope} (sc:List Mine.Slot) (h1:ew κ scope=true) (h2:mY scope.names t=true) (hi:aQ κ (ev Φ τ N κ ρ) t it=(true,l.map val)) (hc:bD scope ρ=aj (jl scope) sc) (hl:l.length<=cap)
 (hb:∀a∈l,∃ss1 w,aT t (val a) (aj (jl scope) sc)=(true,aj (jl scope) ss1)/\ev Φ τ N scope.names (aj (jl scope) ss1) cnd=(true,w)/\aa w=(true,c a)/\(c a=true->ev Φ τ N scope.names (aj (jl scope) ss1) elt=(true,g a))):ev Φ τ (N+1) κ ρ (.ListComp elt [⟨t,it,[cnd],0⟩] scope p)=(true, .list ((l.filter c).map g)):=by
 refine uU h1 h2 hi ?_ (by rw[List.length_map];exact hl);rw[hc];refine iG val c g l λa ha => ?_
 obtain⟨ss1,w,e1,e2,e3,e4⟩:=hb a ha;have ts:dP (ev Φ τ N scope.names (aj (jl scope) ss1)) [cnd]=(true,c a):=by
  show((ev Φ τ N scope.names (aj (jl scope) ss1) cnd).1&&(aa (ev Φ τ N scope.names (aj (jl scope) ss1) cnd).2).1&&(bif (aa (ev Φ τ N scope.names (aj (jl scope) ss1) cnd).2).2 then true else true),(aa (ev Φ τ N scope.names (aj (jl scope) ss1) cnd).2).2&&true)=_;rw[e2,e3];cases c a<;>rfl
 unfold cK;dsimp only;rw[e1];dsimp only;rw[ts];exact⟨rfl,rfl,e4⟩
theorem jm{l:Nat}{k:Nat}(h:k<l):aL l (k:Int)=true/\place l (k:Int)=k:=by
 unfold aL place;rw[decide_eq_true (show -(l:Int)<=(k:Int)by omega),decide_eq_true (show(k:Int)<(l:Int)by omega),decide_eq_false (show ¬(k:Int)<0 by omega)];exact⟨rfl,by simp⟩
theorem mC{l:List V}{k:Nat}(hs:l.length<=cap)(hk:k<l.length)(hx:l.getD k .none=x):gR 0 (.list l) (.int (k:Int))=(true,x):=by
 show((aL l.length (k:Int)&&decide (l.length<=cap),nu l (place l.length (k:Int))):R)=_;rw[(jm hk).1,(jm hk).2,iU hk,decide_eq_true hs,hx];rfl
theorem pg{l:List V}{k:Nat}(hs:l.length<=cap)(hk:k<l.length)(hx:l.getD k .none=x):gR 0 (.tup l) (.int (k:Int))=(true,x):=by
 show((aL l.length (k:Int)&&decide (l.length<=cap),nu l (place l.length (k:Int))):R)=_;rw[(jm hk).1,(jm hk).2,iU hk,decide_eq_true hs,hx];rfl
theorem qC {ts es:List Expr} {vs:List V} {k1 k2:Nat} {p3 p4:Pos} {ss':List Mine.Slot} (hf:freeze (aB 40 (.Tuple es k2 p4)) (aj ns ss)=aj ns ss) (hc:(!cE es&&dQ (az (.Tuple ts 0 default))&&fH κ (az (.Tuple ts 0 default)))=true) (h:cy (ev Φ τ 40 κ (aj ns ss)) es=(true,vs)) (hl:vs.length<=cap)
 (ht:dG μ ts es vs (aj ns ss)=(true,aj ns ss')) (hr:ex Φ τ μ W κ n rest (aj ns ss')=res):ex Φ τ μ W κ (n+1) (.Assign [.Tuple ts k1 p3] (.Tuple es k2 p4) q::rest) (aj ns ss)=res:=by
 refine cO (ρ':=aj ns ss') ?_ hr;rw[hf];show((il (cy (ev Φ τ 40 κ (aj ns ss)) es)&&(dG μ ts es (cy (ev Φ τ 40 κ (aj ns ss)) es).2 (aj ns ss)).1&&(!cE es&&dQ (az (.Tuple ts 0 default))&&fH κ (az (.Tuple ts 0 default))),em.next (dG μ ts es (cy (ev Φ τ 40 κ (aj ns ss)) es).2 (aj ns ss)).2):Res)=_;rw[h,hc];show(((true&&decide (vs.length<=cap))&&(dG μ ts es vs (aj ns ss)).1&&true,em.next (dG μ ts es vs (aj ns ss)).2):Res)=_;rw[ht,decide_eq_true hl];rfl
theorem yv {ts:List Expr} {e:Expr} {vs:List V} {k1:Nat} {p3:Pos} {ss':List Mine.Slot} (he:j0 e=none) (hf:freeze (aB 40 e) (aj ns ss)=aj ns ss) (hc:fH κ (az (.Tuple ts 0 default))=true) (h:ev Φ τ 40 κ (aj ns ss) e=(true, .tup vs))
 (ht:jx ts vs (aj ns ss)=(true,aj ns ss')) (hr:ex Φ τ μ W κ n rest (aj ns ss')=res):ex Φ τ μ W κ (n+1) (.Assign [.Tuple ts k1 p3] e q::rest) (aj ns ss)=res:=by
 refine cO (ρ':=aj ns ss') ?_ hr;rw[hf];show zi (ev Φ τ 40 κ (aj ns ss)) κ μ (aj ns ss) ts e (j0 e)=_;rw[he];show(((ev Φ τ 40 κ (aj ns ss) e).1&&(aT (.Tuple ts 0 default) (ev Φ τ 40 κ (aj ns ss) e).2 (aj ns ss)).1&&fH κ (az (.Tuple ts 0 default)),em.next (aT (.Tuple ts 0 default) (ev Φ τ 40 κ (aj ns ss) e).2 (aj ns ss)).2):Res)=_;rw[h,hc];show((true&&(jx ts vs (aj ns ss)).1&&true,em.next (jx ts vs (aj ns ss)).2):Res)=_;rw[ht];rfl
theorem As{sep:List Nat}{l:List (List Nat)}(h:(l.map List.length).sum+l.length*sep.length<=cap)(h2:l.length<=cap):eU Φ (nm "join") (.str sep) [.list (l.map V.str)]=(true, .str (dM sep l)):=by
 have e:∀L:List V,eU Φ (nm "join") (.str sep) [.list L]=((L.all y3&&decide (L.length<=cap)&&decide (((L.map ky).map List.length).sum+L.length*sep.length<=cap),V.str (dM sep (L.map ky))):R):=λL=>∅
 rw[e,show(l.map V.str).map ky=l by rw[List.map_map];exact List.map_id l,List.length_map,decide_eq_true h,decide_eq_true h2,List.all_map,show(l.all (y3∘V.str))=true from List.all_eq_true.mpr λ_ _=>rfl]
 rfl
theorem pi:∀l:List Nat,dM [] (l.map λc=>[c])=l
 |[]=>rfl
 |[_]=>rfl
 |a::b::l=>by show[a]++[]++dM [] ((b::l).map λc=>[c])=_;rw[pi (b::l)];rfl
theorem sk:∀l:List Nat,((l.map λc=>[c]).map List.length).sum=l.length
 |[]=>rfl
 |a::l=>by rw[List.map_cons,List.map_cons,List.sum_cons,sk l];simp;omega
theorem Ct{l:List Nat}(h:l.length<=cap):eU Φ (nm "join") (.str []) [.list ((l.map λc=>[c]).map V.str)]=(true, .str l):=
 (As (by rw[sk];simpa using h) (by simpa using h)).trans (by rw[pi])
theorem v9:∀l:List (List Nat),dM [] l=l.flatten
 |[]=>rfl
 |[a]=>by rw[za];simp
 |a::b::l=>by show a++[]++dM [] (b::l)=_;rw[v9 (b::l)];simp
theorem Ey {a:Str} {ie e:Expr} {l:List V} {j:Nat} {p1 p2 p3:Pos} (i:Nat) (hf:freeze (aB 40 e) (aj ns ss)=aj ns ss) (hx:gv κ ns a i=true) (ho:ss[i]? = some (.own l)) (hi:ev Φ τ 40 κ (aj ns ss) ie=(true, .int (j:Int))) (h:ev Φ τ 40 κ (aj ns ss) e=(true,v)) (hj:j<l.length) (hc:l.length<=cap)
 (h2:ex Φ τ μ W κ n rest (aj ns (ss.set i (.own (gS l j v))))=res):ex Φ τ μ W κ (n+1) (.Assign [.Subscript (.Name a p1) ie p2] e p3::rest) (aj ns ss)=res:=by
 have hx:=d5 hx;have h3:i<ns.length:=by exact hx.2.2
 refine iE (l:=l) (j:=j) (v:=v) (ρ':=aj ns (ss.set i (.own (gS l j v)))) (by rw[hf];exact pd hx.2.1 ho h3) (by rw[hf];exact hi) (by rw[hf];exact h) hx.1 hj hc ?_ h2;rw[hf];exact mB hx.2.1 h3
theorem len_list{l:List V}(h:l.length<=cap):kz (.list l)=(true, .int l.length):=by
 show((decide (l.length<=cap),V.int l.length):R)=_;rw[decide_eq_true h]
theorem len_tup{l:List V}(h:l.length<=cap):kz (.tup l)=(true, .int l.length):=by
 show((decide (l.length<=cap),V.int l.length):R)=_;rw[decide_eq_true h]
theorem len_str{l:List Nat}(h:l.length<=cap):kz (.str l)=(true, .int l.length):=by
 show((decide (l.length<=cap),V.int l.length):R)=_;rw[decide_eq_true h]
theorem f_n{r:List Nat}{n t:Int}{c:List Int}{b:Int}{s:Bool}:w6 (nm "n") (.ws r n t c b s)=(true, .int n):=∅
theorem f_nt{r:List Nat}{n t:Int}{c:List Int}{b:Int}{s:Bool}:w6 (nm "nt") (.ws r n t c b s)=(true, .int t):=∅
theorem f_norm{r:List Nat}{n t:Int}{c:List Int}{b:Int}{s:Bool}:w6 (nm "norm") (.ws r n t c b s)=(true, .tup [.tup (c.map .int), .int b]):=∅
theorem f_simple{r:List Nat}{n t:Int}{c:List Int}{b:Int}{s:Bool}:w6 (nm "is_simple") (.ws r n t c b s)=(true, .bool s):=∅
theorem jR{k:Nat}(h:k<=10000000000):small (k:Int)=true:=by unfold small big;rw[decide_eq_true ⋯,decide_eq_true ⋯];rfl
theorem b_mulR{a b:Int}(h:small b=true):bW .Mult (.int a) (.int b)=(true, .int (a*b)):=by
 show((small a||small b,V.int (a*b)):R)=_;rw[h,Bool.or_true]
theorem b_mulL{a b:Int}(h:small a=true):bW .Mult (.int a) (.int b)=(true, .int (a*b)):=by
 show((small a||small b,V.int (a*b)):R)=_;rw[h,Bool.true_or]
theorem b_mod{a k:Nat}(h:k≠0):bW .Mod (.int (a:Int)) (.int (k:Int))=(true, .int ((a%k:Nat):Int)):=by
 show((!decide ((k:Int)=0),V.int ((a:Int).fmod (k:Int))):R)=_;rw[decide_eq_false ⋯,Int.fmod_eq_emod_of_nonneg _ ⋯];rfl
theorem b_div{a k:Nat}(h:k≠0)(h2:k<10000000000):bW .FloorDiv (.int (a:Int)) (.int (k:Int))=(true, .int ((a/k:Nat):Int)):=by
 show((!decide ((k:Int)=0)&&small (k:Int),V.int ((a:Int).fdiv (k:Int))):R)=_;rw[decide_eq_false ⋯,show small (k:Int)=true by unfold small big;rw[decide_eq_true ⋯,decide_eq_true ⋯];rfl];rw[Int.fdiv_eq_ediv_of_nonneg _ ⋯];rfl
end
end
section
open PySem PySem.W
noncomputable def bd:Bool->List Nat->List Nat
 |_,[]=>[]
 |b,c::l=>bif b&&c==46 then 46::46::bd false l else c::bd (c==10) l
theorem uW{b:Bool}{c:Nat}{l:List Nat}:bd b (c::l)=bif b&&c==46 then 46::46::bd false l else c::bd (c==10) l:=rfl
noncomputable def aM:Bool->List Nat->List Nat
 |_,[]=>[]
 |p,c::l=>bif c==13 then 13::10::aM true l else bif c==10 then(bif p then aM false l else 13::10::aM false l)else c::aM false l
theorem jn{p:Bool}{c:Nat}{l:List Nat}:aM p (c::l)=bif c==13 then 13::10::aM true l else bif c==10 then(bif p then aM false l else 13::10::aM false l)else c::aM false l:=rfl
noncomputable def c0(x:List Nat)(p:Nat):Bool:=p==0||x.getD (p-1) 0==10
theorem d6(x:List Nat)(p:Nat):x.toArray.getD p 0=x.getD p 0:=by simp[Array.getD_eq_getD_getElem?,List.getD_eq_getElem?_getD]
theorem eM{x:List Nat}{p:Nat}(h:p<x.length):x.drop p=x.getD p 0::x.drop (p+1):=by
 rw[List.drop_eq_getElem_cons h,List.getD_eq_getElem?_getD,List.getElem?_eq_getElem h];rfl
theorem jo{x:List Nat}{p b:Nat}(h:p<b)(hb:b<=x.length):(x.take b).drop p=x.getD p 0::(x.take b).drop (p+1):=by
 have hp:p<(x.take b).length:=by rw[List.length_take];omega
 rw[eM hp]
 congr 1
 rw[List.getD_eq_getElem?_getD,List.getD_eq_getElem?_getD,List.getElem?_take,if_pos h]
theorem gx{x:List Nat}{p:Nat}:(x.take p).drop p=[]:=by
 rw[List.drop_eq_nil_iff,List.length_take];omega
theorem sp(x:List Nat):∀(n p:Nat),x.length-p<=n+1->match cj x.toArray x.length n p with
 |none=>bd (c0 x p) (x.drop p)=x.drop p
 |some b=>p<=b/\b<x.length/\bd (c0 x p) (x.drop p)=(x.take b).drop p++(46::46::bd false (x.drop (b+1))):=by
 have base:∀p,cH x.toArray x.length p=(c0 x p&&decide (p<x.length)&&x.getD p 0==46):=λp=>by
  unfold cH c0;rw[d6,d6]
 have out:∀p,x.length<=p->cH x.toArray x.length p=false:=λp h=>by
  rw[base,decide_eq_false ⋯];simp
 have yes:∀p,cH x.toArray x.length p=true->p<x.length/\bd (c0 x p) (x.drop p)=(x.take p).drop p++(46::46::bd false (x.drop (p+1))):=λp h=>by
  rw[base]at h;simp only[Bool.and_eq_true,decide_eq_true_eq,beq_iff_eq]at h;obtain⟨⟨h1,h2⟩,h3⟩:=h;refine⟨h2, ?_⟩;rw[gx,eM h2,h3,h1];rfl
 have no:∀p,p<x.length->cH x.toArray x.length p=false->bd (c0 x p) (x.drop p)=x.getD p 0::bd (c0 x (p+1)) (x.drop (p+1)):=λp h hh=>by
  rw[base,decide_eq_true h,Bool.and_true]at hh;rw[eM h];show(bif c0 x p&&x.getD p 0==46 then _ else x.getD p 0::bd (x.getD p 0==10) (x.drop (p+1)))=_;rw[hh];show x.getD p 0::bd (x.getD p 0==10) (x.drop (p+1))=_;have:c0 x (p+1)=(x.getD p 0==10):=by unfold c0;simp
  rw[this]
 intro n
 induction n with
 |zero=>
  intro p hp;show match(if cH x.toArray x.length p=true then some p else none)with|none=>_|some b=>_
  cases hh:cH x.toArray x.length p with
  |true=>rw[if_pos rfl];exact⟨Nat.le_refl _,yes p hh⟩
  |false=>
   rw[if_neg (by simp)];show bd (c0 x p) (x.drop p)=x.drop p
   rcases Nat.lt_or_ge p x.length with h|h
   ·rw[no p h hh,List.drop_eq_nil_of_le (show x.length<=p+1 by omega),eM h,List.drop_eq_nil_of_le (show x.length<=p+1 by omega)];rfl
   ·rw[List.drop_eq_nil_of_le h];rfl
 |succ n ih=>
  intro p hp;show match(if cH x.toArray x.length p=true then some p else cj x.toArray x.length n (p+1))with|none=>_|some b=>_
  cases hh:cH x.toArray x.length p with
  |true=>rw[if_pos rfl];exact⟨Nat.le_refl _,yes p hh⟩
  |false=>
   rw[if_neg (by simp)];have I:=ih (p+1) ⋯
   rcases Nat.lt_or_ge p x.length with h|h
   ·cases hf:cj x.toArray x.length n (p+1)with
    |none=>rw[hf]at I;show bd _ _=_;rw[no p h hh,I,eM h]
    |some b=>
     rw[hf]at I;obtain⟨i1,i2,i3⟩:=I;refine⟨⋯,i2, ?_⟩;rw[no p h hh,i3,jo (p:=p) (b:=b) ⋯ ⋯];rfl
   ·cases hf:cj x.toArray x.length n (p+1)with
    |none=>show bd _ _=_;rw[List.drop_eq_nil_of_le h];rfl
    |some b=>rw[hf]at I;omega
theorem mD(text:Array Nat)(lim:Nat):∀(n p b:Nat),cj text lim n p=some b->cH text lim b=true
 |0,p,b,h=>by
  have h:(if cH text lim p=true then some p else none)=some b:=h
  split at h
  ·injection h with h;subst h;assumption
  ·injections h
 |n+1,p,b,h=>by
  have h:(if cH text lim p=true then some p else cj text lim n (p+1))=some b:=h
  split at h
  ·injection h with h;subst h;assumption
  ·exact mD text lim n (p+1) b h
theorem sr(x:List Nat):∀(n s:Nat),x.length-s<n->ja f1 [46,46] x n s=bd (c0 x s) (x.drop s)
 |0,s,h=>⋯
 |n+1,s,h=>by
  have F:=sp x (x.length-s) s ⋯;have e:f1 x s=(cj x.toArray x.length (x.length-s) s).map λb=>(b,b+1):=by unfold f1;simp
  show(match f1 x s with|some (b,e)=>(x.take b).drop s++([46,46]++ja f1 [46,46] x n e)|none=>x.drop s)=_;rw[e];cases hf:cj x.toArray x.length (x.length-s) s with
  |none=>rw[hf]at F;exact F.symm
  |some b=>
   rw[hf]at F;obtain⟨h1,h2,h3⟩:=F;show(x.take b).drop s++([46,46]++ja f1 [46,46] x n (b+1))=_;rw[sr x n (b+1) ⋯,h3]
   by_cases hb:b+1<x.length\/True
   ·have:c0 x (b+1)=(x.getD b 0==10):=by unfold c0;simp
    rw[this];have h46:x.getD b 0=46:=by
     have hm:=mD x.toArray x.length (x.length-s) s b hf;unfold cH at hm;simp only[Bool.and_eq_true,beq_iff_eq]at hm;have h2:=hm.2
     rwa [d6]at h2
    rw[h46];rfl
   ·exact absurd (.inr trivial) hb
theorem su(x:List Nat):∀(n p:Nat),x.length-p<=n->match ck x.toArray x.length n p with
 |none=>aM false (x.drop p)=x.drop p
 |some b=>p<=b/\b<x.length/\aM false (x.drop p)=(x.take b).drop p++(13::10::aM false (x.drop (cX x.toArray x.length b))):=by
 intro n
 induction n with
 |zero=>
  intro p hp;show aM false (x.drop p)=x.drop p;rw[List.drop_eq_nil_of_le ⋯];rfl
 |succ n ih=>
  intro p hp;show match(if gm (x.toArray.getD p 0)=true then some p else ck x.toArray x.length n (p+1))with|none=>_|some b=>_
  have I:=ih (p+1) ⋯;cases hh:gm (x.toArray.getD p 0)with
  |true=>
   rw[if_pos rfl];rw[d6]at hh;have hlt:p<x.length:=by
    rcases Nat.lt_or_ge p x.length with h|h
    ·exact h
    ·rw[List.getD_eq_getElem?_getD,List.getElem?_eq_none h]at hh;injections hh
   refine⟨Nat.le_refl _,hlt, ?_⟩;rw[gx,eM hlt];show aM false (x.getD p 0::x.drop (p+1))=13::10::aM false (x.drop (cX x.toArray x.length p));unfold cX;rw[d6,d6];have hc:x.getD p 0=10\/x.getD p 0=13:=by
    unfold gm at hh;rw[Bool.or_eq_true,beq_iff_eq,beq_iff_eq]at hh;exact hh.symm
   rcases hc with hc|hc
   ·rw[hc,if_neg (by simp)];rfl
   ·rw[hc]
    show 13::10::aM true (x.drop (p+1))=_
    congr 2
    rcases Nat.lt_or_ge (p+1) x.length with h|h
    ·rw[eM h]
     by_cases h10:x.getD (p+1) 0=10
     ·rw[h10,if_pos (by simp[h])];rfl
     ·rw[if_neg (by simp only[Bool.and_eq_true,beq_iff_eq];exact λe=>h10 e.2),eM h]
      have e10:(x.getD (p+1) 0==10)=false:=by rw[beq_eq_false_iff_ne];exact h10
      rw[jn,jn,e10];rfl
    ·rw[if_neg (by simp only[Bool.and_eq_true,decide_eq_true_eq];omega),List.drop_eq_nil_of_le h];rfl
  |false=>
   rw[if_neg (by simp)];rw[d6]at hh
   rcases Nat.lt_or_ge p x.length with h|h
   ·have hno:aM false (x.drop p)=x.getD p 0::aM false (x.drop (p+1)):=by
     rw[eM h];unfold gm at hh;simp only[Bool.or_eq_false_iff]at hh;rw[jn];have a:(x.getD p 0==13)=false:=by first|exact hh.2|exact hh.1
     have b:(x.getD p 0==10)=false:=by first|exact hh.1|exact hh.2
     rw[a,b];rfl
    cases hf:ck x.toArray x.length n (p+1)with
    |none=>rw[hf]at I;show aM false _=_;rw[hno,I,<-eM h]
    |some b=>
     rw[hf]at I;obtain⟨i1,i2,i3⟩:=I;refine⟨⋯,i2, ?_⟩;rw[hno,i3,jo (p:=p) (b:=b) ⋯ ⋯];rfl
   ·cases hf:ck x.toArray x.length n (p+1)with
    |none=>show aM false _=_;rw[List.drop_eq_nil_of_le h];rfl
    |some b=>rw[hf]at I;omega
theorem mE(x:List Nat):∀(n s:Nat),x.length-s<n->ja f2 [13,10] x n s=aM false (x.drop s)
 |0,s,h=>⋯
 |n+1,s,h=>by
  have F:=su x (x.length-s) s ⋯;have e:f2 x s=(ck x.toArray x.length (x.length-s) s).map λb=>(b,cX x.toArray x.length b):=by unfold f2;simp
  show(match f2 x s with|some (b,e)=>(x.take b).drop s++([13,10]++ja f2 [13,10] x n e)|none=>x.drop s)=_;rw[e];cases hf:ck x.toArray x.length (x.length-s) s with
  |none=>rw[hf]at F;exact F.symm
  |some b=>
   rw[hf]at F;obtain⟨h1,h2,h3⟩:=F;have he:b<cX x.toArray x.length b:=by unfold cX;split<;>omega
   show(x.take b).drop s++([13,10]++ja f2 [13,10] x n (cX x.toArray x.length b))=_;rw[mE x n _ ⋯,h3];rfl
theorem sv(x:List Nat):uT (hV x)=bd true (aM false x):=by
 unfold uT hV;rw[mE x _ 0 ⋯,List.drop_zero,sr _ _ 0 ⋯,List.drop_zero];rfl
end
section
open PySem PySem.W
open PySem.StrLaws PySem.Builtin.Str
theorem DU(l:List Nat):(tx l).cps.toList=l:=rfl
theorem t9{l:List Nat}{a b n i:Nat}(hn:n=l.length):At (tx l) (tx [a,b]) n i↔l[i]? = some a/\l[i+1]? = some b:=by
 subst hn;unfold At;rw[subAt_eq];show i+2<=l.length/\((l.drop i).take 2==[a,b])=true↔_
 constructor
 ·rintro⟨h1,h2⟩
  have h3:=eq_of_beq h2;have e0:((l.drop i).take 2)[0]? = some a:=by rw[h3];rfl
  have e1:((l.drop i).take 2)[1]? = some b:=by rw[h3];rfl
  rw[List.getElem?_take,if_pos nofun,List.getElem?_drop]at e0 e1;exact⟨e0,e1⟩
 ·rintro⟨h1,h2⟩
  obtain⟨k1,e1⟩:=List.getElem?_eq_some_iff.mp h1;obtain⟨k2,e2⟩:=List.getElem?_eq_some_iff.mp h2;refine⟨⋯, ?_⟩;rw[List.drop_eq_getElem_cons k1,List.drop_eq_getElem_cons k2,e1,e2];simp
theorem ua{l:List Nat}{a n i:Nat}(hn:n=l.length):At (tx l) (tx [a]) n i↔l[i]? = some a:=by
 subst hn;exact subAt_one (tx l) a i
theorem mF(l:List Nat)(a b:Nat):(strSub (tx l) a b).cps.toList=(l.drop a).take (b-a):=strSub_toList _ _ _
theorem sw{l last:List Nat}(hlast:13∉last):∀(rows:List (List Nat)) (a:Nat) (cuts:List Nat) (f:Nat),(∀r∈rows,13∉r)->l.drop a=(rows.map (· ++ [13,10])).flatten++last->a<=l.length->ChainG (tx l) (tx [13,10]) l.length a cuts f->(∀k,f<=k->¬At (tx l) (tx [13,10]) l.length k) ->
 (partsFrom (tx l) 2 a cuts).map (λx=>x.cps.toList)=rows++[last]
 |[],a,cuts,f,hr,hd,ha,hc,hf=>by
  have hd:l.drop a=last:=by simpa using hd
  induction cuts using List.casesOn with
  |nil=>
   show[(strSub (tx l) a (tx l).length).cps.toList]=[last];rw[mF,hd]
   congr 1
   exact List.take_of_length_le (by rw[<-hd];show(l.drop a).length<=l.length-a;simp)
  |cons c r=>
   have h1:=((t9 rfl).mp hc.2.1).1;have h2:last[c-a]? = some 13:=by rw[<-hd,List.getElem?_drop,show a+(c-a)=c by have:=hc.1;omega];exact h1
   exact absurd (List.mem_of_getElem? h2) hlast
 |row::rows,a,cuts,f,hr,hd,ha,hc,hf=>by
  have hd':l.drop a=row++13::10::((rows.map (· ++ [13,10])).flatten++last):=by rw[hd];simp
  have hat:At (tx l) (tx [13,10]) l.length (a+row.length):=(t9 rfl).mpr ⟨by rw[<-List.getElem?_drop,hd',List.getElem?_append_right (Nat.le_refl _),Nat.sub_self];rfl,by
   rw[show a+row.length+1=a+(row.length+1)by omega,<-List.getElem?_drop,hd',List.getElem?_append_right ⋯,show row.length+1-row.length=1 by omega];rfl⟩
  have hrow:=hr row (List.mem_cons_self ..)
  induction cuts using List.casesOn with
  |nil=>
   have e:f=a:=hc;exact absurd hat (hf _ ⋯)
  |cons c r=>
   obtain⟨h1,h2,h3,h4⟩:=hc;have hle:c<=a+row.length:=by
    rcases Nat.lt_or_ge (a+row.length) c with h|h
    ·exact absurd hat (h3 _ ⋯ h)
    ·exact h
   have hce:c=a+row.length:=by
    rcases Nat.lt_or_ge c (a+row.length)with h|h
    ·have e13:=((t9 rfl).mp h2).1
     have:row[c-a]? = some 13:=by
      have:(l.drop a)[c-a]? = some 13:=by rw[List.getElem?_drop,show a+(c-a)=c by omega];exact e13
      rw[hd',List.getElem?_append_left ⋯]at this;exact this
     exact absurd (List.mem_of_getElem? this) hrow
    ·omega
   subst hce;have hlen:a+row.length+2<=l.length:=by
    have:=congrArg List.length hd';simp at this
    omega
   have hd2:l.drop (a+row.length+2)=(rows.map (· ++ [13,10])).flatten++last:=by
    rw[show a+row.length+2=a+(row.length+2)by omega,<-List.drop_drop,hd',show row.length+2=(row++[13,10]).length by simp,show row++13::10::((rows.map (· ++ [13,10])).flatten++last)=(row++[13,10])++((rows.map (· ++ [13,10])).flatten++last)by simp];exact List.drop_left
   show(strSub (tx l) a (a+row.length)).cps.toList::(partsFrom (tx l) 2 (a+row.length+2) r).map (λx=>x.cps.toList)=row::(rows++[last]);rw[sw hlast rows (a+row.length+2) r f (λx hx=>hr x (List.mem_cons_of_mem _ hx)) hd2 ⋯ h4 hf,mF,hd',show a+row.length-a=row.length by omega,List.take_left]
theorem Cd{rows:List (List Nat)}{last:List Nat}(hr:∀r∈rows,13∉r)(hlast:13∉last)(hne:rows≠[]):eH ((rows.map (· ++ [13,10])).flatten++last) [13,10]=rows++[last]:=by
 generalize hl:(rows.map (· ++ [13,10])).flatten++last=l;obtain⟨f,h1,h2⟩:=occ_tight (tx l) (tx [13,10]) nofun;have C:=sw hlast rows 0 _ f hr (by rw[List.drop_zero,hl]) (Nat.zero_le _) h1 h2;have hmem:13∈l:=by
  induction rows using List.casesOn with
  |nil=>exact absurd rfl hne
  |cons r rs=>rw[<-hl];simp
 unfold eH Txt.split;have hk:(decide ((tx l).length<(tx [13,10]).length)||decide (strKind (tx l)<strKind (tx [13,10])))=false:=by
  rw[Bool.or_eq_false_iff]
  constructor
  ·apply decide_eq_false
   show ¬l.length<2
   induction rows using List.casesOn with
   |nil=>exact absurd rfl hne
   |cons r rs=>rw[<-hl];simp;omega
  ·apply decide_eq_false
   intro hlt;have e:strKind (tx [13,10])=strKind (⟨#[13]⟩:Str):=by decide +kernel
   rw[e]at hlt;exact kind_free (tx l) 13 hlt hmem
 rw[hk,if_neg (by simp)];cases ho:occurrences (tx l) (tx [13,10]) 0 (tx l).length ((tx l).length+1)with
 |nil=>
  rw[ho]at C;rw[if_pos (show([]:List Nat).isEmpty=true from rfl)];have C':[(strSub (tx l) 0 l.length).cps.toList]=rows++[last]:=C;have e:(strSub (tx l) 0 l.length).cps.toList=l:=by rw[mF];simp
  rw[e]at C';exact C'
 |cons c r=>
  rw[ho]at C;rw[if_neg (show ¬(c::r).isEmpty=true by simp),partsBetween_eq];exact C
theorem mG{l:List Nat}{c:Nat}:∀(cuts:List Nat) (a f:Nat),a<=l.length->ChainG (tx l) (tx [c]) l.length a cuts f->(∀k,f<=k->¬At (tx l) (tx [c]) l.length k)->cuts.length=(l.drop a).count c
 |[],a,f,ha,hc,hf=>by
  have e:f=a:=hc
  symm
  rw[List.length_nil,List.count_eq_zero];intro hm;obtain⟨k,hk⟩:=List.mem_iff_getElem?.mp hm;rw[List.getElem?_drop]at hk;exact hf (a+k) ⋯ ((ua rfl).mpr hk)
 |d::r,a,f,ha,hc,hf=>by
  obtain⟨h1,h2,h3,h4⟩:=hc;have hd:=(ua rfl).mp h2;obtain⟨hlt,he⟩:=List.getElem?_eq_some_iff.mp hd;have ih:=mG r (d+1) f ⋯ h4 hf;have e:l.drop a=(l.drop a).take (d-a)++c::l.drop (d+1):=by
   have:l.drop d=c::l.drop (d+1):=by rw[List.drop_eq_getElem_cons hlt,he]
   rw[<-this];have h5:l.drop d=(l.drop a).drop (d-a):=by rw[List.drop_drop];congr 1;omega
   rw[h5,List.take_append_drop]
  have h0:((l.drop a).take (d-a)).count c=0:=by
   rw[List.count_eq_zero];intro hm;obtain⟨k,hk⟩:=List.mem_iff_getElem?.mp hm;rw[List.getElem?_take]at hk
   split at hk
   ·rw[List.getElem?_drop]at hk
    exact h3 (a+k) ⋯ ⋯ ((ua rfl).mpr hk)
   ·injections hk
  rw[e,List.count_append,h0,List.count_cons_self,List.length_cons,ih];omega
theorem yw(l:List Nat)(c:Nat):pM l [c]=(l.count c:Int):=by
 obtain⟨f,h1,h2⟩:=occ_tight (tx l) (tx [c]) (Nat.le_refl 1);have:=mG _ 0 f (Nat.zero_le _) h1 h2;unfold pM Txt.count;show((occurrences (tx l) (tx [c]) 0 (tx l).length ((tx l).length+1)).length:Int)=_;rw[show(tx l).length=l.length from rfl]at *;rw[this,List.drop_zero]
end
section
open PySem PySem.W
theorem Du(x y:Nat):af [x] [y]=Nat.beq x y:=by show(Nat.beq x y&&true)=_;rw[Bool.and_true]
theorem Ce{x y:Nat}(h:x≠y):Nat.beq x y=false:=by
 cases e:Nat.beq x y with
 |true=>exact absurd (Nat.eq_of_beq_eq_true e) h
 |false=>rfl
theorem sy(a b:List Nat):af a b=af b a:=by
 cases h:af a b with
 |true=>rw[ai.mp h];exact(ai.mpr rfl).symm
 |false=>
  cases h2:af b a with
  |true=>rw[ai.mp h2,ai.mpr rfl]at h;injections h
  |false=>rfl
theorem sz(x y:Nat):bc x y=bc y x:=by
 unfold bc;rw[sy [x] [y],sy (bR [x]) (bR [y])]
theorem pj(x:Nat):bc x x=0:=by unfold bc;rw[ai.mpr rfl];rfl
theorem fB(x y:Nat):0<=bc x y/\bc x y<=2:=by
 unfold bc;cases af [x] [y]<;>cases af (bR [x]) (bR [y])<;>exact⟨nofun,nofun⟩
inductive Al:List Nat->List Nat->Int->Prop
 |nil:Al [] [] 0
 |sub (x y:Nat) {a b:List Nat} {n:Int} (_:Al a b n):Al (x::a) (y::b) (n+bc x y)
 |del (x:Nat) {a b:List Nat} {n:Int} (_:Al a b n):Al (x::a) b (n+2)
 |ins (y:Nat) {a b:List Nat} {n:Int} (_:Al a b n):Al a (y::b) (n+2)
theorem Al.cast{a b:List Nat}{n m:Int}(h:Al a b n)(e:n=m):Al a b m:=e▸h
theorem Al.nonneg{a b:List Nat}{n:Int}(h:Al a b n):0<=n:=by
 induction h with
 |nil=>exact Int.le_refl _
 |sub x y _ ih=>have:=fB x y;omega
 |del _ _ ih=>omega
 |ins _ _ ih=>omega
theorem Al.len{a b:List Nat}{n:Int}(h:Al a b n):2*((b.length:Int)-a.length)<=n:=by
 induction h with
 |nil=>exact Int.le_refl _
 |sub x y _ ih=>have:=fB x y;simp only[List.length_cons];omega
 |del _ _ ih=>simp only[List.length_cons];omega
 |ins _ _ ih=>simp only[List.length_cons];omega
theorem Al.sym{a b:List Nat}{n:Int}(h:Al a b n):Al b a n:=by
 induction h with
 |nil=>exact .nil
 |sub x y _ ih=>rw[sz];exact .sub y x ih
 |del x _ ih=>exact .ins x ih
 |ins y _ ih=>exact .del y ih
theorem Al.app{a b c d:List Nat}{n m:Int}(h:Al a b n)(k:Al c d m):Al (a++c) (b++d) (n+m):=by
 induction h with
 |nil=>exact k.cast (Int.zero_add m).symm
 |sub x y _ ih=>exact(Al.sub x y ih).cast ⋯
 |del x _ ih=>exact(Al.del x ih).cast ⋯
 |ins y _ ih=>exact(Al.ins y ih).cast ⋯
theorem Al.rev{a b:List Nat}{n:Int}(h:Al a b n):Al a.reverse b.reverse n:=by
 induction h with
 |nil=>exact .nil
 |sub x y _ ih=>rw[List.reverse_cons,List.reverse_cons];exact(ih.app (.sub x y .nil)).cast ⋯
 |del x _ ih=>rw[List.reverse_cons];exact((ih.app (.del x .nil)).cast ⋯:Al (_++[x]) (_++[]) _)|>λh=>by rwa [List.append_nil]at h
 |ins y _ ih=>rw[List.reverse_cons];exact((ih.app (.ins y .nil)).cast ⋯:Al (_++[]) (_++[y]) _)|>λh=>by rwa [List.append_nil]at h
theorem Al.rev_iff{a b:List Nat}{n:Int}:Al a.reverse b.reverse n↔Al a b n:=⟨λh=>by have:=h.rev;rwa [List.reverse_reverse,List.reverse_reverse]at this,Al.rev⟩
theorem Al.all_del:∀a:List Nat,Al a [] (2*a.length)
 |[] => .nil
 |x::a=>(Al.del x (Al.all_del a)).cast (by simp only[List.length_cons];omega)
theorem Al.less{a b:List Nat}{c:Nat}{n:Int}(h:Al a (c::b) n):∃m,m<=n+2/\Al a b m:=by
 generalize e:c::b=d at h
 induction h with
 |nil=>injections e
 |sub x y h ih=>
  injection e with e1 e2;subst e2
  have:=fB x y;exact⟨_,⋯, .del x h⟩
 |del x h ih=>
  obtain⟨m,h1,h2⟩:=ih e;exact⟨_,⋯, .del x h2⟩
 |ins y h ih=>
  injection e with e1 e2;subst e2
  exact⟨_,⋯,h⟩
theorem Al.strip{a b:List Nat}{c:Nat}{n:Int}(h:Al (c::a) (c::b) n):∃m,m<=n/\Al a b m:=by
 cases h with
 |sub _ _ h=>have:=fB c c;exact⟨_,⋯,h⟩
 |del _ h=>obtain⟨m,h1,h2⟩:=h.less;exact⟨m,⋯,h2⟩
 |ins _ h=>obtain⟨m,h1,h2⟩:=h.sym.less;exact⟨m,⋯,h2.sym⟩
theorem pk:∀(a b:List Nat),a.take (aH a b)=b.take (aH a b)
 |[],b=>by induction b using List.casesOn<;>rfl
 |x::a,[]=>rfl
 |x::a,y::b=>by
  have e:aH (x::a) (y::b)=bif af [x] [y]then aH a b+1 else 0:=rfl
  rw[e];cases h:af [x] [y]with
  |false=>rfl
  |true=>
   have:=ai.mp h
   injection this with h _
   rw[h,cond_true,List.take_succ_cons,List.take_succ_cons,pk a b]
theorem Al.pre:∀(c:List Nat) {a b:List Nat} {n:Int},Al (c++a) (c++b) n->∃m,m<=n/\Al a b m
 |[],_,_,n,h=>⟨n,Int.le_refl _,h⟩
 |x::c,_,_,n,h=>by
  obtain⟨m,h1,h2⟩:=h.strip;obtain⟨k,h3,h4⟩:=Al.pre c h2;exact⟨k,⋯,h4⟩
theorem Al.unpre:∀(c:List Nat) {a b:List Nat} {n:Int},Al a b n->Al (c++a) (c++b) n
 |[],_,_,_,h=>h
 |x::c,_,_,n,h=>(Al.sub x x (Al.unpre c h)).cast (by rw[pj];omega)
noncomputable def yx(a b a' b':List Nat):Prop:=(∀n,Al a b n->∃m,m<=n/\Al a' b' m)/\∀n,Al a' b' n->Al a b n
theorem sB(a b:List Nat):yx a b (a.drop (aH a b)) (b.drop (aH a b)):=by
 have ea:=List.take_append_drop (aH a b) a;have eb:=List.take_append_drop (aH a b) b;rw[<-pk]at eb;exact⟨λn h=>Al.pre (a.take (aH a b)) (by rw[ea,eb];exact h),λn h=>by
  have:=Al.unpre (a.take (aH a b)) h
  rwa [ea,eb]at this⟩
theorem yy{a b a' b':List Nat}(h:yx a.reverse b.reverse a'.reverse b'.reverse):yx a b a' b':=
 ⟨λn k=>by obtain⟨m,h1,h2⟩:=h.1 n k.rev;exact⟨m,h1,Al.rev_iff.mp h2⟩,λn k=>Al.rev_iff.mp (h.2 n k.rev)⟩
theorem uX(a:List Nat)(q:Nat):(aO a q).reverse=a.reverse.drop q:=by
 unfold aO;rw[List.reverse_take,List.drop_reverse,List.drop_reverse]
 by_cases h:q<=a.length
 ·rw[show a.length-(a.length-q)=q by omega]
 ·rw[show a.length-q=0 by omega];simp
theorem yz(a b:List Nat):yx a b (aO a (aH a.reverse b.reverse)) (aO b (aH a.reverse b.reverse)):=
 yy (by rw[uX,uX];exact sB _ _)
noncomputable def bg(a b:List Nat)(v:Int):Prop:=Al a b v/\∀n,Al a b n->v<=n
noncomputable def jp(a b:List Nat)(m r:Int):Prop:=bg a b r\/(r=m+1/\∀n,Al a b n->m<n)
theorem jp.equi{a b a' b':List Nat}{m r:Int}(e:yx a b a' b')(h:jp a' b' m r):jp a b m r:=by
 rcases h with h|⟨h1,h2⟩
 ·exact .inl ⟨e.2 _ h.1,λn k=>by obtain⟨x,h3,h4⟩:=e.1 n k;have:=h.2 x h4;omega⟩
 ·exact .inr ⟨h1,λn k=>by obtain⟨x,h3,h4⟩:=e.1 n k;have:=h2 x h4;omega⟩
theorem jp.sym{a b:List Nat}{m r:Int}(h:jp a b m r):jp b a m r:=h.imp (λh=>⟨h.1.sym,λn k=>h.2 n k.sym⟩) λh=>⟨h.1,λn k=>h.2 n k.sym⟩
theorem bg.rev{a b:List Nat}{v:Int}(h:bg a b v):bg a.reverse b.reverse v:=⟨h.1.rev,λn k=>h.2 n (Al.rev_iff.mp k)⟩
theorem bg.nil(a:List Nat):bg a [] (2*a.length):=⟨Al.all_del a,λn h=>by have:=h.sym.len;simp only[List.length_nil]at this;omega⟩
theorem bg.lin(b:List Nat):bg [] b (2*b.length):=⟨(Al.all_del b).sym,λn h=>by have:=h.len;simp only[List.length_nil]at this;omega⟩
theorem bg.step {a b:List Nat} {x y:Nat} {u d q res r:Int} (h1:bg a b u) (h2:bg (a++[x]) b d) (h3:bg a (b++[y]) q) (hr:res=q\/(res=u/\u<=q))
 (e:r=bif decide (u+bc y x<(bif decide (d<res)then d else res)+2)then u+bc y x else(bif decide (d<res)then d else res)+2):bg (a++[x]) (b++[y]) r:=by
 have c:=fB x y;have hrr:r<=u+bc x y/\r<=d+2/\r<=q+2/\(r=u+bc x y\/r=d+2\/r=q+2):=by
  rw[sz y x]at e;generalize bc x y=z at e c |-
  by_cases h:d<res
  ·rw[decide_eq_true h,cond_true]at e
   by_cases h':u+z<d+2
   ·rw[decide_eq_true h',cond_true]at e;omega
   ·rw[decide_eq_false h',cond_false]at e;omega
  ·rw[decide_eq_false h,cond_false]at e
   by_cases h':u+z<res+2
   ·rw[decide_eq_true h',cond_true]at e;omega
   ·rw[decide_eq_false h',cond_false]at e;omega
 obtain⟨g1,g2,g3,g4⟩:=hrr
 constructor
 ·rcases g4 with g|g|g
  ·rw[g];exact(h1.1.app (.sub x y .nil)).cast ⋯
  ·rw[g];exact((h2.1.app (.ins y .nil)).cast ⋯:Al (_++[]) (_++[y]) _)|>λh=>by rwa [List.append_nil]at h
  ·rw[g];exact((h3.1.app (.del x .nil)).cast ⋯:Al (_++[x]) (_++[]) _)|>λh=>by rwa [List.append_nil]at h
 ·intro n h
  replace h:=h.rev
  rw[List.reverse_append,List.reverse_append]at h;generalize ea:a.reverse=a',eb:b.reverse=b' at h;cases h with
  |sub _ _ h=>
   have:=h1.2 _ (Al.rev_iff.mp (by rw[ea,eb];exact h));omega
  |del _ h=>
   have:=h3.2 _ (Al.rev_iff.mp (by rw[ea,List.reverse_append,eb];exact h));omega
  |ins _ h=>
   have:=h2.2 _ (Al.rev_iff.mp (by rw[eb,List.reverse_append,ea];exact h));omega
theorem gQ{a:List Nat}{k:Nat}(h:k<a.length):a.take (k+1)=a.take k++[a.getD k 0]:=by
 rw[List.take_add_one,List.getElem?_eq_getElem h,List.getD_eq_getElem?_getD,List.getElem?_eq_getElem h];rfl
theorem yA{row:List Int}{k:Nat}{r:Int}(h:k<row.length):(row.set k r).getD k 0=r:=by
 rw[List.getD_eq_getElem?_getD,List.getElem?_set_self h];rfl
theorem uY{row:List Int}{k i:Nat}{r:Int}(h:k≠i):(row.set k r).getD i 0=row.getD i 0:=by
 rw[List.getD_eq_getElem?_getD,List.getElem?_set_ne h,List.getD_eq_getElem?_getD]
structure fC(a bj:List Nat)(c:Nat)(k:Nat)(s:LS):Prop where
 len:s.row.length=a.length
 lo:∀i,i<k->bg (a.take (i+1)) (bj++[c]) (s.row.getD i 0)/\s.mn<=s.row.getD i 0
 hi:∀i,k<=i->i<a.length->bg (a.take (i+1)) bj (s.row.getD i 0)
 dist:bg (a.take k) bj s.dist
 res:∃q,bg (a.take k) (bj++[c]) q/\(s.res=q\/(s.res=s.dist/\s.dist<=q))
 end_:0<k->bg (a.take k) (bj++[c]) s.res
theorem fC.step{a bj:List Nat}{c k:Nat}{s:LS}(h:fC a bj c k s)(hk:k<a.length):fC a bj c (k+1) (iF c a k s):=by
 obtain⟨q,h1,h2⟩:=h.res;have hd:=h.hi k (Nat.le_refl _) hk;have hl:k<s.row.length:=by rw[h.len];exact hk
 have ht:=gQ hk;have M:∀r,r=(bif decide (s.dist+bc c (a.getD k 0)<(bif decide (s.row.getD k 0<s.res)then s.row.getD k 0 else s.res)+2)then s.dist+bc c (a.getD k 0)else(bif decide (s.row.getD k 0<s.res)then s.row.getD k 0 else s.res)+2) ->
  bg (a.take (k+1)) (bj++[c]) r:=λr e=>by
  rw[ht]at hd |-;exact h.dist.step hd h1 h2 e
 obtain⟨r,hr⟩:∃r,r=(bif decide (s.dist+bc c (a.getD k 0)<(bif decide (s.row.getD k 0<s.res)then s.row.getD k 0 else s.res)+2)then s.dist+bc c (a.getD k 0)else(bif decide (s.row.getD k 0<s.res)then s.row.getD k 0 else s.res)+2):=⟨_,rfl⟩;have e:iF c a k s=⟨s.row.set k r,s.row.getD k 0,r,bif decide (r<s.mn)then r else s.mn⟩:=by rw[hr];rfl
 have mn1:(bif decide (r<s.mn)then r else s.mn)<=r/\(bif decide (r<s.mn)then r else s.mn)<=s.mn:=by
  by_cases g:r<s.mn
  ·rw[decide_eq_true g];exact⟨Int.le_refl _,Int.le_of_lt g⟩
  ·rw[decide_eq_false g];exact⟨Int.not_lt.mp g,Int.le_refl _⟩
 have M:=M r hr;rw[e];refine⟨(List.length_set ..).trans h.len,λi hi => ?_,λi hi hi2 => ?_,hd,⟨r,M, .inl rfl⟩,λ_=>M⟩
 ·dsimp only
  by_cases g:k=i
  ·subst g;rw[yA hl];exact⟨M,mn1.1⟩
  ·rw[uY g]
   have:=h.lo i ⋯;exact⟨this.1,Int.le_trans mn1.2 this.2⟩
 ·dsimp only
  rw[uY ⋯];exact h.hi i ⋯ hi2
theorem fC.run{a bj:List Nat}{c:Nat}{s:LS}(h:fC a bj c 0 s):∀k,k<=a.length->fC a bj c k (eG c a s k)
 |0,_=>h
 |k+1,hk=>(fC.run h k ⋯).step ⋯
theorem Al.split{a b:List Nat}{n:Int}(h:Al a b n):∀{b1 b2:List Nat},b=b1++b2->∃i m,i<=a.length/\m<=n/\Al (a.take i) b1 m:=by
 induction h with
 |nil=>intro b1 b2 e;exact⟨0,0,Nat.le_refl _,Int.le_refl _,by rw[(List.append_eq_nil_iff.mp e.symm).1];exact .nil⟩
 | @sub x y a b n h ih=>
   intro b1 b2 e;have c:=fB x y;cases b1 with
   |nil=>exact⟨0,0,Nat.zero_le _,by have:=h.nonneg;omega, .nil⟩
   |cons z b1=>
    injection e with e1 e2;subst e1
    obtain⟨i,m,h1,h2,h3⟩:=ih e2;exact⟨i+1,_,by rw[List.length_cons];omega,⋯, .sub x y h3⟩
 | @del x a b n h ih=>
   intro b1 b2 e;obtain⟨i,m,h1,h2,h3⟩:=ih e;exact⟨i+1,_,by rw[List.length_cons];omega,⋯, .del x h3⟩
 | @ins y a b n h ih=>
   intro b1 b2 e;cases b1 with
   |nil=>exact⟨0,0,Nat.zero_le _,by have:=h.nonneg;omega, .nil⟩
   |cons z b1=>
    injection e with e1 e2;subst e1
    obtain⟨i,m,h1,h2,h3⟩:=ih e2;exact⟨i,_,h1,⋯, .ins y h3⟩
theorem sC{a:List Nat}(ha:0<a.length)(m:Int):∀(bs bj:List Nat) (j:Nat) (row:List Int) (res:Int),j=bj.length->row.length=a.length->(∀i,i<a.length->bg (a.take (i+1)) bj (row.getD i 0))->(bs=[]->bg a bj res)->jp a (bj++bs) m (gr a m bs j row res)
 |[],bj,j,row,res,_,_,_,h => .inl (by rw[List.append_nil];exact h rfl)
 |c::bs,bj,j,row,res,hj,hl,hr,_=>by
  have J:fC a bj c a.length (eG c a ⟨row,(j:Int)*2,(j:Int)*2,AR⟩ a.length):=by
   refine fC.run ⟨hl,λi h=>absurd h (Nat.not_lt_zero _),λi _ h=>hr i h, ?_,⟨2*((bj++[c]).length:Nat),bg.lin _, .inr ⟨rfl, ?_⟩⟩,λh=>absurd h (Nat.lt_irrefl _)⟩ _ (Nat.le_refl _)
   ·rw[show(j:Int)*2=2*(bj.length:Nat)by omega];exact bg.lin bj
   ·simp only[List.length_append,List.length_singleton];omega
  show jp a (bj++c::bs) m (let s:=eG c a ⟨row,(j:Int)*2,(j:Int)*2,AR⟩ a.length;bif decide (m<s.mn)then m+1 else gr a m bs (j+1) s.row s.res);generalize eG c a ⟨row,(j:Int)*2,(j:Int)*2,AR⟩ a.length=s at J;dsimp only;rw[show bj++c::bs=(bj++[c])++bs by simp]
  by_cases g:m<s.mn
  ·rw[decide_eq_true g]
   refine .inr ⟨rfl,λn h => ?_⟩;obtain⟨i,n1,h1,h2,h3⟩:=h.split rfl;cases i with
   |zero=>
    have l1:=h3.len;obtain⟨d1,d2⟩:=J.lo 0 ha;have al:Al (a.take (0+1)) (bj++[c]) (2*(bj.length:Nat)+bc (a.getD 0 0) c):=by
     rw[gQ ha];exact((bg.lin bj).1.app (.sub _ _ .nil)).cast ⋯
    have:=d1.2 _ al;have:=fB (a.getD 0 0) c;simp only[List.length_append,List.length_singleton,List.take_zero,List.length_nil]at l1
    omega
   |succ i=>
    obtain⟨d1,d2⟩:=J.lo i ⋯;have:=d1.2 _ h3
    omega
  ·rw[decide_eq_false g]
   refine sC ha m bs (bj++[c]) (j+1) s.row s.res (by simp only[List.length_append,List.length_singleton];omega) J.len (λi h=>(J.lo i h).1) λ_ => ?_
   have:=J.end_ ha
   rwa [List.take_length]at this
theorem pn{a b:List Nat}(m:Int)(ha:0<a.length)(hab:a.length<=b.length):jp a b m (kl a b m):=by
 unfold kl
 by_cases g:m<((b.length:Int)-a.length)*2
 ·rw[decide_eq_true g]
  exact .inr ⟨rfl,λn h=>by have:=h.len;omega⟩
 ·rw[decide_eq_false g]
  refine sC ha m b [] 0 _ 0 rfl (by simp) (λi h => ?_) λe=>by rw[e]at hab;exact absurd hab (Nat.not_le.mpr ha)
  have e:((List.range' 1 a.length).map λi:Nat=>(i:Int)*2).getD i 0=2*((a.take (i+1)).length:Nat):=by
   rw[List.getD_eq_getElem?_getD,List.getElem?_map,List.getElem?_range' h,List.length_take,Nat.min_eq_left ⋯];show((1+1*i:Nat):Int)*2=_
   omega
  rw[e];exact bg.nil _
theorem yB{a b:List Nat}(m:Int)(ha:a.length<=40)(hb:b.length<=40):jp a b m (v5 a b m):=by
 unfold v5;cases a with
 |nil=>
  refine .inl ?_;have:=bg.lin b;rw[show 2*(((([]:List Nat).length:Nat):Int)+b.length)=2*(b.length:Nat)by simp only[List.length_nil];omega];exact this
 |cons x a=>cases b with
  |nil=>
   refine .inl ?_;show bg (x::a) [] (2*(((x::a).length:Int)+(([]:List Nat).length:Nat)));rw[show 2*(((x::a).length:Int)+(([]:List Nat).length:Nat))=2*((x::a).length:Nat)by simp only[List.length_nil];omega];exact bg.nil _
  |cons y b=>
   rw[decide_eq_false (Nat.not_lt.mpr ha),decide_eq_false (Nat.not_lt.mpr hb)];show jp (x::a) (y::b) m (bif decide ((y::b).length<(x::a).length)then kl (y::b) (x::a) m else kl (x::a) (y::b) m)
   by_cases g:(y::b).length<(x::a).length
   ·rw[decide_eq_true g]
    exact(pn m (show 0<(y::b).length from Nat.succ_pos _) (Nat.le_of_lt g)).sym
   ·rw[decide_eq_false g]
    exact pn m (show 0<(x::a).length from Nat.succ_pos _) (Nat.not_lt.mp g)
theorem yC{a b:List Nat}(m:Int)(ha:a.length<=40)(hb:b.length<=40):jp a b m (m9 a b m):=by
 unfold m9;cases h:af a b with
 |true=>
  rw[ai.mp h];have:∀b:List Nat,Al b b 0:=λb=>by have:=Al.unpre b Al.nil;rwa [List.append_nil]at this
  exact .inl ⟨this b,λn k=>k.nonneg⟩
 |false=>
  refine jp.equi (sB a b) (jp.equi (yz _ _) (yB m ?_ ?_))
  ·unfold aO;rw[List.length_take,List.length_drop];omega
  ·unfold aO;rw[List.length_take,List.length_drop];omega
theorem yD{a b:List Nat}{m v:Int}(ha:a.length<=40)(hb:b.length<=40)(h:bg a b v)(hm:v<=m+1):m9 a b m=v:=by
 rcases yC m ha hb with k|⟨k,k2⟩
 ·exact Int.le_antisymm (k.2 _ h.1) (h.2 _ k.1)
 ·have:=k2 _ h.1;omega
end
set_option hygiene false in
local macro_rules | `(tactic|walk_at $s:str)=>do
 let tb:=["op:p b_mod D|p b_div D D|p b_mulR r|p b_mulL r|R","lk:x_val at|x_own at|look_other W ee","el:evL_nil|evL_of ee el","cf:C","cm:R","ln:p len_list A|p len_tup A|p len_str A","ff:f_n|f_nt|f_norm|f_simple|R","ee:e_const R|x_loc at|ev_add lk ee op|ev_bin D ee ee op|ev_cmp D ee ee op|ev_field r ee ff|ev_len K lk ln|ev_call K K K el cf|ev_meth r D r ee el cm"];let mut t <- `(tactic|fail)
 if s.getString=="at" then
  for j in [0:32]do
   t <- `(tactic|first|exact .of $(Lean.quote (31-j)) (by decide +kernel) rfl| $t:tactic)
  return t
 let some r:=tb.find? (λx=>x.startsWith (s.getString++":"))|Lean.Macro.throwUnsupported
 for a in ((r.splitOn ":").getLast!.splitOn "|").reverse do
  let mut q <- `(tactic|skip);let mut p:=false
  for w in a.splitOn " " do
   if w=="p" then p:=true
   else
    let x <-if w=="D" then `(tactic|decide)else if w=="R" then `(tactic|exact rfl)else if w=="r" then `(tactic|rfl)else if w=="K" then `(tactic|kernel_rfl)else if w=="A" then `(tactic|assumption)else if w=="W" then `(tactic|with_reducible rfl)else if w=="C" then `(tactic|exact bL ∅ rfl)else if w.length==2 then `(tactic|walk_at $(Lean.quote w))else `(tactic|apply $(Lean.mkIdent (.mkSimple w)))
    q <-if p||w.length<3 then `(tactic|($q:tactic; $x:tactic))else `(tactic|($q:tactic;with_reducible $x:tactic))
    p:=false
  t <- `(tactic|first| $q:tactic| $t:tactic)
 return t
section
open PySem PySem.W PySem.Challenge
theorem mH{a b:Nat}(ha:a<=10000)(hb:b<=10000):dN [.int (a:Int), .int (b:Int)]=(true,(List.range' a (b-a)).map λi:Nat => .int (i:Int)):=by
 have hs:Builtin.Range.rangeSize (a:Int) (b:Int) 1=((b-a:Nat):Int):=by
  unfold Builtin.Range.rangeSize;simp
  omega
 have h1:bC (a:Int) (b:Int) 1=true:=by
  have fl:∀i:Int, -2<=i->i<=20000->Builtin.Range.rangeFitsLong i=true:=λi a b=>by
   unfold Builtin.Range.rangeFitsLong;simp
   omega
  unfold bC Builtin.Range.small;rw[hs,fl a ⋯ ⋯,fl b ⋯ ⋯,fl 1 ⋯ ⋯,if_pos nofun,fl (b+(1-1)) ⋯ ⋯,fl ((b-a:Nat):Int) ⋯ ⋯,decide_eq_true (show((b-a:Nat):Int)<=10000 by omega)];simp
 show((bC (a:Int) (b:Int) 1,(cA (a:Int) (b:Int) 1).map V.int):Bool×List V)=_;rw[h1];unfold cA;rw[hs,Int.toNat_natCast,iD,List.map_map];rfl
noncomputable def vN(i:Nat):V := .int (i:Int)
theorem Cu{s:List Nat}(h:s.length<=cap):li (.str s)=(true,s.map λc=>V.str [c]):=by
 show((decide (s.length<=cap),nv s):Bool×List V)=_;rw[decide_eq_true h];rfl
theorem Cf{s:List V}(h:s.length<=cap):li (.list s)=(true,s):=by
 show((decide (s.length<=cap),s):Bool×List V)=_;rw[decide_eq_true h]
theorem Cg(a k:Nat):List.range' a (k+1)=List.range' a k++[a+k]:=by
 rw[List.range'_concat];simp
theorem uZ{row:List Nat}{i:Nat}(h:i<row.length):(row.map vN).getD i .none=vN (row.getD i 0):=by
 simp[List.getD_eq_getElem?_getD,h]
theorem sD{α:Type}{f:α->V}{row:List α}{i:Nat}(d:α)(h:i<row.length):(row.map f).getD i .none=f (row.getD i d):=by
 simp[List.getD_eq_getElem?_getD,h]
theorem getD_mem{α:Type}{row:List α}{i:Nat}(d:α)(h:i<row.length):row.getD i d∈row:=by
 rw[List.getD_eq_getElem?_getD,List.getElem?_eq_getElem h];exact List.getElem_mem h
noncomputable def tableL:List Nat:=[173,847,6150,6155,6156,6157,8203,8204,8205,8288,65279,65024,65025,65026,65027,65028,65029,65030,65031,65032,65033,65034,65035,65036,65037,65038,65039]
theorem Ch{k:Nat}:bW .Sub (vN (k+1)) (vN 1)=(true,vN k):=by
 show((true,V.int (((k+1:Nat):Int)-1)):R)=(true,V.int (k:Int));rw[show((k+1:Nat):Int)-1=(k:Int)by omega]
theorem add_str{a b:List Nat}(h:a.length+b.length<=cap):bW .Add (.str a) (.str b)=(true, .str (a++b)):=by
 show((decide (a.length+b.length<=cap),V.str (a++b)):R)=_;rw[decide_eq_true h]
theorem yE{c:Nat}(h:c<1114112):eJ (nm "chr") [vN c]=(true, .str [c]):=by
 show((decide (0<=(c:Int))&&decide ((c:Int)<1114112),V.str [(c:Int).toNat]):R)=_;rw[decide_eq_true ⋯,decide_eq_true ⋯];rfl
theorem Ci{c:Nat}:eJ (nm "ord") [.str [c]]=(true,vN c):=rfl
theorem eO{a k:Nat}(h:k≠0):bW .Mod (vN a) (vN k)=(true,vN (a%k)):=b_mod h
theorem mI{a k:Nat}(h:k≠0)(h2:k<10000000000):bW .FloorDiv (vN a) (vN k)=(true,vN (a/k)):=b_div h h2
theorem iH{l:List Nat}{k:Nat}(hs:l.length<=cap)(hk:k<l.length):gR 0 (.list (l.map vN)) (vN k)=(true,vN (l.getD k 0)):=
 mC (by rw[List.length_map];exact hs) (by rw[List.length_map];exact hk) (uZ hk)
theorem u4{l:List Nat}{k:Nat}(hs:l.length<=cap)(hk:k<l.length):gR 0 (.tup (l.map vN)) (vN k)=(true,vN (l.getD k 0)):=
 pg (by rw[List.length_map];exact hs) (by rw[List.length_map];exact hk) (uZ hk)
theorem Dv{l:List (List Nat)}{k:Nat}(hs:l.length<=cap)(hk:k<l.length):gR 0 (.list (l.map .str)) (vN k)=(true, .str (l.getD k [])):=
 mC (by rw[List.length_map];exact hs) (by rw[List.length_map];exact hk) (sD [] hk)
theorem po{α β:Type}(f:α->β){row:List α}{i:Nat}(d:α)(e:β)(h:i<row.length):(row.map f).getD i e=f (row.getD i d):=by
 simp[List.getD_eq_getElem?_getD,h]
noncomputable def sE(t:List Nat):Prop:=∀c∈t,c≠10/\c≠13
theorem mJ:∀(t r:List Nat),sE t->aM false (t++r)=t++aM false r
 |[],r,_=>rfl
 |c::t,r,h=>by
  have hc:=h c (List.mem_cons_self ..);have a:(c==13)=false:=by rw[beq_eq_false_iff_ne];exact hc.2
  have b:(c==10)=false:=by rw[beq_eq_false_iff_ne];exact hc.1
  show(bif c==13 then _ else bif c==10 then _ else c::aM false (t++r))=_;rw[a,b];show c::aM false (t++r)=_;rw[mJ t r λx hx=>h x (List.mem_cons_of_mem _ hx)];rfl
theorem mK:∀(t r:List Nat),sE t->bd false (t++r)=t++bd false r
 |[],r,_=>rfl
 |c::t,r,h=>by
  have hc:=h c (List.mem_cons_self ..);have b:(c==10)=false:=by rw[beq_eq_false_iff_ne];exact hc.1
  show(bif false&&c==46 then _ else c::bd (c==10) (t++r))=_;rw[b];show c::bd false (t++r)=_;rw[mK t r λx hx=>h x (List.mem_cons_of_mem _ hx)];rfl
noncomputable def fQuoteP:List V->R:=fm (sS λx=>(decide (x.length<=10000), .str (bd true (aM false x))))
theorem jq:∀(b:Bool) (x:List Nat),(aM b x).length<=2*x.length
 |_,[]=>Nat.le_refl _
 |b,c::x=>by
  have h1:=jq true x;have h2:=jq false x;show(bif c==13 then 13::10::aM true x else bif c==10 then(bif b then aM false x else 13::10::aM false x)else c::aM false x).length<=2*(x.length+1);cases c==13<;>cases c==10<;>induction b using Bool.casesOn<;>simp<;>omega
theorem Au{as:List V}(h:(fQuoteP as).1=true):fQuote as=fQuoteP as:=by
 refine kL (λas r=>fQuote as=r) h λv h=>wV (λv r=>fQuote [v]=r) h λx h => ?_
 have h1:=of_decide_eq_true h;rw[decide_eq_true h1];show((decide (x.length<=100000)&&decide ((hV x).length<=100000),V.str (uT (hV x))):R)=_;have h2:(hV x).length<=100000:=by
  have:hV x=aM false x:=by unfold hV;rw[mE x _ 0 ⋯,List.drop_zero]
  rw[this];have:=jq false x;omega
 rw[decide_eq_true ⋯,decide_eq_true h2,sv];rfl
theorem Dw{k:Nat}{ns:List Int}(h:ns.length<=1000):(bx 11 (k:Int) (ns.map V.int)).all mV=true/\(bx 11 (k:Int) (ns.map V.int)).length<=cap:=by
 unfold bx
 constructor
 ·rw[List.all_eq_true]
  intro x hx;obtain⟨i,_,hi⟩:=List.mem_filterMap.mp hx;obtain⟨j,_,rfl⟩:=List.mem_map.mp (List.mem_of_getElem? hi)
  rfl
 ·refine Nat.le_trans (List.length_filterMap_le _ _) (Nat.le_trans (sliceRange_length_le _ _ _ (ns.map V.int).length (λ_=>⟨⋯,⋯⟩) λh=>absurd nofun h) ?_)
  rw[List.length_map];unfold cap;omega
theorem Dx{Φ:Fns}{τ:Tau}{μ:List Nm}{W n:Nat}{κ:List (Str×NameKind)}{ns:List Nm}{ss ss':List Mine.Slot}{rest:List Stmt}{res:Res}{p:Pos}{t:Expr}{a b:List Stmt}{v:V}(c:Bool)(hf:freeze (aB 40 t) (aj ns ss)=aj ns ss')(hp:(aI a&&aI b&&aq (fits 20) a&&aq (fits 20) b)=false)(h:ev Φ τ 40 κ (aj ns ss') t=(true,v))(hv:aa v=(true,c))(hr:ex Φ τ μ W κ n ((bif c then a else b)++rest) (aj ns ss')=res):
 ex Φ τ μ W κ (n+1) (.If t a b p::rest) (aj ns ss)=res:=
 dH hp (by rw[hf];exact h) hv (by rw[hf];exact hr)
theorem Dy(k:Nat)(l:List Nat):dL (k+2) (.list (l.map vN))=true:=List.all_eq_true.mpr λx m=>by
 obtain⟨n,_,rfl⟩:=List.mem_map.mp m;rfl
theorem DV(d:Nat):ei [46] (d:Int)=List.replicate d 46:=by
 unfold ei;rw[Int.toNat_natCast]
 induction d with
 |zero=>rfl
 |succ n ih=>rw[List.replicate_succ,List.flatten_cons,ih,List.replicate_succ];rfl
theorem Cv{l:List V}{k:Nat}(hs:l.length<=cap):df (.list l) .none (.int (k:Int)) .none=(true, .list (l.take k)):=by
 show((decide (l.length<=cap),V.list (jY l none (some (k:Int)))):R)=_;rw[decide_eq_true hs]
 congr 2
 unfold jY bound;dsimp only;rw[show decide ((k:Int)<0)=false by simp];simp only[cond_false,Int.toNat_natCast,List.drop_zero,Nat.sub_zero]
 by_cases h:k<=l.length
 ·rw[show Nat.min k l.length=k from Nat.min_eq_left h]
 ·rw[show Nat.min k l.length=l.length from Nat.min_eq_right ⋯,List.take_of_length_le (Nat.le_refl _),List.take_of_length_le ⋯]
theorem AV{l:List V}{k:Nat}(hs:l.length<=cap):df (.list l) (.int (k:Int)) .none .none=(true, .list (l.drop k)):=by
 show((decide (l.length<=cap),V.list (jY l (some (k:Int)) none)):R)=_;rw[decide_eq_true hs]
 congr 2
 unfold jY bound;dsimp only;rw[show decide ((k:Int)<0)=false by simp];simp only[cond_false,Int.toNat_natCast]
 by_cases h:k<=l.length
 ·rw[show Nat.min k l.length=k from Nat.min_eq_left h];exact List.take_of_length_le (by simp)
 ·rw[show Nat.min k l.length=l.length from Nat.min_eq_right ⋯,List.drop_eq_nil_of_le (Nat.le_refl _),List.drop_eq_nil_of_le ⋯];simp
theorem sF{Φ:Fns}{s:List Nat}{c:Nat}(hs:s.length<=cap):eU Φ (nm "count") (.str s) [.str [c]]=(true,vN (s.count c)):=by
 have e:eU Φ (nm "count") (.str s) [.str [c]]=((decide (s.length<=cap) && !([c].isEmpty),V.int (pM s [c])):R):=∅;rw[e,decide_eq_true hs,yw];rfl
theorem DW(a b:Nat):eJ (nm "max") [vN a,vN b]=(true,vN (Nat.max a b)):=by
 show((true,V.int (bif decide ((a:Int)<(b:Int))then(b:Int)else(a:Int))):R)=(true,V.int ((Nat.max a b:Nat):Int))
 congr 2
 by_cases h:a<b
 ·rw[decide_eq_true (show(a:Int)<(b:Int)by omega),show Nat.max a b=b from Nat.max_eq_right ⋯];rfl
 ·rw[decide_eq_false (show ¬(a:Int)<(b:Int)by omega),show Nat.max a b=a from Nat.max_eq_left ⋯];rfl
theorem Av(a b:Nat):eJ (nm "min") [vN a,vN b]=(true,vN (Nat.min a b)):=by
 show((true,V.int (bif decide ((b:Int)<(a:Int))then(b:Int)else(a:Int))):R)=(true,V.int ((Nat.min a b:Nat):Int))
 congr 2
 by_cases h:b<a
 ·rw[decide_eq_true (show(b:Int)<(a:Int)by omega),show Nat.min a b=b from Nat.min_eq_right ⋯];rfl
 ·rw[decide_eq_false (show ¬(b:Int)<(a:Int)by omega),show Nat.min a b=a from Nat.min_eq_left ⋯];rfl
theorem sG(a b:Nat):pK .Eq (vN a) (vN b)=(true,Nat.beq a b):=by
 show((true,decide ((a:Int)=(b:Int))):Bool×Bool)=_
 congr 1
 cases e:Nat.beq a b with
 |true=>exact decide_eq_true (by rw[Nat.eq_of_beq_eq_true e])
 |false=>have:=Nat.ne_of_beq_eq_false e;exact decide_eq_false ⋯
theorem Ez{n:Nat}{f:Nat->Nat}{j:Nat}(hn:n<=100)(hj:j<n):gR 0 (.list ((List.range' 0 n).map λj=>vN (f j))) (vN j)=(true,vN (f j)):=by
 refine mC (by simp[cap];omega) (by simp;exact hj) ?_;rw[List.getD_eq_getElem?_getD,List.getElem?_map,List.getElem?_range' hj];simp
theorem Dz(a b:Nat):pK .Lt (vN a) (vN b)=(true,Nat.blt a b):=by
 show((true,decide ((a:Int)<(b:Int))):Bool×Bool)=_
 congr 1
 cases e:Nat.blt a b with
 |true=>have:=Nat.le_of_ble_eq_true e;exact decide_eq_true ⋯
 |false=>have:=Nat.not_le_of_not_ble_eq_true (n:=a+1) (m:=b) (by show ¬Nat.blt a b=true;rw[e];simp);exact decide_eq_false ⋯
noncomputable def jr:List V->R:=bY nc [(nm "count",1)] 1000 (dB ["self","tabsize"] qv)
noncomputable abbrev ET:List (Str×NameKind):=qv.scope.names
noncomputable abbrev nN:List Nm:=kY ET
noncomputable def hZ(cnt:List Int)(ts:Nat):Nat->Int
 |0=>0
 |k+1=>hZ cnt ts k+((ts+k)/ts:Nat)*cnt.getD (ts+k) 0
noncomputable def u5(cnt:List Int)(b nt:Int)(ts:Nat):Int:=b+(ts:Int)*(hZ cnt ts (cnt.length-ts)+nt)
theorem yF{l:List V}{k:Nat}{i:Int}(hs:l.length<=cap)(hk:k<l.length)(hi:l.getD k .none = .int i):gR 1 (.tup l) (.int (k:Int))=(true, .int i):=by
 show((aL l.length (k:Int)&&decide (l.length<=cap)&&mV (l.getD (place l.length (k:Int)) .none),V.int (getI (l.getD (place l.length (k:Int)) .none))):R)=_;rw[decide_eq_true hs];unfold aL place;rw[show decide ((k:Int)<0)=false by simp];simp only[cond_false,Int.toNat_natCast];rw[show decide (-(l.length:Int)<=(k:Int))=true from decide_eq_true ⋯,show decide ((k:Int)<(l.length:Int))=true from decide_eq_true ⋯,hi]
 rfl
theorem ub(raw:List Nat)(n nt:Int)(cnt:List Int)(b:Int)(sm:Bool)(ts:Nat)(h:cnt.length<=1000)(h1:1<=ts)(h2:ts<=1000):jr [.ws raw n nt cnt b sm, .int (ts:Int)]=(true, .int (u5 cnt b nt ts)):=by
 have hl:(cnt.map V.int).length<=cap:=by rw[List.length_map];unfold cap;omega
 have e:((cnt.map V.int).length:Int)=(cnt.length:Int):=by rw[List.length_map]
 have ht:small (ts:Int)=true:=by unfold small big;rw[decide_eq_true ⋯,decide_eq_true ⋯];rfl
 refine qB (ns:=nN) (ss:=[.val (.ws raw n nt cnt b sm), .val (.int ts), .un, .un, .un, .un]) rfl ∅ ?_;refine cO (ρ':=aj nN [.val (.ws raw n nt cnt b sm), .val (.int ts), .val (.tup (cnt.map .int)), .val (.int b), .un, .un]) ∅ ?_;refine dw 4 ∅ (by decide +kernel) (v := .int 0) (by walk_at "ee") rfl ?_;rw[show(0:Int)=hZ cnt ts (ts-ts)by rw[Nat.sub_self];rfl];refine qA (λi=>[.val (.ws raw n nt cnt b sm), .val (.int ts), .val (.tup (cnt.map .int)), .val (.int b), .val (.int (hZ cnt ts (i-ts))), .un]) (λi => .int (i:Int)) ts (cnt.length-ts) ∅
  (ff ∅ rfl (vs:=[.int ts, .int cnt.length]) (by rw[<-e];walk_at "el") (mH ⋯ ⋯)) ∅ (λj hj hj2 => ?_) ?_
 ·obtain⟨k,rfl⟩:∃k,j=ts+k:=⟨j-ts,⋯⟩
  have hk:ts+k<cnt.length:=⋯;refine⟨[.val (.ws raw n nt cnt b sm), .val (.int ts), .val (.tup (cnt.map .int)), .val (.int b), .val (.int (hZ cnt ts (ts+k-ts))), .val (.int ((ts+k:Nat):Int))],
   [.val (.ws raw n nt cnt b sm), .val (.int ts), .val (.tup (cnt.map .int)), .val (.int b), .val (.int (hZ cnt ts (ts+k+1-ts))), .val (.int ((ts+k:Nat):Int))],∅, ?_,∅⟩
  rw[show ts+k+1-ts=k+1 by omega,show ts+k-ts=k by omega];refine dw 4 ∅ (by decide +kernel) (v := .int (hZ cnt ts (k+1))) ?_ rfl aR;have hi:(cnt.map V.int).getD (ts+k) .none = .int (cnt.getD (ts+k) 0):=mr hk;refine ev_add (x := .int (hZ cnt ts k)) (y := .int (((ts+k)/ts:Nat)*cnt.getD (ts+k) 0)) (by walk_at "lk") ?_ rfl;refine ev_bin nofun (x := .int ((ts+k)/ts:Nat)) (y := .int (cnt.getD (ts+k) 0)) ?_ ?_ (b_mulL ?_)
  ·refine ev_bin nofun (x := .int (ts+k:Nat)) (y := .int ts) (by walk_at "ee") (by walk_at "ee") (b_div ⋯ ⋯)
  ·exact aE rfl (x := .tup (cnt.map .int)) (y := .int (ts+k:Nat)) (by walk_at "lk") (by walk_at "ee") (ty:=1) ∅ (yF hl (by rw[List.length_map];exact hk) hi)
  ·exact jR (by have:(ts+k)/ts<=ts+k:=Nat.div_le_self _ _;generalize (ts+k)/ts=q at *;omega)
 ·rw[show ts+(cnt.length-ts)-ts=cnt.length-ts by omega]
  refine yt ∅ ?_;refine ev_add (x := .int b) (y := .int ((ts:Int)*(hZ cnt ts (cnt.length-ts)+nt))) (by walk_at "lk") ?_ rfl;exact ev_bin nofun (x := .int ts) (y := .int (hZ cnt ts (cnt.length-ts)+nt)) (by walk_at "ee") (by walk_at "ee") (b_mulL ht)
noncomputable def fIndentP:List V->R:=qN λx y=>D6 (λraw n nt cnt b sm=>js (λt=>(decide (cnt.length<=1000)&&decide (1<=t)&&decide (t<=1000), .int (u5 cnt b nt t.toNat))) y) x
theorem yG{as:List V}(h:(fIndentP as).1=true):jr as=fIndentP as:=by
 refine zc (λas r=>jr as=r) h λx y h=>Be (λv r=>jr [v,y]=r) h λraw n nt cnt b sm h=>Bd (λv r=>jr [.ws raw n nt cnt b sm,v]=r) h λt h => ?_
 have h0:=ay h;have h1:=of_decide_eq_true (ay h0.1).1;have h2:=of_decide_eq_true (ay h0.1).2;have h3:=of_decide_eq_true h0.2;rw[decide_eq_true h1,decide_eq_true h2,decide_eq_true h3];obtain⟨k,rfl⟩:∃k:Nat,t=k:=⟨t.toNat,(Int.toNat_of_nonneg (Int.le_of_lt h2)).symm⟩;exact ub raw n nt cnt b sm k h1 (Int.ofNat_le.mp h2) (Int.ofNat_le.mp h3)
noncomputable def pairsL:List (Nat×Nat):=[(3,5),(3,7),(3,11),(3,13),(5,3),(5,7),(5,11),(5,13),(7,3),(7,5),(7,11),(7,13),(11,3),(11,5),(11,7),(13,3),(13,5),(13,7)]
noncomputable def aY(p q:Nat):List Nat:=(List.range' 1 (p/2)).map λk=>k*q/p*p+p
noncomputable def aJ(p q:Nat):List (Nat×Bool):=(List.range' 1 (p/2)).map λk=>(Nat.min (p-k*q%p) (k*q%p)-1,Nat.blt (p-k*q%p) (k*q%p))
noncomputable def EU:Fns:=⟨GL,[(nm "Whitespace",Dc runW)],[(nm "indent_level",fIndentP)]⟩
noncomputable def fStops:List V->R:=bY EU [] 1000 (dB ["p","q"] yk)
theorem pu:∀x∈pairsL,fStops [vN x.1,vN x.2]=(true, .list ((aY x.1 x.2).map vN)):=by
 unfold pairsL
 repeat refine List.forall_mem_cons.mpr ⟨∅, ?_⟩
 exact λ_ h=>nomatch h
section
variable {Φ:Fns} {τ:Tau} {μ:List Nm} {W n:Nat} {κ:List (Str×NameKind)} {ns:List Nm} {ss:List Mine.Slot} {rest:List Stmt} {res:Res} {p:Pos}
theorem gy {t:Expr} {a b:List Stmt} {v:V} {ssa ssb ss':List Mine.Slot} (c:Bool) (hf:freeze (aB 40 t) (aj ns ss)=aj ns ss) (hp:(aI a&&aI b&&aq (fits 20) a&&aq (fits 20) b)=true) (h:ev Φ τ 40 κ (aj ns ss) t=(true,v)) (hv:aa v=(true,c))
 (ha:ex Φ τ μ W κ n a (aj ns ss)=(true, .next (aj ns ssa))) (hb:ex Φ τ μ W κ n b (aj ns ss)=(true, .next (aj ns ssb))) (hm:et (aC (c9 20) a++aC (c9 20) b) c (aj ns ssa) (aj ns ssb)=aj ns ss') (hr:ex Φ τ μ W κ n rest (aj ns ss')=res):
 ex Φ τ μ W κ (n+1) (.If t a b p::rest) (aj ns ss)=res:=
 jg hp (by rw[hf];exact h) hv (by rw[hf];exact ha) (by rw[hf];exact hb) (by cases c<;>rfl) (by rw[hm];exact hr)
end
noncomputable def famL:List Nat:=[0,1,2,4,7,8,9,10,11,12]
noncomputable def aZ(l x:Nat):Nat:=119808+52*famL.getD (x/6%10) 0+l
noncomputable def gz(x:Nat):Nat:=tableL.getD (x/60%27) 0
noncomputable def km(y:Nat×Bool)(x:Nat):Nat:=bif y.2 then 65+y.1 else bif Nat.beq (x/3%2) 0 then 97+y.1 else aZ y.1 x
noncomputable def c8(y:Nat×Bool)(x:Nat):List Nat:=(bif Nat.beq (x%3) 0 then[gz x]else[])++[km y x]
noncomputable def d7(y:Nat×Bool)(x:Nat):Nat:=(bif Nat.beq (x%3) 0 then 2 else 0)+bif y.2 then 1 else bif Nat.beq (x/3%2) 0 then 0 else 2
section
variable (L:List (Nat×Bool)) (ns:List Nat)
noncomputable def bn:Nat->List Nat
 |0=>[]
 |k+1=>bn k++c8 (L.getD k (0,false)) (ns.getD k 0)
noncomputable def bS:Nat->List Nat
 |0=>[]
 |k+1=>bS k++[97+(L.getD k (0,false)).1]
noncomputable def aU:Nat->Nat
 |0=>0
 |k+1=>aU k+d7 (L.getD k (0,false)) (ns.getD k 0)
theorem wb(y:Nat×Bool)(x:Nat):(c8 y x).length<=2:=by
 unfold c8;cases Nat.beq (x%3) 0<;>simp
theorem d8:∀k,(bn L ns k).length<=2*k
 |0=>Nat.le_refl _
 |k+1=>by
  have:=wb (L.getD k (0,false)) (ns.getD k 0);have:=d8 k;show(bn L ns k++_).length<=_;rw[List.length_append];omega
theorem fh:∀k,(bS L k).length=k
 |0=>rfl
 |k+1=>by show(bS L k++[_]).length=_;rw[List.length_append,fh k];rfl
end
noncomputable abbrev EM:List (Str×NameKind):=qw.scope.names
noncomputable abbrev nT:List Nm:=kY EM
noncomputable def fTyped:List V->R:=bY nc [] 1000 (dB ["p","q","stops","numbers"] qw)
theorem cJ:∀x∈pairsL,x.1<=13/\x.2<=13/\(∀k,k<x.1/2->0<(k+1)*x.2%x.1)/\3<=x.1:=by decide +kernel
noncomputable def uc(p q stops numbers table text bare price k wide x letter:Mine.Slot):List Mine.Slot:=[p,q,stops,numbers,table,text,bare,price,k,wide,x,letter]
theorem Cj:((List.range 6).all λl=>af (pL [97+l]) [65+l])=true:=by decide +kernel
theorem yH{l:Nat}(h:l<6):eU nc (nm "upper") (.str [97+l]) []=(true, .str [65+l]):=by
 have:=ai.mp (List.all_eq_true.mp Cj l (List.mem_range.mpr h));rw[<-this];kernel_rfl
theorem we(x:Nat):famL.getD (x/6%10) 0<=12:=by
 have:∀i,i<10->famL.getD i 0<=12:=nofun
 exact this _ (Nat.mod_lt _ nofun)
theorem wg(x:Nat):gz x<65280:=by
 have:∀i,i<27->tableL.getD i 0<65280:=nofun
 exact this _ (Nat.mod_lt _ nofun)
noncomputable abbrev bT:List Stmt:=jk qw.body[2]?
set_option maxHeartbeats 2000000 in
theorem ud{x:Nat×Nat}(hx:x∈pairsL){nums:List Nat}(hn:nums.length=6){k:Nat}(hk:k<x.1/2)(T B:List Nat)(pr:Nat)(hT:T.length<=100)(hB:B.length<=100):
 ∃w l,ex nc [] [] 1000 EM 197 bT (aj nT (uc (.val (vN x.1)) (.val (vN x.2)) (.val (.list ((aY x.1 x.2).map vN))) (.val (.list (nums.map vN))) (.val (.list (tableL.map vN))) (.val (.str T)) (.val (.str B)) (.val (vN pr)) (.val (vN k)) .un .un .un)) =
  (true, .next (aj nT (uc (.val (vN x.1)) (.val (vN x.2)) (.val (.list ((aY x.1 x.2).map vN))) (.val (.list (nums.map vN))) (.val (.list (tableL.map vN))) (.val (.str (T++c8 ((aJ x.1 x.2).getD k (0,false)) (nums.getD k 0)))) (.val (.str (B++[97+((aJ x.1 x.2).getD k (0,false)).1]))) (.val (vN (pr+d7 ((aJ x.1 x.2).getD k (0,false)) (nums.getD k 0)))) (.val (vN k)) (.val (vN w)) (.val (vN (nums.getD k 0))) (.val (.str [97+l]))))):=by
 obtain⟨f1,f2,f3,f4⟩:=cJ x hx;obtain⟨p,q⟩:=x;dsimp only at f1 f2 f3 f4 hk |-;have h6:k<6:=⋯;have hv:=f3 k hk;have hv2:(k+1)*q%p<p:=Nat.mod_lt _ ⋯;have hdm:=Nat.div_add_mod ((k+1)*q) p;have es:(aY p q).getD k 0=(k+1)*q/p*p+p:=by
  unfold aY;rw[po _ 0 0 (by simpa using hk)];rw[List.getD_eq_getElem?_getD,List.getElem?_range' hk,show 1+1*k=k+1 by omega];rfl
 have el:(aJ p q).getD k (0,false)=(Nat.min (p-(k+1)*q%p) ((k+1)*q%p)-1,Nat.blt (p-(k+1)*q%p) ((k+1)*q%p)):=by
  unfold aJ;rw[po _ 0 (0,false) (by simpa using hk)];rw[List.getD_eq_getElem?_getD,List.getElem?_range' hk,show 1+1*k=k+1 by omega];rfl
 have hsl:(aY p q).length=p/2:=by unfold aY;simp
 obtain⟨st,hst⟩:∃st,st=aY p q:=⟨_,rfl⟩;rw[el];rw[<-hst]at es hsl |-;clear el hst;generalize hvv:(k+1)*q%p=v at *;generalize (k+1)*q/p=d at *;obtain⟨w,hw⟩:∃w,w=p-v:=⟨_,rfl⟩;obtain⟨l,hl⟩:∃l,l=Nat.min w v-1:=⟨_,rfl⟩;obtain⟨y,hy⟩:∃y,y=nums.getD k 0:=⟨_,rfl⟩;rw[<-hw,<-hl,<-hy];have hmin:Nat.min w v=l+1:=by
  have:1<=Nat.min w v:=Nat.le_min.mpr ⟨⋯,⋯⟩
  omega
 have hl6:l<6:=by
  have h1:Nat.min w v<=w:=Nat.min_le_left _ _;have h2:Nat.min w v<=v:=Nat.min_le_right _ _
  omega
 have cs:st.length<=cap:=by rw[hsl];unfold cap;omega
 have cn:nums.length<=cap:=by rw[hn];decide
 have sub1:bW .Sub (vN p) (vN w)=(true,vN v):=by
  show((true,V.int ((p:Int)-(w:Int))):R)=(true,V.int (v:Int))
  congr 2;omega
 refine⟨w,l, ?_⟩;refine qC (vs:=[vN w,vN y]) (ss':=uc (.val (vN p)) (.val (vN q)) (.val (.list (st.map vN))) (.val (.list (nums.map vN))) (.val (.list (tableL.map vN))) (.val (.str T)) (.val (.str B)) (.val (vN pr)) (.val (vN k)) (.val (vN w)) (.val (vN y)) .un) ∅ (by decide +kernel) (evL_of ?_ (evL_of ?_ evL_nil)) (by simp[cap]) ∅ ?_
 ·refine ev_bin nofun (x:=vN (d*p+p)) (y:=vN ((k+1)*q)) ?_ ?_ ?_
  ·rw[<-es]
   exact aE rfl (x := .list (st.map vN)) (y:=vN k) (by walk_at "lk") (by walk_at "ee") (ty:=0) ∅ (iH cs (by rw[hsl];exact hk))
  ·refine ev_bin nofun (x:=vN (k+1)) (y:=vN q) (ev_add (x:=vN k) (y:=vN 1) (by walk_at "lk") ∅ rfl) (by walk_at "ee") ?_
   rw[show vN ((k+1)*q)=V.int (((k+1:Nat):Int)*(q:Int))by unfold vN;rw[Int.natCast_mul]];exact b_mulL (jR ⋯)
  ·show((true,V.int (((d*p+p:Nat):Int)-(((k+1)*q:Nat):Int))):R)=(true,V.int (w:Int))
   have:p*d=d*p:=Nat.mul_comm _ _
   congr 2;omega
 ·rw[hy]
  exact aE rfl (x := .list (nums.map vN)) (y:=vN k) (by walk_at "lk") (by walk_at "ee") (ty:=0) ∅ (iH cn ⋯)
 refine dw 11 ∅ (by decide +kernel) (v := .str [97+l]) ?_ (s := .val (.str [97+l])) rfl ?_
 ·refine aE rfl (x := .str [97,98,99,100,101,102]) (y:=vN l) (look_other rfl ∅) ?_ (ty:=0) ∅ ?_
  ·refine ev_bin nofun (x:=vN (l+1)) (y:=vN 1) ?_ ∅ Ch
   rw[<-hmin];exact ev_call ∅ ∅ ∅ (vs:=[vN w,vN v]) (evL_of (by walk_at "ee") (evL_of (ev_bin nofun (x:=vN p) (y:=vN w) (by walk_at "ee") (by walk_at "ee") sub1) evL_nil)) (bL rfl (Av w v))
  ·refine(eE (by simp[cap]) (show l<6 from hl6)).trans ?_
   have:∀i,i<6->([97,98,99,100,101,102]:List Nat).getD i 0=97+i:=nofun
   rw[this l hl6]
 refine gw 6 ∅ (by decide +kernel) (x := .str B) rfl (y := .str [97+l]) (by walk_at "ee") (v := .str (B++[97+l])) (add_str (by simp[cap];omega)) rfl ?_;obtain⟨c,hc⟩:∃c,c=Nat.beq (y%3) 0:=⟨_,rfl⟩;refine gy c (ssa:=uc (.val (vN p)) (.val (vN q)) (.val (.list (st.map vN))) (.val (.list (nums.map vN))) (.val (.list (tableL.map vN))) (.val (.str (T++[gz y]))) (.val (.str (B++[97+l]))) (.val (vN (pr+2))) (.val (vN k)) (.val (vN w)) (.val (vN y)) (.val (.str [97+l])))
  (ssb:=uc (.val (vN p)) (.val (vN q)) (.val (.list (st.map vN))) (.val (.list (nums.map vN))) (.val (.list (tableL.map vN))) (.val (.str T)) (.val (.str (B++[97+l]))) (.val (vN pr)) (.val (vN k)) (.val (vN w)) (.val (vN y)) (.val (.str [97+l])))
  (ss':=uc (.val (vN p)) (.val (vN q)) (.val (.list (st.map vN))) (.val (.list (nums.map vN))) (.val (.list (tableL.map vN))) (.val (.str (bif c then T++[gz y]else T))) (.val (.str (B++[97+l]))) (.val (.int (bif c then((pr+2:Nat):Int)else(pr:Int)))) (.val (vN k)) (.val (vN w)) (.val (vN y)) (.val (.str [97+l])))
  ∅ (by decide +kernel) (v := .bool c) ?_ rfl ?_ aR ∅ ?_
 ·rw[hc]
  exact ev_cmp nofun (x:=vN (y%3)) (y:=vN 0) (ev_bin nofun (x:=vN y) (y:=vN 3) (by walk_at "ee") ∅ (eO nofun)) ∅ (sG _ _)
 ·refine gw 5 ∅ (by decide +kernel) (x := .str T) rfl (y := .str [gz y]) ?_ (v := .str (T++[gz y])) (add_str (by simp[cap];omega)) rfl ?_
  ·refine ev_call ∅ ∅ ∅ (vs:=[vN (gz y)]) (evL_of ?_ evL_nil) (bL rfl (yE (by have:=wg y;omega)))
   refine aE rfl (x := .list (tableL.map vN)) (y:=vN (y/60%27)) (by walk_at "lk") ?_ (ty:=0) ∅ (iH nofun (Nat.mod_lt _ nofun));exact ev_bin nofun (x:=vN (y/60)) (y:=vN 27) (ev_bin nofun (x:=vN y) (y:=vN 60) (by walk_at "ee") ∅ (mI nofun nofun)) ∅ (eO nofun)
  ·exact gw 7 ∅ (by decide +kernel) (x:=vN pr) rfl (y:=vN 2) ∅ (v:=vN (pr+2)) rfl rfl aR
 obtain⟨u,hu⟩:∃u,u=Nat.blt w v:=⟨_,rfl⟩;obtain⟨e,he⟩:∃e,e=Nat.beq (y/3%2) 0:=⟨_,rfl⟩;have eT:(bif u then(bif c then T++[gz y]else T)++[65+l]else bif e then(bif c then T++[gz y]else T)++[97+l]else(bif c then T++[gz y]else T)++[aZ l y])=T++c8 (l,u) y:=by
  unfold c8 km;dsimp only;rw[<-hc,<-he];cases c<;>cases u<;>cases e<;>simp
 have eP:(bif u then(bif c then((pr+2:Nat):Int)else(pr:Int))+1 else bif e then(bif c then((pr+2:Nat):Int)else(pr:Int))else(bif c then((pr+2:Nat):Int)else(pr:Int))+2)=((pr+d7 (l,u) y:Nat):Int):=by
  unfold d7;dsimp only;rw[<-hc,<-he];cases c<;>cases u<;>cases e<;>simp<;>omega
 rw[<-hu,<-eT];show _=(true,em.next (aj nT (uc _ _ _ _ _ _ _ (.val (.int ((pr+d7 (l,u) y:Nat):Int))) _ _ _ _)));rw[<-eP];clear eT eP;have hT1:(bif c then T++[gz y]else T).length<=101:=by cases c<;>simp<;>omega
 generalize (bif c then T++[gz y]else T)=T1 at hT1 |-;generalize (bif c then((pr+2:Nat):Int)else(pr:Int))=P1;refine gy u (ssa:=uc (.val (vN p)) (.val (vN q)) (.val (.list (st.map vN))) (.val (.list (nums.map vN))) (.val (.list (tableL.map vN))) (.val (.str (T1++[65+l]))) (.val (.str (B++[97+l]))) (.val (.int (P1+1))) (.val (vN k)) (.val (vN w)) (.val (vN y)) (.val (.str [97+l])))
  (ssb:=uc (.val (vN p)) (.val (vN q)) (.val (.list (st.map vN))) (.val (.list (nums.map vN))) (.val (.list (tableL.map vN))) (.val (.str (bif e then T1++[97+l]else T1++[aZ l y]))) (.val (.str (B++[97+l]))) (.val (.int (bif e then P1 else P1+2))) (.val (vN k)) (.val (vN w)) (.val (vN y)) (.val (.str [97+l])))
  (ss':=uc (.val (vN p)) (.val (vN q)) (.val (.list (st.map vN))) (.val (.list (nums.map vN))) (.val (.list (tableL.map vN))) (.val (.str (bif u then T1++[65+l]else bif e then T1++[97+l]else T1++[aZ l y]))) (.val (.str (B++[97+l]))) (.val (.int (bif u then P1+1 else bif e then P1 else P1+2))) (.val (vN k)) (.val (vN w)) (.val (vN y)) (.val (.str [97+l])))
  ∅ (by decide +kernel) (v := .bool u) ?_ rfl ?_ ?_ ∅ aR
 ·rw[hu]
  exact ev_cmp nofun (x:=vN w) (y:=vN v) (by walk_at "ee") (ev_bin nofun (x:=vN p) (y:=vN w) (by walk_at "ee") (by walk_at "ee") sub1) (Dz _ _)
 ·refine gw 5 ∅ (by decide +kernel) (x := .str T1) rfl (y := .str [65+l]) ?_ (v := .str (T1++[65+l])) (add_str (by simp[cap];omega)) rfl ?_
  ·exact ev_meth rfl nofun rfl (x := .str [97+l]) (by walk_at "ee") evL_nil (yH hl6)
  ·exact gw 7 ∅ (by decide +kernel) (x := .int P1) rfl (y := .int 1) ∅ (v := .int (P1+1)) rfl rfl aR
 ·refine gy e (ssa:=uc (.val (vN p)) (.val (vN q)) (.val (.list (st.map vN))) (.val (.list (nums.map vN))) (.val (.list (tableL.map vN))) (.val (.str (T1++[97+l]))) (.val (.str (B++[97+l]))) (.val (.int P1)) (.val (vN k)) (.val (vN w)) (.val (vN y)) (.val (.str [97+l])))
   (ssb:=uc (.val (vN p)) (.val (vN q)) (.val (.list (st.map vN))) (.val (.list (nums.map vN))) (.val (.list (tableL.map vN))) (.val (.str (T1++[aZ l y]))) (.val (.str (B++[97+l]))) (.val (.int (P1+2))) (.val (vN k)) (.val (vN w)) (.val (vN y)) (.val (.str [97+l])))
   ∅ (by decide +kernel) (v := .bool e) ?_ rfl ?_ ?_ ∅ aR
  ·rw[he]
   exact ev_cmp nofun (x:=vN (y/3%2)) (y:=vN 0) (ev_bin nofun (x:=vN (y/3)) (y:=vN 2) (ev_bin nofun (x:=vN y) (y:=vN 3) (by walk_at "ee") ∅ (mI nofun nofun)) ∅ (eO nofun)) ∅ (sG _ _)
  ·exact gw 5 ∅ (by decide +kernel) (x := .str T1) rfl (y := .str [97+l]) (by walk_at "ee") (v := .str (T1++[97+l])) (add_str (by simp[cap];omega)) rfl aR
  ·refine gw 5 ∅ (by decide +kernel) (x := .str T1) rfl (y := .str [aZ l y]) ?_ (v := .str (T1++[aZ l y])) (add_str (by simp[cap];omega)) rfl ?_
   ·have hf:=we y
    refine ev_call ∅ ∅ ∅ (vs:=[vN (aZ l y)]) (evL_of ?_ evL_nil) (bL rfl (yE (by unfold aZ;omega)));refine ev_bin nofun (x:=vN (119808+52*famL.getD (y/6%10) 0+(97+l))) (y:=vN 97) ?_ ∅ ?_
    ·refine ev_add (x:=vN (119808+52*famL.getD (y/6%10) 0)) (y:=vN (97+l)) (look_other rfl ?_) ?_ rfl
     ·refine ev_add (x:=vN 119808) (y:=vN (52*famL.getD (y/6%10) 0)) (look_other rfl ∅) ?_ rfl
      refine ev_bin nofun (x:=vN 52) (y:=vN (famL.getD (y/6%10) 0)) ∅ ?_ ?_
      ·refine aE rfl (x := .tup (famL.map vN)) (y:=vN (y/6%10)) (look_other rfl ∅) ?_ (ty:=0) ∅ (u4 nofun (Nat.mod_lt _ nofun))
       exact ev_bin nofun (x:=vN (y/6)) (y:=vN 10) (ev_bin nofun (x:=vN y) (y:=vN 6) (by walk_at "ee") ∅ (mI nofun nofun)) ∅ (eO nofun)
      ·rw[show vN (52*famL.getD (y/6%10) 0)=V.int ((52:Int)*((famL.getD (y/6%10) 0:Nat):Int))by unfold vN;rw[Int.natCast_mul];rfl]
       exact b_mulL rfl
     ·exact ev_call ∅ ∅ ∅ (vs:=[.str [97+l]]) (evL_of (by walk_at "ee") evL_nil) (bL rfl Ci)
    ·show((true,V.int (((119808+52*famL.getD (y/6%10) 0+(97+l):Nat):Int)-97)):R)=(true,V.int ((aZ l y:Nat):Int))
     unfold aZ
     congr 2;omega
   ·exact gw 7 ∅ (by decide +kernel) (x := .int P1) rfl (y := .int 2) ∅ (v := .int (P1+2)) rfl rfl aR
theorem pv{x:Nat×Nat}(hx:x∈pairsL){nums:List Nat}(hn:nums.length=6):
 fTyped [vN x.1,vN x.2, .list ((aY x.1 x.2).map vN), .list (nums.map vN)]=(true, .tup [.str (bn (aJ x.1 x.2) nums (x.1/2)), .str (bS (aJ x.1 x.2) (x.1/2)),vN (aU (aJ x.1 x.2) nums (x.1/2))]):=by
 have hp:=cJ x hx;refine qB (ns:=nT) (ss:=uc (.val (vN x.1)) (.val (vN x.2)) (.val (.list ((aY x.1 x.2).map vN))) (.val (.list (nums.map vN))) .un .un .un .un .un .un .un .un) rfl ∅ ?_;refine dw 4 ∅ (by decide +kernel) (v := .list (tableL.map vN)) ∅ (s := .val (.list (tableL.map vN))) ∅ ?_;refine qC (vs:=[.str [], .str [],vN 0]) (ss':=uc (.val (vN x.1)) (.val (vN x.2)) (.val (.list ((aY x.1 x.2).map vN))) (.val (.list (nums.map vN))) (.val (.list (tableL.map vN))) (.val (.str (bn (aJ x.1 x.2) nums 0))) (.val (.str (bS (aJ x.1 x.2) 0))) (.val (vN (aU (aJ x.1 x.2) nums 0))) .un .un .un .un) ∅ (by decide +kernel) (evL_of ∅ (evL_of ∅ (evL_of ∅ evL_nil))) (by simp[cap]) ∅ ?_
 have hsl:(aY x.1 x.2).length=x.1/2:=by unfold aY;simp
 refine qA (λk=>uc (.val (vN x.1)) (.val (vN x.2)) (.val (.list ((aY x.1 x.2).map vN))) (.val (.list (nums.map vN))) (.val (.list (tableL.map vN))) (.val (.str (bn (aJ x.1 x.2) nums k))) (.val (.str (bS (aJ x.1 x.2) k))) (.val (vN (aU (aJ x.1 x.2) nums k))) .un .un .un .un) vN 0 (x.1/2) ∅ ?_ ∅ (λk h1 h2 => ?_) ?_
 ·refine ff ∅ rfl (vs:=[vN (x.1/2)]) (evL_of ?_ evL_nil) (dZ ⋯)
  refine(ev_len ∅ (x := .list ((aY x.1 x.2).map vN)) (by walk_at "lk") (len_list (by rw[List.length_map,hsl];unfold cap;omega))).trans ?_;rw[List.length_map,hsl];rfl
 ·obtain⟨w,l,h⟩:=ud hx hn (k:=k) ⋯ (bn (aJ x.1 x.2) nums k) (bS (aJ x.1 x.2) k) (aU (aJ x.1 x.2) nums k) (by have:=d8 (aJ x.1 x.2) nums k;omega) (by rw[fh];omega)
  exact⟨_,_,∅,h,∅⟩
 ·rw[Nat.zero_add]
  exact yt ∅ (r9 (evL_of (by walk_at "ee") (evL_of (by walk_at "ee") (evL_of (by walk_at "ee") evL_nil))) (by simp[cap]))
end
section
open PySem PySem.W PySem.Challenge
noncomputable def fB3r:List V->R:=Ep nc 1000 rowsL v8 (nm "code") mz
noncomputable def fB1r:List V->R:=EF (kI fK)
noncomputable def EV:Fns:=⟨GL,[(nm "in_table_b1",fB1r),(nm "map_table_b3",fB3r)],[]⟩
noncomputable abbrev EW:List (Str×NameKind):=jO.scope.names
noncomputable abbrev nP:List Nm:=kY EW
noncomputable def fPrep:List V->R:=bY EV [] 1000 (dB ["text"] jO)
noncomputable def cu(c:Nat):List Nat:=bif kI fK (c:Int)then[]else d0 rowsL c
theorem mL{α:Type}(f:α->List Nat)(b:Nat):∀l:List α,(∀c∈l,(f c).length<=b)->(l.flatMap f).length<=b*l.length
 |[],_=>Nat.zero_le _
 |x::l,h=>by
  have h1:=h x (List.mem_cons_self ..);have h2:=mL f b l λc hc=>h c (List.mem_cons_of_mem _ hc)
  rw[List.flatMap_cons,List.length_append,List.length_cons,Nat.mul_succ]
  omega
theorem DA{l:List Nat}{k:Nat}(h:k<l.length):l.take (k+1)=l.take k++[l.getD k 0]:=gQ h
theorem wi(l:List Nat):nv l=(List.range' 0 l.length).map λk=>V.str [l.getD k 0]:=by
 unfold nv;refine List.ext_getElem (by simp) λi h1 h2 => ?_
 have:i<l.length:=by simpa using h1
 simp[List.getElem_map,List.getElem_range',this]
theorem qD{t:List Nat}(hl:t.length<=100)(hc:∀c∈t,(d0 rowsL c).length<=4):fPrep [.str t]=(true, .str (t.flatMap cu)):=by
 have ct:t.length<=cap:=by unfold cap;omega
 refine qB (ns:=nP) (ss:=[.val (.str t), .un, .un, .un]) rfl ∅ ?_;refine dw 1 ∅ (by decide +kernel) (v := .str []) ∅ (s := .val (.str ((t.take 0).flatMap cu))) rfl ?_;refine qA (λk=>[.val (.str t), .val (.str ((t.take k).flatMap cu)), .un, .un]) (λk => .str [t.getD k 0]) 0 t.length ∅ ?_ ∅ (λk h1 h2 => ?_) ?_
 ·rw[<-wi]
  exact sd ∅ (v := .str t) (by walk_at "ee") (by show((decide (t.length<=cap),nv t):Bool×List V)=_;rw[decide_eq_true ct]) (.inl rfl)
 ·have hk:k<t.length:=⋯
  have e:(t.take (k+1)).flatMap cu=(t.take k).flatMap cu++cu (t.getD k 0):=by rw[gQ hk];simp
  have hb:((t.take k).flatMap cu).length<=400:=by
   have:=mL cu 4 (t.take k) λc h=>by
    have:=hc c (List.mem_of_mem_take h);unfold cu;cases kI fK (c:Int)with
    |true=>exact Nat.zero_le _
    |false=>exact this
   rw[List.length_take]at this;omega
  rw[e];have h4:=hc _ (getD_mem 0 hk);generalize (t.take k).flatMap cu=m at hb |-;generalize t.getD k 0=c at h4 |-;obtain⟨b,eb⟩:∃b,b=kI fK (c:Int):=⟨_,rfl⟩;unfold cu;rw[<-eb];refine⟨[.val (.str t), .val (.str m), .val (.str [c]), .un],[.val (.str t), .val (.str (m++bif b then[]else d0 rowsL c)), .val (.str [c]), .val (.bool b)],∅, ?_,∅⟩;refine dw 3 ∅ (by decide +kernel) (v := .bool b) ?_ (s := .val (.bool b)) rfl ?_
  ·rw[eb]
   exact ev_call ∅ ∅ ∅ (vs:=[.str [c]]) (evL_of (by walk_at "ee") evL_nil) (bM (F:=fB1r) rfl rfl)
  have two:∀b:Bool,(bif !b then m++d0 rowsL c else bif !b then m++[63]else m)=m++bif b then[]else d0 rowsL c:=λb=>by cases b<;>simp
  rw[<-two b];refine gy (!b) (ssa:=[.val (.str t), .val (.str (m++d0 rowsL c)), .val (.str [c]), .val (.bool b)]) (ssb:=[.val (.str t), .val (.str (bif !b then m++[63]else m)), .val (.str [c]), .val (.bool b)]) ∅ (by decide +kernel) (v := .bool (!b)) ?_ rfl ?_ ?_ ∅ aR
  ·exact ev_cmp nofun (x := .bool b) (y := .bool false) (by walk_at "ee") ∅ (by cases b<;>rfl)
  ·refine gw 1 ∅ (by decide +kernel) (x := .str m) rfl (y := .str (d0 rowsL c)) ?_ (v := .str (m++d0 rowsL c)) (add_str (by unfold cap;omega)) rfl aR
   exact ev_call ∅ ∅ ∅ (vs:=[.str [c]]) (evL_of (by walk_at "ee") evL_nil) (bM (F:=fB3r) rfl (B7 rowsL c))
  ·refine gy (!b) (ssa:=[.val (.str t), .val (.str (m++[63])), .val (.str [c]), .val (.bool b)]) (ssb:=[.val (.str t), .val (.str m), .val (.str [c]), .val (.bool b)]) ∅ (by decide +kernel) (v := .bool (!b)) ?_ rfl ?_ aR ∅ aR
   ·exact ev_cmp nofun (x := .bool b) (y := .bool true) (by walk_at "ee") ∅ (by cases b<;>rfl)
   ·exact gw 1 ∅ (by decide +kernel) (x := .str m) rfl (y := .str [63]) ∅ (v := .str (m++[63])) (add_str (by simp[cap];omega)) rfl aR
 ·rw[Nat.zero_add,List.take_length]
  exact yt ∅ (by walk_at "ee")
theorem wj:(tableL.all λh=>kI fK (h:Nat))=true:=∅
theorem sH:(rowsL.all λe=>decide (122<e.1))=true:=∅
theorem iI:∀(L:List (Int×Str)) (c:Nat),(L.all λe=>decide (122<e.1))=true->c<=122->L.lookup (c:Int)=none
 |[],_,_,_=>rfl
 |(k,y)::L,c,h,hc=>by
  have h:=ay h;have h1:122<k:=of_decide_eq_true h.1;have hne:((c:Int)==k)=false:=by rw[beq_eq_false_iff_ne];omega
  rw[List.lookup_cons,hne];exact iI L c h.2 hc
theorem Aw:((List.range 6).all λl=>af (bR [97+l]) [97+l]&&af (bR [65+l]) [97+l] && !(kI fK ((97+l:Nat):Int)) && !(kI fK ((65+l:Nat):Int)))=true:=∅
theorem sI:((List.range 6).all λl=>famL.all λf=>af (d0 rowsL (119808+52*f+l)) [97+l] && !(kI fK ((119808+52*f+l:Nat):Int)))=true:=∅
noncomputable def wC(c:Nat):Nat:=bif Nat.ble 97 c&&Nat.ble c 102 then 0 else bif Nat.ble 65 c&&Nat.ble c 70 then 1 else 2
theorem Al.weight{a b:List Nat}{n:Int}(h:Al a b n):(∀x∈a,∀y∈b,(wC x:Int)<=bc x y)->((a.map wC).sum:Nat)<=n:=by
 induction h with
 |nil=>exact λ_=>Int.le_refl _
 |sub x y h ih=>
  intro k;have h1:=k x (List.mem_cons_self ..) y (List.mem_cons_self ..);have h2:=ih λu hu v hv=>k u (List.mem_cons_of_mem _ hu) v (List.mem_cons_of_mem _ hv)
  rw[List.map_cons,List.sum_cons];omega
 |del x h ih=>
  intro k;have h1:wC x<=2:=by
   unfold wC;cases Nat.ble 97 x&&Nat.ble x 102<;>cases Nat.ble 65 x&&Nat.ble x 70<;>decide
  have h2:=ih λu hu=>k u (List.mem_cons_of_mem _ hu)
  rw[List.map_cons,List.sum_cons];omega
 |ins y h ih=>
  intro k;have h2:=ih λu hu v hv=>k u hu v (List.mem_cons_of_mem _ hv)
  omega
noncomputable def signsL:List Nat:=tableL++(List.range 6).flatMap λl=>[97+l,65+l]++famL.map λf=>119808+52*f+l
theorem ue:(signsL.all λc=>(List.range 6).all λl=>decide ((wC c:Int)<=bc c (97+l)))=true:=∅
theorem wk:((List.range 6).all λl=>decide (bc (65+l) (97+l)=1)&&famL.all λf=>decide (bc (119808+52*f+l) (97+l)=2)&&Nat.beq (wC (119808+52*f+l)) 2)=true:=∅
theorem uf:(tableL.all λc=>Nat.beq (wC c) 2)=true:=by decide +kernel
noncomputable def jS(L:List (Nat×Bool)):Prop:=∀k,(L.getD k (0,false)).1<6
theorem ug(x:Nat):gz x∈tableL:=getD_mem 0 (show x/60%27<tableL.length from Nat.mod_lt _ nofun)
theorem uh(x:Nat):famL.getD (x/6%10) 0∈famL:=getD_mem 0 (show x/6%10<famL.length from Nat.mod_lt _ nofun)
theorem Ax{y:Nat×Bool}(h:y.1<6)(x:Nat):km y x∈signsL/\gz x∈signsL:=by
 have h1:∀c∈[97+y.1,65+y.1]++famL.map λf=>119808+52*f+y.1,c∈signsL:=λc hc=>List.mem_append_right _ (List.mem_flatMap.mpr ⟨y.1,List.mem_range.mpr h,hc⟩)
 refine⟨h1 _ ?_,List.mem_append_left _ (ug x)⟩;unfold km;cases y.2 with
 |true=>simp
 |false=>cases Nat.beq (x/3%2) 0 with
  |true=>simp
  |false=>exact List.mem_append_right _ (List.mem_map.mpr ⟨_,uh x,rfl⟩)
theorem yI{y:Nat×Bool}(h:y.1<6)(x:Nat):Al (c8 y x) [97+y.1] (d7 y x)/\((c8 y x).map wC).sum=d7 y x/\(c8 y x).flatMap cu=[97+y.1]/\d7 y x%2=bif y.2 then 1 else 0:=by
 have hl:=List.mem_range.mpr h;have o1:=ay (List.all_eq_true.mp wk y.1 hl);have o2:=ay (List.all_eq_true.mp o1.2 _ (uh x));have l1:=List.all_eq_true.mp Aw y.1 hl;simp only[Bool.and_eq_true,Bool.not_eq_true']at l1;have l2:=ay (List.all_eq_true.mp (List.all_eq_true.mp sI y.1 hl) _ (uh x));have c1:bc (65+y.1) (97+y.1)=1:=of_decide_eq_true o1.1;have c2:bc (aZ y.1 x) (97+y.1)=2:=of_decide_eq_true o2.1;have w0:wC (97+y.1)=0/\wC (65+y.1)=1:=by
  have:∀l,l<6->wC (97+l)=0/\wC (65+l)=1:=nofun
  exact this _ h
 have w2:wC (aZ y.1 x)=2:=Nat.eq_of_beq_eq_true o2.2;have wh:wC (gz x)=2:=Nat.eq_of_beq_eq_true (List.all_eq_true.mp uf _ (ug x));have p1:cu (97+y.1)=[97+y.1]:=by unfold cu d0;rw[l1.1.2,iI _ _ sH ⋯];exact ai.mp l1.1.1.1
 have p2:cu (65+y.1)=[97+y.1]:=by unfold cu d0;rw[l1.2,iI _ _ sH ⋯];exact ai.mp l1.1.1.2
 have p3:cu (aZ y.1 x)=[97+y.1]:=by unfold cu;rw[show kI fK ((aZ y.1 x:Nat):Int)=false from(Bool.not_eq_true' _).mp l2.2];exact ai.mp l2.1
 have ph:cu (gz x)=[]:=by unfold cu;rw[List.all_eq_true.mp wj _ (ug x)];rfl
 have one:Al [km y x] [97+y.1] ((bif y.2 then 1 else bif Nat.beq (x/3%2) 0 then 0 else 2:Nat):Int)/\([km y x].map wC).sum=(bif y.2 then 1 else bif Nat.beq (x/3%2) 0 then 0 else 2)/\[km y x].flatMap cu=[97+y.1]:=by
  unfold km;have sb:∀c,Al [c] [97+y.1] (0+bc c (97+y.1)):=λc => .sub c _ .nil
  cases y.2 with
  |true=>exact⟨(sb (65+y.1)).cast (by rw[c1];rfl),by simp[w0.2],by simp[p2]⟩
  |false=>cases Nat.beq (x/3%2) 0 with
   |true=>exact⟨(sb (97+y.1)).cast (by rw[pj];rfl),by simp[w0.1],by simp[p1]⟩
   |false=>exact⟨(sb (aZ y.1 x)).cast (by rw[c2];rfl),by simp[w2],by simp[p3]⟩
 have par:d7 y x%2=bif y.2 then 1 else 0:=by
  unfold d7;cases Nat.beq (x%3) 0<;>cases y.2<;>cases Nat.beq (x/3%2) 0<;>rfl
 refine⟨?_, ?_, ?_,par⟩
 ·unfold c8 d7
  cases Nat.beq (x%3) 0 with
  |true=>exact(Al.del (gz x) one.1).cast (by simp only[cond_true];omega)
  |false=>exact one.1.cast (by simp only[cond_false];omega)
 ·unfold c8 d7
  have:=one.2.1;cases Nat.beq (x%3) 0 with
  |true=>rw[cond_true,cond_true,List.map_append,List.sum_append,this];simp[wh]
  |false=>rw[cond_false,cond_false,List.map_append,List.sum_append,this];simp
 ·unfold c8
  rw[List.flatMap_append,one.2.2];cases Nat.beq (x%3) 0<;>simp[ph]
section
variable {L:List (Nat×Bool)} (hL:jS L) (ns:List Nat)
noncomputable def ia(L:List (Nat×Bool)):Nat->Nat
 |0=>0
 |k+1=>ia L k+bif (L.getD k (0,false)).2 then 1 else 0
include hL
theorem dy:∀k,Al (bn L ns k) (bS L k) (aU L ns k)/\((bn L ns k).map wC).sum=aU L ns k/\(bn L ns k).flatMap cu=bS L k/\aU L ns k%2=ia L k%2/\(∀c∈bn L ns k,c∈signsL)/\∀c∈bS L k,∃l,l<6/\c=97+l
 |0=>⟨.nil,rfl,rfl,rfl,(λ_ h=>nomatch h),λ_ h=>nomatch h⟩
 |k+1=>by
  obtain⟨h1,h2,h3,h4,h5,h6⟩:=dy k;obtain⟨g1,g2,g3,g4⟩:=yI (hL k) (ns.getD k 0);refine⟨(h1.app g1).cast (by show _=((aU L ns k+d7 _ _:Nat):Int);omega), ?_, ?_, ?_,λc hc => ?_,λc hc => ?_⟩
  ·show((bn L ns k++_).map wC).sum=aU L ns k+d7 _ _
   rw[List.map_append,List.sum_append,h2,g2]
  ·show(bn L ns k++_).flatMap cu=bS L k++_
   rw[List.flatMap_append,h3,g3]
  ·show(aU L ns k+d7 _ _)%2=(ia L k+_)%2
   rw[Nat.add_mod,h4,g4,Nat.add_mod (ia L k)];cases(L.getD k (0,false)).2<;>rfl
  ·rcases List.mem_append.mp (show c∈bn L ns k++c8 _ _ from hc)with hc|hc
   ·exact h5 c hc
   ·have si:=Ax (hL k) (ns.getD k 0)
    unfold c8 at hc
    rcases List.mem_append.mp hc with hc|hc
    ·cases e:Nat.beq (ns.getD k 0%3) 0 with
     |true=>rw[e]at hc;rw[List.mem_singleton.mp hc];exact si.2
     |false=>rw[e]at hc;exact nomatch hc
    ·rw[List.mem_singleton.mp hc];exact si.1
  ·rcases List.mem_append.mp (show c∈bS L k++[_]from hc)with hc|hc
   ·exact h6 c hc
   ·exact⟨_,hL k,List.mem_singleton.mp hc⟩
theorem pw(k:Nat):bg (bn L ns k) (bS L k) (aU L ns k):=by
 obtain⟨h1,h2,h3,h4,h5,h6⟩:=dy hL ns k;refine⟨h1,λn h => ?_⟩;rw[<-h2];refine h.weight λx hx y hy => ?_
 obtain⟨l,hl,rfl⟩:=h6 y hy;exact of_decide_eq_true (List.all_eq_true.mp (List.all_eq_true.mp ue x (h5 x hx)) l (List.mem_range.mpr hl))
theorem Ck{k:Nat}(hk:k<=6):m9 (bn L ns k) (bS L k) (aU L ns k)=aU L ns k:=by
 have:=d8 L ns k;exact yD ⋯ (by rw[fh];omega) (pw hL ns k) ⋯
theorem Ay{k:Nat}(hk:k<=6):m9 (bS L k) (bn L ns k) ((aU L ns k:Int)-1)=aU L ns k:=by
 have:=d8 L ns k;have h:=pw hL ns k;exact yD (by rw[fh];omega) ⋯ ⟨h.1.sym,λn g=>h.2 n g.sym⟩ ⋯
end
theorem ui:(signsL.all λc=>Nat.ble (d0 rowsL c).length 4)=true:=∅
theorem kZ:∀x∈pairsL,∀k,((aJ x.1 x.2).getD k (0,false)).1<6:=by
 have h:∀x∈pairsL,∀y∈aJ x.1 x.2,y.1<6:=by decide +kernel
 intro x hx k
 by_cases g:k<(aJ x.1 x.2).length
 ·exact h x hx _ (getD_mem _ g)
 ·rw[List.getD_eq_getElem?_getD,List.getElem?_eq_none (Nat.not_lt.mp g)];decide
end
section
open PySem PySem.W PySem.Challenge
noncomputable abbrev Rws:=List (List Nat×List Nat)
noncomputable def de(L:Rws):List Nat:=L.flatMap λr=>r.1++r.2
noncomputable def endsL:List (List Nat):=[[10],[13],[13,10]]
noncomputable def sJ(r:List Nat×List Nat):Prop:=sE r.1/\r.1≠[]/\r.2∈endsL
noncomputable def uj(t:List Nat):List Nat:=match t with
 |[]=>[]
 |c::t=>bif c==46 then 46::c::t else c::t
theorem Cl{X:List Nat}(h:∀r,X≠10::r):aM true X=aM false X:=by
 cases X with
 |nil=>rfl
 |cons c X=>
  have:(c==10)=false:=by rw[beq_eq_false_iff_ne];intro e;subst e;exact h X rfl
  rw[jn,jn,this];rfl
theorem yJ{L:Rws}(h:∀r∈L,sJ r):∀r,de L≠10::r:=by
 cases L with
 |nil=>exact λ_=>λe=>nomatch e
 |cons x L=>
  obtain⟨h1,h2,_⟩:=h x (List.mem_cons_self ..);obtain⟨t,e⟩:=x;cases t with
  |nil=>exact absurd rfl h2
  |cons c t=>
   intro r he
   injection he with e1 _
   exact(h1 c (List.mem_cons_self ..)).1 e1
theorem pz:∀L:Rws,(∀r∈L,sJ r)->aM false (de L)=de (L.map λr=>(r.1,[13,10]))
 |[],_=>rfl
 |x::L,h=>by
  obtain⟨h1,h2,h3⟩:=h x (List.mem_cons_self ..);have hL:=λr hr=>h r (List.mem_cons_of_mem x hr)
  have ih:=pz L hL;have ten:=Cl (yJ hL);show aM false ((x.1++x.2)++de L)=(x.1++[13,10])++de (L.map λr=>(r.1,[13,10]));rw[List.append_assoc,mJ _ _ h1,List.append_assoc,<-ih]
  congr 1
  generalize x.2=e at h3;unfold endsL at h3;simp only[List.mem_cons,List.not_mem_nil,or_false]at h3
  rcases h3 with rfl|rfl|rfl
  ·rfl
  ·show 13::10::aM true (de L)=_
   rw[ten];rfl
  ·rfl
theorem pA:∀L:Rws,(∀r∈L,sJ r)->bd true (de (L.map λr=>(r.1,[13,10])))=de (L.map λr=>(uj r.1,[13,10]))
 |[],_=>rfl
 |x::L,h=>by
  obtain⟨h1,h2,h3⟩:=h x (List.mem_cons_self ..);have ih:=pA L λr hr=>h r (List.mem_cons_of_mem x hr)
  show bd true ((x.1++[13,10])++de (L.map λr=>(r.1,[13,10])))=(uj x.1++[13,10])++de (L.map λr=>(uj r.1,[13,10]));obtain⟨t,e⟩:=x;cases t with
  |nil=>exact absurd rfl h2
  |cons c t=>
   have hc:(c==10)=false:=by rw[beq_eq_false_iff_ne];exact(h1 c (List.mem_cons_self ..)).1
   have ht:sE t:=λy hy=>h1 y (List.mem_cons_of_mem _ hy)
   have rest:bd false (t++([13,10]++de (L.map λr=>(r.1,[13,10]))))=t++([13,10]++de (L.map λr=>(uj r.1,[13,10]))):=by
    rw[mK _ _ ht,<-ih];rfl
   rw[List.append_assoc,List.cons_append,uW,rest,hc,rest];unfold uj;dsimp only;rw[Bool.true_and];cases h46:c==46 with
   |true=>rw[beq_iff_eq.mp h46];simp
   |false=>simp
theorem uk{L:Rws}(h:∀r∈L,sJ r):bd true (aM false (de L))=de (L.map λr=>(uj r.1,[13,10])):=by
 rw[pz L h,pA L h]
structure MS where
 rows:List (Nat×Nat×Bool)
 won:List Nat
 z:Bool
noncomputable def jT(S:MS):MS:=⟨S.rows++[(1,S.rows.length,false)],S.won,S.z⟩
noncomputable def gW(S:MS):MS:=⟨S.rows.map λr=>(r.1+1,r.2.1,true),S.won++[S.rows.length],true⟩
noncomputable def DB(p q t:Nat)(S:MS):MS:=
 let S1:=bif Nat.beq (t%p) 0 then jT S else S
 bif Nat.beq (t%q) 0 then gW S1 else S1
noncomputable def kn(p q:Nat):Nat->MS
 |0=>⟨[],[],false⟩
 |j+1=>DB p q (j+1) (kn p q j)
noncomputable def qE(ends:Nat->List Nat)(r:Nat×Nat×Bool):List Nat×List Nat:=(List.replicate r.1 46++[97+r.2.1],bif r.2.2 then[13,10]else ends r.2.1)
noncomputable def pB(ends:Nat->List Nat)(S:MS):Rws:=([120,46],bif S.z then[13,10]else[10])::S.rows.map (qE ends)
noncomputable def bN(ends:Nat->List Nat)(S:MS):List Nat:=de (pB ends S)
noncomputable def dI(ends:Nat->List Nat)(S:MS):List V:=S.rows.map λr => .list [.str [97+r.2.1], .str (ends r.2.1)]
noncomputable def Cw(r:Nat×Nat×Bool):Bool:=Nat.ble 1 r.1&&Nat.ble r.1 8&&Nat.blt r.2.1 6
noncomputable def yK(S:MS):Bool:=Nat.ble S.rows.length 6&&S.rows.all Cw&&Nat.ble S.won.length 6
section
variable {ends:Nat->List Nat} (he:∀k,ends k∈endsL) {S:MS}
theorem Cm{r:Nat×Nat×Bool}(h:Cw r=true):sE (qE ends r).1:=by
 unfold Cw at h;simp only[Bool.and_eq_true,Nat.ble_eq,Nat.blt_eq]at h;intro c hc
 rcases List.mem_append.mp hc with hc|hc
 ·rw[(List.mem_replicate.mp hc).2];decide
 ·rw[List.mem_singleton.mp hc];omega
include he in
theorem Az(h:yK S=true):∀r∈pB ends S,sJ r:=by
 have h:=ay (ay h).1;refine List.forall_mem_cons.mpr ⟨⟨show ∀c∈[120,46],c≠10/\c≠13 by decide,show[120,46]≠([]:List Nat)by decide,by cases S.z<;>decide⟩,λr hr => ?_⟩;obtain⟨x,hx,rfl⟩:=List.mem_map.mp hr;refine⟨Cm (List.all_eq_true.mp h.2 x hx),by unfold qE;simp, ?_⟩;show(bif x.2.2 then[13,10]else ends x.2.1)∈endsL;cases x.2.2 with
 |true=>show[13,10]∈endsL;decide
 |false=>exact he _
include he in
theorem ul(h:yK S=true):bd true (aM false (bN ends S))=bN ends (gW S):=by
 unfold bN;rw[uk (Az he h)];have h:=ay (ay h).1
 congr 1
 unfold pB gW;rw[List.map_cons,List.map_map,List.map_map]
 congr 1
 refine List.map_congr_left λr hr => ?_
 have h1:=List.all_eq_true.mp h.2 r hr;unfold Cw at h1;simp only[Bool.and_eq_true,Nat.ble_eq]at h1;obtain⟨d,hd⟩:∃d,r.1=d+1:=⟨r.1-1,⋯⟩;show(uj (List.replicate r.1 46++[97+r.2.1]),[13,10])=(List.replicate (r.1+1) 46++[97+r.2.1],[13,10]);rw[hd];rfl
theorem yL:bN ends S++([46,97+S.rows.length]++ends S.rows.length)=bN ends (jT S):=by
 unfold bN pB jT de;rw[List.map_append,List.flatMap_cons,List.flatMap_cons,List.flatMap_append,List.append_assoc]
 congr 2
 simp[qE]
include he in
theorem sK(k:Nat):(ends k).length<=2:=by
 have:∀e∈endsL,e.length<=2:=nofun
 exact this _ (he k)
include he in
theorem sL(h:yK S=true):(bN ends S).length<=100:=by
 have h:=ay (ay h).1;have h1:=Nat.le_of_ble_eq_true h.1;have:=mL (λr:Nat×Nat×Bool=>(qE ends r).1++(qE ends r).2) 11 S.rows λr hr=>by
  have h2:=List.all_eq_true.mp h.2 r hr;unfold Cw at h2;simp only[Bool.and_eq_true,Nat.ble_eq]at h2;have:=sK he r.2.1;unfold qE;cases r.2.2<;>simp<;>omega
 unfold bN pB de;rw[List.flatMap_cons,List.length_append,List.flatMap_map];have h3:([120,46]++bif S.z then[13,10]else[10]).length<=4:=by cases S.z<;>decide
 show _+(S.rows.flatMap λr=>(qE ends r).1++(qE ends r).2).length<=100;exact Nat.le_trans (Nat.add_le_add h3 (Nat.le_trans this (Nat.mul_le_mul_left 11 h1))) nofun
include he in
theorem mM(hall:∀r∈S.rows,r.2.1<6):(bN ends S).count 46=1+(S.rows.map λr=>r.1).sum:=by
 unfold bN pB de;rw[List.flatMap_cons,List.count_append];have c1:List.count 46 ([120,46]++bif S.z then[13,10]else[10])=1:=by cases S.z<;>decide
 rw[c1]
 congr 1
 have ec:∀k,(ends k).count 46=0:=λk=>by
  have:∀e∈endsL,e.count 46=0:=nofun
  exact this _ (he k)
 generalize S.rows=L at hall
 induction L with
 |nil=>rfl
 |cons r L ih=>
  have h2:=hall r (List.mem_cons_self ..);rw[List.map_cons,List.map_cons,List.flatMap_cons,List.count_append,ih (λr hr=>hall r (List.mem_cons_of_mem _ hr)),List.sum_cons]
  congr 1
  have e1:List.count 46 (bif r.2.2 then[13,10]else ends r.2.1)=0:=by cases r.2.2 with|true=>rfl|false=>exact ec _
  show List.count 46 ((List.replicate r.1 46++[97+r.2.1])++bif r.2.2 then[13,10]else ends r.2.1)=r.1;rw[List.count_append,List.count_append,e1,List.count_replicate_self,List.count_eq_zero_of_not_mem (show 46∉[97+r.2.1]by simp;omega)]
  rfl
theorem yM(h:yK S=true):∀r∈S.rows,r.2.1<6:=λr hr=>by
 have h:=ay (ay h).1;have h1:=List.all_eq_true.mp h.2 r hr;unfold Cw at h1;simp only[Bool.and_eq_true,Nat.blt_eq]at h1;exact h1.2
theorem yN:∀L:List (Nat×Nat×Bool),((L.map λr=>(r.1+1,r.2.1,true)).map λr:Nat×Nat×Bool=>r.1).sum=(L.map λr=>r.1).sum+L.length
 |[]=>rfl
 |r::L=>by rw[List.map_cons,List.map_cons,List.map_cons,List.sum_cons,List.sum_cons,yN L,List.length_cons];omega
end
theorem yO:(pairsL.all λx=>(List.range (x.1*x.2/2+1)).all λj=>yK (kn x.1 x.2 j)&&(Nat.beq j (x.1*x.2/2)||yK (bif Nat.beq ((j+1)%x.1) 0 then jT (kn x.1 x.2 j)else kn x.1 x.2 j)&&(!(Nat.beq ((j+1)%x.1) 0)||Nat.blt (kn x.1 x.2 j).rows.length 6))&&af ((kn x.1 x.2 j).rows.map λr=>r.2.1) (List.range (kn x.1 x.2 j).rows.length))=true:=by decide +kernel
end
section
open PySem PySem.W PySem.Challenge
noncomputable def ko:Fns:=⟨GL,[(nm "_law_stops",fStops),(nm "_law_typed",fTyped),(nm "_law_prepared",fPrep),(nm "quotedata",fQuoteP),(nm "_levenshtein_distance",fLev),(nm "Whitespace",Dc runW)],[(nm "indent_level",fIndentP)]⟩
noncomputable abbrev jU:List (Str×NameKind):=fM.scope.names
noncomputable abbrev nW:List Nm:=kY jU
noncomputable abbrev u6:List Nm:=aC (gT 20) fM.body
noncomputable def fE:List Nat:=[2,2,0,117,1624,3249,7,5,2,40,1860,123,3,6]
structure Cx where
 sc:V
 nums:List Nat
 ot:V
 p:Nat
 q:Nat
 text:List Nat
 price:Nat
 word:List Nat
 toll:Nat
noncomputable def dz(p q:Nat):List Nat:=bS (aJ p q) (p/2)
noncomputable def sO(c:Cx)(mail rows won t end_ grown far near square told dots read leads size whole:Mine.Slot):List Mine.Slot:=
 [.val c.sc, .val (.tup (fE.map vN)), .un, .val (.list (c.nums.map vN)), .val (vN c.p), .val c.ot, .val (vN c.q), .val (.list ((aY c.p c.q).map vN)), .val (.list ((aY c.q c.p).map vN)), .val (.str c.text), .val (.str (dz c.p c.q)), .val (vN c.price), .val (.str c.word), .val (.str (dz c.q c.p)), .val (vN c.toll),
   mail,rows,won,t,end_,grown,far,near,square,told,dots,read,leads,size,whole]
noncomputable def yP(b:Bool):Res:=(true, .ret (.bool b))
noncomputable def mO(s:Option Stmt):Expr:=match s with
 |some (.If t _ _ _)=>t
 |_ => .Name "" default
noncomputable def yQ(s:Option Stmt):List Stmt:=match s with
 |some (.If _ a _ _)=>a
 |_=>[]
noncomputable def iJ(x:Nat×Nat):MS:=kn x.1 x.2 (x.1*x.2/2)
noncomputable def aG(es:List (List Nat))(k:Nat):List Nat:=es.getD k [10]
noncomputable def dJ(x:Nat×Nat)(es:List (List Nat)):Prop:=∀(sc ot far near sq:V) (nums text word:List Nat) (pr tl:Nat),
 ex ko [] u6 1000 jU 182 (fM.body.drop 18) (aj nW (sO ⟨sc,nums,ot,x.1,x.2,text,pr,word,tl⟩ (.val (.str (bN (aG es) (iJ x)))) (.own (dI (aG es) (iJ x))) (.val (.list ((iJ x).won.map vN))) .un .un .un (.val far) (.val near) (.val sq) .un .un .un .un .un .un))=yP true
theorem d9{P:List Nat->Prop}(h1:P [10])(h2:P [13])(h3:P [13,10]):∀e∈endsL,P e:=
 List.forall_mem_cons.mpr ⟨h1,List.forall_mem_cons.mpr ⟨h2,List.forall_mem_cons.mpr ⟨h3,λ_ h=>nomatch h⟩⟩⟩
section
variable {e0 e1 e2 e3 e4 e5:List Nat} (h0:e0∈endsL) (h1:e1∈endsL) (h2:e2∈endsL) (h3:e3∈endsL) (h4:e4∈endsL) (h5:e5∈endsL)
include h0 h1 h2 h3 h4 h5
theorem wm:∀x∈pairsL,dJ x [e0,e1,e2,e3,e4,e5]:=
 List.forall_mem_cons.mpr ⟨d9 (P:=λe=>dJ (3,5) [e0,e,e2,e3,e4,e5]) (λ_ _ _ _ _ _ _ _ _ _=>∅) (λ_ _ _ _ _ _ _ _ _ _=>∅) (λ_ _ _ _ _ _ _ _ _ _=>∅) _ h1,
 List.forall_mem_cons.mpr ⟨d9 (P:=λe=>dJ (3,7) [e0,e1,e,e3,e4,e5]) (λ_ _ _ _ _ _ _ _ _ _=>∅) (λ_ _ _ _ _ _ _ _ _ _=>∅) (λ_ _ _ _ _ _ _ _ _ _=>∅) _ h2,
 List.forall_mem_cons.mpr ⟨d9 (P:=λe=>dJ (3,11) [e0,e1,e2,e,e4,e5]) (d9 (P:=λe=>dJ (3,11) [e0,e1,e2,[10],e,e5]) (λ_ _ _ _ _ _ _ _ _ _=>∅) (λ_ _ _ _ _ _ _ _ _ _=>∅) (λ_ _ _ _ _ _ _ _ _ _=>∅) _ h4) (d9 (P:=λe=>dJ (3,11) [e0,e1,e2,[13],e,e5]) (λ_ _ _ _ _ _ _ _ _ _=>∅) (λ_ _ _ _ _ _ _ _ _ _=>∅) (λ_ _ _ _ _ _ _ _ _ _=>∅) _ h4) (d9 (P:=λe=>dJ (3,11) [e0,e1,e2,[13,10],e,e5]) (λ_ _ _ _ _ _ _ _ _ _=>∅) (λ_ _ _ _ _ _ _ _ _ _=>∅) (λ_ _ _ _ _ _ _ _ _ _=>∅) _ h4) _ h3,
 List.forall_mem_cons.mpr ⟨d9 (P:=λe=>dJ (3,13) [e0,e1,e2,e3,e,e5]) (d9 (P:=λe=>dJ (3,13) [e0,e1,e2,e3,[10],e]) (λ_ _ _ _ _ _ _ _ _ _=>∅) (λ_ _ _ _ _ _ _ _ _ _=>∅) (λ_ _ _ _ _ _ _ _ _ _=>∅) _ h5) (d9 (P:=λe=>dJ (3,13) [e0,e1,e2,e3,[13],e]) (λ_ _ _ _ _ _ _ _ _ _=>∅) (λ_ _ _ _ _ _ _ _ _ _=>∅) (λ_ _ _ _ _ _ _ _ _ _=>∅) _ h5) (d9 (P:=λe=>dJ (3,13) [e0,e1,e2,e3,[13,10],e]) (λ_ _ _ _ _ _ _ _ _ _=>∅) (λ_ _ _ _ _ _ _ _ _ _=>∅) (λ_ _ _ _ _ _ _ _ _ _=>∅) _ h5) _ h4,
 List.forall_mem_cons.mpr ⟨λ_ _ _ _ _ _ _ _ _ _=>∅,
 List.forall_mem_cons.mpr ⟨d9 (P:=λe=>dJ (5,7) [e0,e1,e,e3,e4,e5]) (λ_ _ _ _ _ _ _ _ _ _=>∅) (λ_ _ _ _ _ _ _ _ _ _=>∅) (λ_ _ _ _ _ _ _ _ _ _=>∅) _ h2,
 List.forall_mem_cons.mpr ⟨d9 (P:=λe=>dJ (5,11) [e0,e1,e2,e3,e,e5]) (λ_ _ _ _ _ _ _ _ _ _=>∅) (λ_ _ _ _ _ _ _ _ _ _=>∅) (λ_ _ _ _ _ _ _ _ _ _=>∅) _ h4,
 List.forall_mem_cons.mpr ⟨d9 (P:=λe=>dJ (5,13) [e0,e1,e2,e3,e4,e]) (λ_ _ _ _ _ _ _ _ _ _=>∅) (λ_ _ _ _ _ _ _ _ _ _=>∅) (λ_ _ _ _ _ _ _ _ _ _=>∅) _ h5,
 List.forall_mem_cons.mpr ⟨λ_ _ _ _ _ _ _ _ _ _=>∅,
 List.forall_mem_cons.mpr ⟨λ_ _ _ _ _ _ _ _ _ _=>∅,
 List.forall_mem_cons.mpr ⟨d9 (P:=λe=>dJ (7,11) [e0,e1,e2,e3,e,e5]) (λ_ _ _ _ _ _ _ _ _ _=>∅) (λ_ _ _ _ _ _ _ _ _ _=>∅) (λ_ _ _ _ _ _ _ _ _ _=>∅) _ h4,
 List.forall_mem_cons.mpr ⟨d9 (P:=λe=>dJ (7,13) [e0,e1,e2,e3,e4,e]) (λ_ _ _ _ _ _ _ _ _ _=>∅) (λ_ _ _ _ _ _ _ _ _ _=>∅) (λ_ _ _ _ _ _ _ _ _ _=>∅) _ h5,
 List.forall_mem_cons.mpr ⟨λ_ _ _ _ _ _ _ _ _ _=>∅,
 List.forall_mem_cons.mpr ⟨λ_ _ _ _ _ _ _ _ _ _=>∅,
 List.forall_mem_cons.mpr ⟨λ_ _ _ _ _ _ _ _ _ _=>∅,
 List.forall_mem_cons.mpr ⟨λ_ _ _ _ _ _ _ _ _ _=>∅,
 List.forall_mem_cons.mpr ⟨λ_ _ _ _ _ _ _ _ _ _=>∅,
 List.forall_mem_cons.mpr ⟨λ_ _ _ _ _ _ _ _ _ _=>∅,
 λ_ h=>nomatch h⟩⟩⟩⟩⟩⟩⟩⟩⟩⟩⟩⟩⟩⟩⟩⟩⟩⟩
end
end
section
open PySem PySem.W PySem.Challenge
noncomputable def yR:em->Rho
 | .next ρ=>ρ
 |_=>[]
noncomputable def yS:em->Bool
 | .next _=>true
 |_=>false
theorem yT{r:Res}(h:yS r.2=true):r=(r.1, .next (yR r.2)):=by
 obtain⟨b,o⟩:=r
 induction o using em.casesOn with
 |next ρ=>rfl
 |_=>exact ab h
theorem Cn {Φ:Fns} {τ:Tau} {μ:List Nm} {W n:Nat} {κ:List (Str×NameKind)} {ns:List Nm} {ss ssb ss':List Mine.Slot} {rest:List Stmt} {res:Res} {p:Pos} {t:Expr} {a b:List Stmt} {v:V} (hf:freeze (aB 40 t) (aj ns ss)=aj ns ss) (hp:(aI a&&aI b&&aq (fits 20) a&&aq (fits 20) b)=true) (h:ev Φ τ 40 κ (aj ns ss) t=(true,v)) (hv:aa v=(true,false))
 (ha:yS (ex Φ τ μ W κ n a (aj ns ss)).2=true) (hb:ex Φ τ μ W κ n b (aj ns ss)=(true, .next (aj ns ssb))) (hm:et (aC (c9 20) a++aC (c9 20) b) false (yR (ex Φ τ μ W κ n a (aj ns ss)).2) (aj ns ssb)=aj ns ss') (hr:ex Φ τ μ W κ n rest (aj ns ss')=res):
 ex Φ τ μ W κ (n+1) (.If t a b p::rest) (aj ns ss)=res:=
 jg hp (by rw[hf];exact h) hv (by rw[hf];exact yT ha) (by rw[hf];exact hb) rfl (by rw[hm];exact hr)
theorem yU{l:List V}{v:V}(hl:(l++[v]).length<=cap):gR 0 (.list (l++[v])) (.int (-1))=(true,v):=by
 have e:(l++[v]).length=l.length+1:=by simp
 have ep:place (l++[v]).length (-1)=l.length:=by unfold place;rw[e];show(-1+((l.length+1:Nat):Int)).toNat=l.length;omega
 show((aL (l++[v]).length (-1)&&decide ((l++[v]).length<=cap),nu (l++[v]) (place (l++[v]).length (-1))):R)=_;rw[ep,decide_eq_true hl,iU (by rw[e];omega)];unfold aL;rw[e,decide_eq_true (show -((l.length+1:Nat):Int) <= -1 by omega),decide_eq_true (show(-1:Int)<((l.length+1:Nat):Int)by omega)];rw[List.getD_eq_getElem?_getD,List.getElem?_append_right (Nat.le_refl _),Nat.sub_self];rfl
noncomputable def dC(nums:List Nat)(i:Nat):List Nat:=endsL.getD (nums.getD i 0/1620%3) []
theorem fF(nums:List Nat)(i:Nat):dC nums i∈endsL:=getD_mem [] (show nums.getD i 0/1620%3<endsL.length from Nat.mod_lt _ nofun)
noncomputable def bf(nums:List Nat):List (List Nat):=[dC nums 2,dC nums 3,dC nums 4,dC nums 5,dC nums 6,dC nums 7]
theorem yV(nums:List Nat)(k:Nat):aG (bf nums) k∈endsL:=by
 unfold aG
 by_cases h:k<(bf nums).length
 ·have:∀e∈bf nums,e∈endsL:=by
   unfold bf;intro e he;simp only[List.mem_cons,List.not_mem_nil,or_false]at he
   rcases he with rfl|rfl|rfl|rfl|rfl|rfl<;>exact fF _ _
  exact this _ (getD_mem _ h)
 ·rw[List.getD_eq_getElem?_getD,List.getElem?_eq_none (Nat.not_lt.mp h)];decide
theorem DC{nums:List Nat}{k:Nat}(h:k<6):aG (bf nums) k=dC nums (2+k):=by
 unfold aG bf;have:∀k,k<6->[dC nums 2,dC nums 3,dC nums 4,dC nums 5,dC nums 6,dC nums 7].getD k [10]=dC nums (2+k):=λk hk=>by
  rcases k with _|_|_|_|_|_|k<;>first|rfl|omega
 exact this k h
theorem AW{p q j:Nat}(h:(p,q)∈pairsL)(hj:j<=p*q/2):yK (kn p q j)=true/\(j<p*q/2->yK (bif Nat.beq ((j+1)%p) 0 then jT (kn p q j)else kn p q j)=true/\(Nat.beq ((j+1)%p) 0=true->(kn p q j).rows.length<6))/\((kn p q j).rows.map λr=>r.2.1)=List.range (kn p q j).rows.length:=by
 have f:=List.all_eq_true.mp (List.all_eq_true.mp yO _ h) j (List.mem_range.mpr (by dsimp only;omega));dsimp only at f;have f1:=ay f;have f2:=ay f1.1;refine⟨f2.1,λhlt => ?_,ai.mp f1.2⟩;have f3:=f2.2;rw[Ce (Nat.ne_of_lt hlt),Bool.false_or]at f3;have f4:=ay f3;refine⟨f4.1,λe => ?_⟩;have f5:=f4.2;rw[e,Bool.not_true,Bool.false_or]at f5;exact Nat.le_of_ble_eq_true f5
noncomputable abbrev kq:List Stmt:=jk fM.body[11]?
noncomputable def mR(c:Cx)(E:Nat->List Nat)(S:MS)(t end_ grown:Mine.Slot):List Mine.Slot:=sO c (.val (.str (bN E S))) (.own (dI E S)) (.own (S.won.map vN)) t end_ grown .un .un .un .un .un .un .un .un .un
theorem um{p q j:Nat}(h:(p,q)∈pairsL)(hj:j<=p*q/2)(E:Nat->List Nat):dI E (kn p q j)=(List.range (kn p q j).rows.length).map λk => .list [.str [97+k], .str (E k)]:=by
 rw[<-(AW h hj).2.2,List.map_map];rfl
theorem mP{t y:Nat}{x:Str}{ss:List Mine.Slot}{p1 p2 p3 p4 p5:Pos}(hy:y≠0)(ht:ev ko [] 38 jU (aj nW ss) (.Name "t" p1)=(true,vN t))(hx:ev ko [] 38 jU (aj nW ss) (.Name x p2)=(true,vN y)):ev ko [] 40 jU (aj nW ss) (.Compare (.BinOp (.Name "t" p1) .Mod (.Name x p2) p3) [.Eq] [.Constant (.int 0) 0 p4] p5)=(true, .bool (Nat.beq (t%y) 0)):=
 ev_cmp nofun (x:=vN (t%y)) (y:=vN 0) (ev_bin nofun (x:=vN t) (y:=vN y) ht hx (eO hy)) rfl (sG _ _)
theorem u7{c:Cx}(hn:c.nums.length=14){S:MS}(h6:S.rows.length<6)(ho:yK S=true){t:Nat}{N:Nat}:
 ex ko [] u6 1000 jU (N+8) (yQ kq[0]?) (aj nW (mR c (aG (bf c.nums)) S (.val (vN t)) .un .un))=(true, .next (aj nW (mR c (aG (bf c.nums)) (jT S) (.val (vN t)) (.val (.str (dC c.nums (2+S.rows.length)))) .un))):=by
 have cn:c.nums.length<=cap:=by rw[hn];decide
 have hl:(dI (aG (bf c.nums)) S).length=S.rows.length:=by unfold dI;simp
 have cl:(dI (aG (bf c.nums)) S).length<=cap:=by rw[hl];unfold cap;omega
 have ee:=DC (nums:=c.nums) h6;have hm:=sL (yV c.nums) ho;have hel:=sK (yV c.nums) S.rows.length;rw[ee]at hel;have e1:dI (aG (bf c.nums)) (jT S)=dI (aG (bf c.nums)) S++[.list [.str [97+S.rows.length], .str (dC c.nums (2+S.rows.length))]]:=by
  rw[<-ee];unfold dI jT;rw[List.map_append];rfl
 have e2:bN (aG (bf c.nums)) (jT S)=bN (aG (bf c.nums)) S++([46,97+S.rows.length]++dC c.nums (2+S.rows.length)):=by rw[<-ee];exact yL.symm
 have e3:(jT S).won=S.won:=rfl;unfold mR;rw[e1,e2,e3];clear e1 e2 e3 ee;generalize dI (aG (bf c.nums)) S=rw at hl cl |-;generalize bN (aG (bf c.nums)) S=M at hm |-;generalize S.won.map vN=wn;generalize S.rows.length=n at h6 hl hel |-;generalize he:dC c.nums (2+n)=e at hel |-;have nn:∀{K:Nat} {ss:List Mine.Slot} {p1 p2 p3:Pos},pf jU nW ss "rows" (.own rw)->ev ko [] (K+1) jU (aj nW ss) (.Call (.Name "len" p1) [.Name "rows" p2] [] p3)=(true,vN n):=λh=>by
  rw[<-hl];exact ev_len ∅ (x_own h) (len_list cl)
 refine dw 19 ∅ (by decide +kernel) (v := .str e) ?_ (s := .val (.str e)) rfl ?_
 ·rw[<-he]
  refine aE rfl (x := .tup (endsL.map .str)) (y:=vN (c.nums.getD (2+n) 0/1620%3)) (look_other rfl ∅) ?_ (ty:=0) ∅ (pg nofun (Nat.mod_lt _ nofun) (sD [] (Nat.mod_lt _ nofun)));refine ev_bin nofun (x:=vN (c.nums.getD (2+n) 0/1620)) (y:=vN 3) (ev_bin nofun (x:=vN (c.nums.getD (2+n) 0)) (y:=vN 1620) ?_ ∅ (mI nofun nofun)) ∅ (eO nofun);refine aE rfl (x := .list (c.nums.map vN)) (y:=vN (2+n)) (by walk_at "lk") ?_ (ty:=0) ∅ (iH cn ⋯);exact ev_add (x:=vN 2) (y:=vN n) (look_other rfl ∅) (nn (by walk_at "at")) rfl
 refine AT 16 (l:=rw) ∅ (by decide +kernel) rfl rfl cl (v := .list [.str [97+n], .str e]) ?_ ?_
 ·refine ji (evL_of ?_ (evL_of (by walk_at "ee") evL_nil)) (by simp[cap])
  refine aE rfl (x := .str [97,98,99,100,101,102]) (y:=vN n) (look_other rfl ∅) (nn (by walk_at "at")) (ty:=0) ∅ ((eE (by simp[cap]) (show n<6 from h6)).trans ?_);have:∀i,i<6->([97,98,99,100,101,102]:List Nat).getD i 0=97+i:=nofun
  rw[this n h6]
 have cl2:(rw++[V.list [.str [97+n], .str e]]).length<=cap:=by simp[cap];omega
 refine gw 15 ∅ (by decide +kernel) (x := .str M) rfl (y := .str ([46,97+n]++e)) ?_ (v := .str (M++([46,97+n]++e))) (add_str (by simp[cap];omega)) rfl aR;refine ev_add (x := .str [46,97+n]) (y := .str e) (look_other rfl ?_) (by walk_at "ee") (add_str (by simp[cap];omega));refine ev_add (x := .str [46]) (y := .str [97+n]) (look_other rfl ∅) ?_ rfl;refine aE rfl (x := .list [.str [97+n], .str e]) (y:=vN 0) (look_other rfl ?_) ∅ (ty:=0) ∅ ∅;exact aE rfl (x := .list (rw++[V.list [.str [97+n], .str e]])) (y := .int (-1)) (x_own (by walk_at "at")) ∅ (ty:=0) ∅ (yU cl2)
theorem yW {c:Cx} (hn:c.nums.length=14) {M:List Nat} {F:Nat->List Nat} {wn:List V} {t:V} {N:Nat} {res:Res}
 (h:ev ko [] 40 jU (aj nW (sO c (.val (.str M)) (.own ((List.range 6).map λk=>V.list [.str [97+k], .str (F k)])) (.own wn) (.val t) .un .un .un .un .un .un .un .un .un .un .un)) (mO kq[0]?)=(true, .bool false))
 (h2:ex ko [] u6 1000 jU (N+9) (kq.drop 1) (aj nW (sO c (.val (.str M)) (.own ((List.range 6).map λk=>V.list [.str [97+k], .str (F k)])) (.own wn) (.val t) .un .un .un .un .un .un .un .un .un .un .un))=res):
 ex ko [] u6 1000 jU (N+10) kq (aj nW (sO c (.val (.str M)) (.own ((List.range 6).map λk=>V.list [.str [97+k], .str (F k)])) (.own wn) (.val t) .un .un .un .un .un .un .un .un .un .un .un))=res:=by
 obtain⟨sc,nums,ot,p,q,text,price,word,toll⟩:=c
 match nums,hn with
 |[n0,n1,n2,n3,n4,n5,n6,n7,n8,n9,n10,n11,n12,n13],_=>
  exact Cn (ssb:=sO ⟨sc,[n0,n1,n2,n3,n4,n5,n6,n7,n8,n9,n10,n11,n12,n13],ot,p,q,text,price,word,toll⟩ (.val (.str M)) (.own ((List.range 6).map λk=>V.list [.str [97+k], .str (F k)])) (.own wn) (.val t) .un .un .un .un .un .un .un .un .un .un .un) ∅ (by decide +kernel) h rfl ∅ aR ∅ h2
theorem yX(E:Nat->List Nat)(S:MS):dI E (gW S)=dI E S:=by unfold dI gW;rw[List.map_map];rfl
theorem wo{c:Cx}{S:MS}(ho:yK S=true){t:Nat}{N:Nat}:
 ex ko [] u6 1000 jU (N+8) (yQ kq[1]?) (aj nW (mR c (aG (bf c.nums)) S (.val (vN t)) .un .un))=(true, .next (aj nW (sO c (.val (.str (bN (aG (bf c.nums)) (gW S)))) (.own (dI (aG (bf c.nums)) S)) (.own ((gW S).won.map vN)) (.val (vN t)) .un (.val (.str (bN (aG (bf c.nums)) (gW S)))) .un .un .un .un .un .un .un .un .un))):=by
 have he:=yV c.nums;have hm:=sL he ho;have hq:=ul he ho;have hw:S.won.length<=6:=by
  have:=(ay ho).2;exact Nat.le_of_ble_eq_true this
 have hql:(bN (aG (bf c.nums)) (gW S)).length<=1000:=by
  rw[<-hq];have h1:=jq false (bN (aG (bf c.nums)) S);have h2:∀(b:Bool) (x:List Nat),(bd b x).length<=2*x.length:=λb x=>by
   induction x generalizing b with
   |nil=>exact Nat.le_refl _
   |cons c x ih=>
    rw[uW];have i1:=ih false;have i2:=ih (c==10);cases b&&c==46 with
    |true=>simp only[cond_true,List.length_cons];omega
    |false=>simp only[cond_false,List.length_cons];omega
  have:=h2 true (aM false (bN (aG (bf c.nums)) S))
  omega
 have hcnt:(bN (aG (bf c.nums)) (gW S)).count 46=(bN (aG (bf c.nums)) S).count 46+S.rows.length:=by
  have c1:=mM he (yM ho);have c2:=mM he (S:=gW S) λr hr=>by
   obtain⟨x,hx,rfl⟩:=List.mem_map.mp hr;exact yM ho x hx
  rw[c1,c2];show 1+((S.rows.map λr=>(r.1+1,r.2.1,true)).map λr:Nat×Nat×Bool=>r.1).sum=_;rw[yN];omega
 have e2:(gW S).won.map vN=S.won.map vN++[vN S.rows.length]:=by unfold gW;rw[List.map_append];rfl
 unfold mR;rw[e2];clear e2;generalize bN (aG (bf c.nums)) (gW S)=M2 at hq hql hcnt |-;generalize bN (aG (bf c.nums)) S=M at hm hq hcnt |-;generalize dI (aG (bf c.nums)) S=rw;generalize S.rows.length=n at hcnt |-;have cm:M.length<=cap:=by unfold cap;omega
 have cm2:M2.length<=cap:=by unfold cap;omega
 refine dw 20 ∅ (by decide +kernel) (v := .str M2) ?_ (s := .val (.str M2)) rfl ?_
 ·refine ev_call ∅ ∅ ∅ (vs:=[.str M]) (evL_of (by walk_at "ee") evL_nil) (bM (F:=fQuoteP) rfl ?_)
  show((decide (M.length<=10000),V.str (bd true (aM false M))):R)=_;rw[hq,decide_eq_true ⋯]
 refine AT 17 (l:=S.won.map vN) ∅ (by decide +kernel) rfl rfl (by rw[List.length_map];unfold cap;omega) (v:=vN n) ?_ ?_
 ·refine ev_bin nofun (x:=vN (M2.count 46)) (y:=vN (M.count 46)) ?_ ?_ ?_
  ·exact ev_meth rfl nofun rfl (x := .str M2) (by walk_at "ee") (evL_of ∅ evL_nil) (sF cm2)
  ·exact ev_meth rfl nofun rfl (x := .str M) (by walk_at "ee") (evL_of ∅ evL_nil) (sF cm)
  ·show((true,V.int ((M2.count 46:Nat)-(M.count 46:Nat):Int)):R)=(true,V.int (n:Int))
   rw[hcnt];congr 2;omega
 exact dw 15 ∅ (by decide +kernel) (v := .str M2) (by walk_at "ee") (s := .val (.str M2)) rfl aR
theorem wp{c:Cx}(hx:(c.p,c.q)∈pairsL)(hn:c.nums.length=14){j:Nat}(hj:j<c.p*c.q/2){N:Nat}:
 ex ko [] u6 1000 jU (N+10) kq (aj nW (mR c (aG (bf c.nums)) (kn c.p c.q j) (.val (vN (j+1))) .un .un))=(true, .next (aj nW (mR c (aG (bf c.nums)) (kn c.p c.q (j+1)) (.val (vN (j+1))) .un .un))):=by
 obtain⟨f1,f2,f3⟩:=AW hx (Nat.le_of_lt hj);obtain⟨f4,f5⟩:=f2 hj;have hp:c.p≠0/\c.q≠0:=by
  have:∀x∈pairsL,x.1≠0/\x.2≠0:=nofun
  exact this _ hx
 have rr:=um hx (Nat.le_of_lt hj) (aG (bf c.nums));have es:kn c.p c.q (j+1)=bif Nat.beq ((j+1)%c.q) 0 then gW (bif Nat.beq ((j+1)%c.p) 0 then jT (kn c.p c.q j)else kn c.p c.q j)else(bif Nat.beq ((j+1)%c.p) 0 then jT (kn c.p c.q j)else kn c.p c.q j):=rfl
 rw[es];clear es;have second:∀S1,yK S1=true->ex ko [] u6 1000 jU (N+9) (kq.drop 1) (aj nW (mR c (aG (bf c.nums)) S1 (.val (vN (j+1))) .un .un))=(true, .next (aj nW (mR c (aG (bf c.nums)) (bif Nat.beq ((j+1)%c.q) 0 then gW S1 else S1) (.val (vN (j+1))) .un .un))):=λS1 ho=>by
  refine gy (Nat.beq ((j+1)%c.q) 0) (ssb:=mR c (aG (bf c.nums)) S1 (.val (vN (j+1))) .un .un) ∅ (by decide +kernel) (mP hp.2 (by walk_at "ee") (by walk_at "ee")) rfl (wo ho) aR ?_ aR;cases Nat.beq ((j+1)%c.q) 0 with
  |true=>unfold mR;rw[cond_true,yX];kernel_rfl
  |false=>kernel_rfl
 generalize kn c.p c.q j=S at *;cases hc:Nat.beq ((j+1)%c.p) 0 with
 |true=>
  rw[hc]at f4 f5;refine gy true (ssb:=mR c (aG (bf c.nums)) S (.val (vN (j+1))) .un .un) (ss':=mR c (aG (bf c.nums)) (jT S) (.val (vN (j+1))) .un .un) ∅ (by decide +kernel) (mP hp.1 (by walk_at "ee") (by walk_at "ee")) (by rw[hc];rfl) (u7 hn (f5 rfl) f1) aR ∅ (second _ f4)
 |false=>
  rw[hc]at f4;have tst:ev ko [] 40 jU (aj nW (mR c (aG (bf c.nums)) S (.val (vN (j+1))) .un .un)) (mO kq[0]?)=(true, .bool (Nat.beq ((j+1)%c.p) 0)):=mP hp.1 (by walk_at "ee") (by walk_at "ee");rw[hc]at tst
  by_cases g:S.rows.length<6
  ·exact gy false (ssb:=mR c (aG (bf c.nums)) S (.val (vN (j+1))) .un .un) (ss':=mR c (aG (bf c.nums)) S (.val (vN (j+1))) .un .un) ∅ (by decide +kernel) tst rfl (u7 hn g f1) aR ∅ (second _ f4)
  ·have g6:S.rows.length=6:=by
    have:=Nat.le_of_ble_eq_true (ay (ay f1).1).1
    omega
   rw[g6]at rr;have sec:=second S f4;unfold mR at tst sec |-;rw[rr]at tst sec |-;exact yW hn tst sec
noncomputable def yY(e:Expr):Expr×Expr:=match e with
 | .Compare a _ [b] _=>(a,b)
 |_=>(e,e)
noncomputable def AA(e:Expr):Expr×Expr:=match e with
 | .BoolOp _ [a,b] _=>(a,b)
 |_=>(e,e)
noncomputable def u8(s:Option Stmt):Expr:=match s with
 |some (.Assign _ e _)=>e
 |_ => .Name "" default
noncomputable def AB(x:Nat×Nat):Bool := !((List.range' 1 (x.1-1)).filter λa=>Nat.beq ((a*a+x.2*(x.1-1))%x.1) 0).isEmpty
noncomputable def DD(x:Nat×Nat):Bool:=Nat.beq (x.1%4) 3&&Nat.beq (x.2%4) 3
structure DE(x:Nat×Nat):Prop where
 sorted:∀(sc ot:V) (nums text word:List Nat) (pr tl:Nat),ev ko [] 40 jU (aj nW (sO ⟨sc,nums,ot,x.1,x.2,text,pr,word,tl⟩ .un .un .un .un .un .un .un .un .un .un .un .un .un .un .un)) (mO fM.body[9]?)=(true, .bool false)
 square:∀(sc ot:V) (nums text word:List Nat) (pr tl:Nat) (m r w f n:Mine.Slot),ev ko [] 40 jU (aj nW (sO ⟨sc,nums,ot,x.1,x.2,text,pr,word,tl⟩ m r w .un .un .un f n .un .un .un .un .un .un .un)) (u8 fM.body[14]?)=(true, .bool (AB x))
 both:∀(sc ot:V) (nums text word:List Nat) (pr tl:Nat) (m r w f n s:Mine.Slot),ev ko [] 39 jU (aj nW (sO ⟨sc,nums,ot,x.1,x.2,text,pr,word,tl⟩ m r w .un .un .un f n s .un .un .un .un .un .un)) (yY (mO fM.body[16]?)).2=(true, .bool (DD x))
 gains:∀(sc ot:V) (nums text word:List Nat) (pr tl:Nat) (m r f n s:Mine.Slot),ev ko [] 39 jU (aj nW (sO ⟨sc,nums,ot,x.1,x.2,text,pr,word,tl⟩ m r (.val (.list ((iJ x).won.map vN))) .un .un .un f n s .un .un .un .un .un .un)) (AA (mO fM.body[17]?)).2=(true, .bool false)
theorem pC:∀x∈pairsL,DE x:=by
 unfold pairsL
 repeat refine List.forall_mem_cons.mpr ⟨⟨λ_ _ _ _ _ _ _=>∅,λ_ _ _ _ _ _ _ _ _ _ _ _=>∅,λ_ _ _ _ _ _ _ _ _ _ _ _ _=>∅,λ_ _ _ _ _ _ _ _ _ _ _ _=>∅⟩, ?_⟩
 exact λ_ h=>nomatch h
theorem jV:∀x∈pairsL,(x.2,x.1)∈pairsL/\Nat.beq (ia (aJ x.1 x.2) (x.1/2)%2) 0=AB x/\(iJ x).won.sum%2=ia (aJ x.1 x.2) (x.1/2)%2/\Nat.beq ((ia (aJ x.1 x.2) (x.1/2)+ia (aJ x.2 x.1) (x.2/2))%2) 1=DD x/\(iJ x).won.length<=6/\x.1*x.2<=200:=by decide +kernel
structure yZ(c:Cx):Prop where
 pair:(c.p,c.q)∈pairsL
 len:c.nums.length=14
 text:c.text=bn (aJ c.p c.q) ((c.nums.drop 2).take 6) (c.p/2)
 price:c.price=aU (aJ c.p c.q) ((c.nums.drop 2).take 6) (c.p/2)
 word:c.word=bn (aJ c.q c.p) ((c.nums.drop 8).take 6) (c.q/2)
 toll:c.toll=aU (aJ c.q c.p) ((c.nums.drop 8).take 6) (c.q/2)
theorem DF{c:Cx}(O:yZ c){res:Res}(h:ex ko [] u6 1000 jU 188 (fM.body.drop 12) (aj nW (mR c (aG (bf c.nums)) (iJ (c.p,c.q)) .un .un .un))=res):
 ex ko [] u6 1000 jU 190 (fM.body.drop 10) (aj nW (sO c .un .un .un .un .un .un .un .un .un .un .un .un .un .un .un))=res:=by
 refine qC (vs:=[.str [120,46,10], .list [], .list []]) (ss':=mR c (aG (bf c.nums)) (kn c.p c.q (1-1)) .un .un .un) ∅ (by decide +kernel) ∅ (by simp[cap]) ∅ ?_;have hb:=(jV _ O.pair).2.2.2.2.2;refine qA (λt=>mR c (aG (bf c.nums)) (kn c.p c.q (t-1)) .un .un .un) vN 1 (c.p*c.q/2) ∅ ?_ ∅ (λt h1 h2 => ?_) ?_
 ·refine ff ∅ rfl (vs:=[vN 1,vN (c.p*c.q/2+1)]) (evL_of ∅ (evL_of ?_ evL_nil)) (mH ⋯ (by dsimp only at hb;omega))
  refine ev_add (x:=vN (c.p*c.q/2)) (y:=vN 1) (look_other rfl ?_) ∅ rfl;refine ev_bin nofun (x:=vN (c.p*c.q)) (y:=vN 2) ?_ ∅ (mI nofun nofun);refine ev_bin nofun (x:=vN c.p) (y:=vN c.q) (by walk_at "ee") (by walk_at "ee") ?_;rw[show vN (c.p*c.q)=V.int ((c.p:Int)*(c.q:Int))by unfold vN;rw[Int.natCast_mul]];have:c.p<=13:=(cJ _ O.pair).1;exact b_mulL (jR ⋯)
 ·obtain⟨j,rfl⟩:∃j,t=j+1:=⟨t-1,⋯⟩
  rw[show j+1-1=j by omega,show j+1+1-1=j+1 by omega];exact⟨_,_,∅,wp O.pair O.len (show j<c.p*c.q/2 by omega),∅⟩
 ·rw[show 1+c.p*c.q/2-1=c.p*c.q/2 by omega]
  exact h
theorem Co(a b:Nat):pK .NotEq (.list [vN a,vN b]) (.list [vN a,vN b])=(true,false):=by
 show sT true (decide ((a:Int)=a)&&(decide ((b:Int)=b)&&true)) .NotEq=_;rw[decide_eq_true rfl,decide_eq_true rfl];rfl
theorem AC(l:List Nat):mW (l.map vN)=(l.sum:Nat):=by
 have:∀(l:List Nat) (c:Int),((l.map vN).map getI).foldl (· + ·) c=c+(l.sum:Nat):=λl=>by
  induction l with
  |nil=>intro c;exact(Int.add_zero c).symm
  |cons x l ih=>intro c;rw[List.map_cons,List.map_cons,List.foldl_cons,ih,List.sum_cons];show c+(x:Int)+_=_;omega
 exact(this l 0).trans (Int.zero_add _)
theorem DG{c:Cx}(O:yZ c):ex ko [] u6 1000 jU 188 (fM.body.drop 12) (aj nW (mR c (aG (bf c.nums)) (iJ (c.p,c.q)) .un .un .un))=yP true:=by
 obtain⟨pn1,pn2,pn3,pn4,pn5,pn6⟩:=jV _ O.pair;dsimp only at pn1 pn2 pn3 pn4;have P:=pC _ O.pair;have f1:=cJ _ O.pair;have f2:=cJ _ pn1;dsimp only at f1 f2;have L1:jS (aJ c.p c.q):=kZ _ O.pair;have L2:jS (aJ c.q c.p):=kZ _ pn1;have far:m9 c.text (dz c.p c.q) c.price=c.price:=by rw[O.text,O.price];exact Ck L1 _ ⋯
 have near:m9 (dz c.q c.p) c.word ((c.toll:Int)-1)=c.toll:=by rw[O.word,O.toll];exact Ay L2 _ ⋯
 have par1:c.price%2=ia (aJ c.p c.q) (c.p/2)%2:=by rw[O.price];exact(dy L1 _ _).2.2.2.1
 have par2:c.toll%2=ia (aJ c.q c.p) (c.q/2)%2:=by rw[O.toll];exact(dy L2 _ _).2.2.2.1
 have tl:c.text.length<=500:=by rw[O.text];have:=d8 (aJ c.p c.q) ((c.nums.drop 2).take 6) (c.p/2);omega
 have wl:c.word.length<=500:=by rw[O.word];have:=d8 (aJ c.q c.p) ((c.nums.drop 8).take 6) (c.q/2);omega
 have bl:(dz c.p c.q).length<=500:=by unfold dz;rw[fh];omega
 have pl:(dz c.q c.p).length<=500:=by unfold dz;rw[fh];omega
 have LP:=wm (fF c.nums 2) (fF c.nums 3) (fF c.nums 4) (fF c.nums 5) (fF c.nums 6) (fF c.nums 7) _ O.pair;have ep:Nat.beq (c.price%2) 0=AB (c.p,c.q):=by rw[par1];exact pn2
 have eq2:Nat.beq ((c.price+c.toll)%2) 1=DD (c.p,c.q):=by rw[Nat.add_mod,par1,par2,<-Nat.add_mod];exact pn4
 have es:(c.price:Int).emod 2=((iJ (c.p,c.q)).won.sum:Int).emod 2:=by
  have:c.price%2=(iJ (c.p,c.q)).won.sum%2:=by rw[par1,pn3]
  show((c.price:Int)%2)=(((iJ (c.p,c.q)).won.sum:Nat):Int)%2
  omega
 clear par1 par2 pn2 pn3 pn4 O f1 f2 L1 L2;obtain⟨sc,nums,ot,p,q,text,price,word,toll⟩:=c;dsimp only at *;unfold mR;have LP:=LP sc ot (vN price) (vN toll) (.bool (AB (p,q))) nums text word price toll;dsimp only at LP;rw[show[dC nums 2,dC nums 3,dC nums 4,dC nums 5,dC nums 6,dC nums 7]=bf nums from rfl]at LP;have wc:((iJ (p,q)).won.map vN).length<=cap:=by rw[List.length_map];unfold cap;omega
 have hsq:=P.square sc ot nums text word price toll;have hbo:=P.both sc ot nums text word price toll;have hga:=P.gains sc ot nums text word price toll;generalize bN (aG (bf nums)) (iJ (p,q))=M at *;generalize dI (aG (bf nums)) (iJ (p,q))=rw at *;generalize (iJ (p,q)).won=won at *;refine dw 21 ∅ (by decide +kernel) (v:=vN price) ?_ (s := .val (vN price)) rfl ?_
 ·exact ev_call ∅ ∅ ∅ (vs:=[.str text, .str (dz p q),vN price]) (evL_of (by walk_at "ee") (evL_of (by walk_at "ee") (evL_of (by walk_at "ee") evL_nil))) (bM (F:=fLev) rfl ((yn _ _ _ tl bl).trans (by rw[far];rfl)))
 refine dw 22 ∅ (by decide +kernel) (v:=vN toll) ?_ (s := .val (vN toll)) rfl ?_
 ·exact ev_call ∅ ∅ ∅ (vs:=[.str (dz q p), .str word, .int ((toll:Int)-1)]) (evL_of (by walk_at "ee") (evL_of (by walk_at "ee") (evL_of (ev_bin nofun (x:=vN toll) (y := .int 1) (by walk_at "ee") ∅ rfl) evL_nil))) (bM (F:=fLev) rfl ((yn _ _ _ pl wl).trans (by rw[near];rfl)))
 refine dw 23 ∅ (by decide +kernel) (v := .bool (AB (p,q))) (hsq _ _ _ _ _) (s := .val (.bool (AB (p,q)))) rfl ?_;refine Dx (ss':=sO ⟨sc,nums,ot,p,q,text,price,word,toll⟩ (.val (.str M)) (.own rw) (.val (.list (won.map vN))) .un .un .un (.val (vN price)) (.val (vN toll)) (.val (.bool (AB (p,q)))) .un .un .un .un .un .un) false ∅ ∅ (v := .bool false) ?_ rfl ?_
 ·refine fe (r8 (x := .bool false) ?_ rfl (mm ?_))
  ·refine ev_cmp nofun (x := .bool (Nat.beq (price%2) 0)) (y := .bool (AB (p,q))) (ev_cmp nofun (x:=vN (price%2)) (y:=vN 0) (ev_bin nofun (x:=vN price) (y:=vN 2) (by walk_at "ee") ∅ (eO nofun)) ∅ (sG _ _)) (by walk_at "ee") ?_
   rw[ep];cases AB (p,q)<;>rfl
  ·refine ev_cmp nofun (x := .int (((price:Int)-(won.sum:Nat)).fmod 2)) (y := .int 0) (ev_bin nofun (x := .int ((price:Int)-(won.sum:Nat))) (y := .int 2) (ev_bin nofun (x:=vN price) (y := .int (won.sum:Nat)) (by walk_at "ee") ?_ rfl) ∅ rfl) ∅ ?_
   ·refine ev_call ∅ ∅ ∅ (vs:=[.list (won.map vN)]) (evL_of (by walk_at "ee") evL_nil) (bL rfl ?_)
    show(((won.map vN).all mV&&decide ((won.map vN).length<=cap),V.int (mW (won.map vN))):R)=_;rw[AC,decide_eq_true wc,List.all_map,show(won.all (mV∘vN))=true from List.all_eq_true.mpr λ_ _=>rfl];rfl
   ·show((true, !decide (((price:Int)-(won.sum:Nat)).fmod 2=0)):Bool×Bool)=_
    rw[Int.fmod_eq_emod_of_nonneg _ nofun,decide_eq_true];rfl;show((price:Int)-(won.sum:Nat))%2=0;have es:(price:Int)%2=((won.sum:Nat):Int)%2:=es
    omega
 refine Ar false ∅ ∅ (v := .bool false) ?_ rfl ?_
 ·refine ev_cmp nofun (x := .bool (Nat.beq ((price+toll)%2) 1)) (y := .bool (DD (p,q))) (ev_cmp nofun (x:=vN ((price+toll)%2)) (y:=vN 1) (ev_bin nofun (x:=vN (price+toll)) (y:=vN 2) (ev_add (x:=vN price) (y:=vN toll) (by walk_at "lk") (by walk_at "ee") rfl) ∅ (eO nofun)) ∅ (sG _ _)) (hbo _ _ _ _ _ _) ?_
  rw[eq2];cases DD (p,q)<;>rfl
 refine Ar false ∅ ∅ (v := .bool false) ?_ rfl ?_
 ·refine fe (r8 (x := .bool false) ?_ rfl (mm (hga _ _ _ _ _)))
  exact ev_cmp nofun (x := .list [vN price,vN toll]) (y := .list [vN price,vN toll]) (ji (evL_of (by walk_at "ee") (evL_of (by walk_at "ee") evL_nil)) (by simp[cap])) (ji (evL_of (by walk_at "ee") (evL_of (by walk_at "ee") evL_nil)) (by simp[cap])) (Co _ _)
 exact LP
noncomputable def wq(ns:List Int)(k:Nat):Int:=((fE.getD k 0:Int)+mW (bx 14 k (ns.map .int))).fmod 1000000
noncomputable def numsOf(ns:List Int):List Nat:=(List.range' 0 14).map λk=>(wq ns k).toNat
theorem sM(ns:List Int)(k:Nat):0<=wq ns k:=Int.fmod_nonneg_of_pos _ nofun
theorem wu{k:Nat}{ns:List Int}(h:ns.length<=1000):(bx 14 (k:Int) (ns.map V.int)).all mV=true/\(bx 14 (k:Int) (ns.map V.int)).length<=cap:=by
 unfold bx
 constructor
 ·rw[List.all_eq_true]
  intro x hx;obtain⟨i,_,hi⟩:=List.mem_filterMap.mp hx;obtain⟨j,_,rfl⟩:=List.mem_map.mp (List.mem_of_getElem? hi)
  rfl
 ·refine Nat.le_trans (List.length_filterMap_le _ _) (Nat.le_trans (sliceRange_length_le _ _ _ (ns.map V.int).length (λ_=>⟨⋯,⋯⟩) λh=>absurd nofun h) ?_)
  rw[List.length_map];unfold cap;omega
noncomputable def primesL:List Nat:=[3,5,7,11,13]
noncomputable def bI(p:Nat):List Nat:=primesL.filter λr => !(Nat.beq r p)&&Nat.blt (r*p) 143
theorem wv:∀p∈primesL,(bI p).length≠0/\(bI p).length<=5/\∀q∈bI p,(p,q)∈pairsL:=by decide +kernel
noncomputable def Cy(sc:V)(numbers p others q stops marks text bare price word plain toll:Mine.Slot):List Mine.Slot:=
 [.val sc, .val (.tup (fE.map vN)), .un,numbers,p,others,q,stops,marks,text,bare,price,word,plain,toll, .un, .un, .un, .un, .un, .un, .un, .un, .un, .un, .un, .un, .un, .un, .un]
theorem ww:∀p∈primesL,∀(sc:V) (nums:List Nat),ev ko [] 40 jU (aj nW (Cy sc (.val (.list (nums.map vN))) (.val (vN p)) .un .un .un .un .un .un .un .un .un .un)) (u8 fM.body[3]?)=(true, .list ((bI p).map vN)):=by
 unfold primesL
 repeat refine List.forall_mem_cons.mpr ⟨λ_ _=>∅, ?_⟩
 exact λ_ h=>nomatch h
theorem pD{l:List V}{a b:Nat}(hs:l.length<=cap)(hab:a<=b)(hb:b<=l.length):df (.list l) (vN a) (vN b) .none=(true, .list ((l.drop a).take (b-a))):=by
 show((decide (l.length<=cap),V.list (jY l (some (a:Int)) (some (b:Int)))):R)=_;rw[decide_eq_true hs];unfold jY bound;dsimp only;rw[decide_eq_false (show ¬(a:Int)<0 by omega),decide_eq_false (show ¬(b:Int)<0 by omega)];simp only[cond_false,Int.toNat_natCast];rw[show Nat.min a l.length=a from Nat.min_eq_left ⋯,show Nat.min b l.length=b from Nat.min_eq_left hb]
theorem sN(a:List Nat):AH a a=true:=ai.mpr rfl
theorem AD{a b:List Nat}(ha:∀c∈a,c<1114112)(hb:∀c∈b,c<1114112):pK .NotEq (.list [.str a, .str b]) (.list [.str a, .str b])=(true,false):=by
 have e:∀{a:List Nat},(∀c∈a,c<1114112)->(a.all λc=>Nat.blt c 1114112)=true:=λh=>List.all_eq_true.mpr λc hc=>Nat.ble_eq_true_of_le (h c hc)
 show sT (((a.all λc=>Nat.blt c 1114112)&&((b.all λc=>Nat.blt c 1114112)&&true))&&((a.all λc=>Nat.blt c 1114112)&&((b.all λc=>Nat.blt c 1114112)&&true))) (AH a a&&(AH b b&&true)) .NotEq=_;rw[e ha,e hb,sN,sN];rfl
theorem Cp {sc ot:V} {nums:List Nat} {p q:Nat} (pq:(p,q)∈pairsL) (hlen:nums.length=14) {res:Res}
 (h:∀c,yZ c->ex ko [] u6 1000 jU 190 (fM.body.drop 10) (aj nW (sO c .un .un .un .un .un .un .un .un .un .un .un .un .un .un .un))=res):
 ex ko [] u6 1000 jU 195 (fM.body.drop 5) (aj nW (Cy sc (.val (.list (nums.map vN))) (.val (vN p)) (.val ot) (.val (vN q)) .un .un .un .un .un .un .un .un))=res:=by
 have cn':(nums.map vN).length<=cap:=by rw[List.length_map,hlen];decide
 obtain⟨qp,_,_,_,_,_⟩:=jV _ pq;dsimp only at qp;have s1:=pu _ pq;have s2:=pu _ qp;dsimp only at s1 s2;refine qC (vs:=[.list ((aY p q).map vN), .list ((aY q p).map vN)]) (ss':=Cy sc (.val (.list (nums.map vN))) (.val (vN p)) (.val ot) (.val (vN q)) (.val (.list ((aY p q).map vN))) (.val (.list ((aY q p).map vN))) .un .un .un .un .un .un) ∅ (by decide +kernel) (evL_of ?_ (evL_of ?_ evL_nil)) (by simp[cap]) ∅ ?_
 ·exact ev_call ∅ ∅ ∅ (vs:=[vN p,vN q]) (evL_of (by walk_at "ee") (evL_of (by walk_at "ee") evL_nil)) (bM (F:=fStops) rfl s1)
 ·exact ev_call ∅ ∅ ∅ (vs:=[vN q,vN p]) (evL_of (by walk_at "ee") (evL_of (by walk_at "ee") evL_nil)) (bM (F:=fStops) rfl s2)
 obtain⟨n1,e1⟩:∃n1,n1=(nums.drop 2).take 6:=⟨_,rfl⟩;obtain⟨n2,e2⟩:∃n2,n2=(nums.drop 8).take 6:=⟨_,rfl⟩;have l1:n1.length=6:=by rw[e1];simp;omega
 have l2:n2.length=6:=by rw[e2];simp;omega
 have m1:n1.map vN=((nums.map vN).drop 2).take (8-2):=by rw[e1,List.map_take,List.map_drop]
 have m2:n2.map vN=((nums.map vN).drop 8).take (14-8):=by rw[e2,List.map_take,List.map_drop]
 obtain⟨tx1,ht1⟩:∃t,t=bn (aJ p q) n1 (p/2):=⟨_,rfl⟩;obtain⟨pr,hpr⟩:∃t,t=aU (aJ p q) n1 (p/2):=⟨_,rfl⟩;obtain⟨tx2,ht2⟩:∃t,t=bn (aJ q p) n2 (q/2):=⟨_,rfl⟩;obtain⟨tl,htl⟩:∃t,t=aU (aJ q p) n2 (q/2):=⟨_,rfl⟩;have t1:=pv pq l1;have t2:=pv qp l2;dsimp only at t1 t2;rw[<-ht1,<-hpr]at t1;rw[<-ht2,<-htl]at t2;refine yv (vs:=[.str tx1, .str (dz p q),vN pr]) (ss':=Cy sc (.val (.list (nums.map vN))) (.val (vN p)) (.val ot) (.val (vN q)) (.val (.list ((aY p q).map vN))) (.val (.list ((aY q p).map vN))) (.val (.str tx1)) (.val (.str (dz p q))) (.val (vN pr)) .un .un .un) ∅ ∅ (by decide +kernel) ?_ ∅ ?_
 ·refine ev_call ∅ ∅ ∅ (vs:=[vN p,vN q, .list ((aY p q).map vN), .list (n1.map vN)]) (evL_of (by walk_at "ee") (evL_of (by walk_at "ee") (evL_of (by walk_at "ee") (evL_of ?_ evL_nil)))) (bM (F:=fTyped) rfl t1)
  refine aK (x := .list (nums.map vN)) (a:=vN 2) (b:=vN 8) (c := .none) (by walk_at "ee") (cI ∅) (cI ∅) rfl ?_;rw[m1];exact pD cn' nofun (by rw[List.length_map];omega)
 refine yv (vs:=[.str tx2, .str (dz q p),vN tl]) (ss':=sO ⟨sc,nums,ot,p,q,tx1,pr,tx2,tl⟩ .un .un .un .un .un .un .un .un .un .un .un .un .un .un .un) ∅ ∅ (by decide +kernel) ?_ ∅ ?_
 ·refine ev_call ∅ ∅ ∅ (vs:=[vN q,vN p, .list ((aY q p).map vN), .list (n2.map vN)]) (evL_of (by walk_at "ee") (evL_of (by walk_at "ee") (evL_of (by walk_at "ee") (evL_of ?_ evL_nil)))) (bM (F:=fTyped) rfl t2)
  refine aK (x := .list (nums.map vN)) (a:=vN 8) (b:=vN 14) (c := .none) (by walk_at "ee") (cI ∅) (cI ∅) rfl ?_;rw[m2];exact pD cn' nofun (by rw[List.length_map];omega)
 have L1:jS (aJ p q):=kZ _ pq;have L2:jS (aJ q p):=kZ _ qp;have O:yZ ⟨sc,nums,ot,p,q,tx1,pr,tx2,tl⟩:=⟨pq,hlen,by rw[<-e1];exact ht1,by rw[<-e1];exact hpr,by rw[<-e2];exact ht2,by rw[<-e2];exact htl⟩;have prep:∀(L:List (Nat×Bool)) (ns:List Nat) (k:Nat),jS L->k<=6->fPrep [.str (bn L ns k)]=(true, .str (bS L k))/\∀c∈bS L k,c<1114112:=λL ns k hL hk=>by
  obtain⟨_,_,g3,_,g5,g6⟩:=dy hL ns k;refine⟨?_,λc hc=>by obtain⟨l,hl,rfl⟩:=g6 c hc;omega⟩;rw[<-g3];exact qD (by have:=d8 L ns k;omega) λc hc=>Nat.le_of_ble_eq_true (List.all_eq_true.mp ui c (g5 c hc))
 have f1:=(cJ _ pq).1;have f2:=(cJ _ qp).1;dsimp only at f1 f2;obtain⟨r1,b1⟩:=prep (aJ p q) n1 (p/2) L1 ⋯;obtain⟨r2,b2⟩:=prep (aJ q p) n2 (q/2) L2 ⋯;rw[<-ht1]at r1;rw[<-ht2]at r2;refine Ar false ∅ ∅ (v := .bool false) ?_ rfl ?_
 ·refine ev_cmp nofun (x := .list [.str (dz p q), .str (dz q p)]) (y := .list [.str (dz p q), .str (dz q p)]) (ji (evL_of ?_ (evL_of ?_ evL_nil)) (by simp[cap])) (ji (evL_of (by walk_at "ee") (evL_of (by walk_at "ee") evL_nil)) (by simp[cap])) (AD b1 b2)
  ·exact ev_call ∅ ∅ ∅ (vs:=[.str tx1]) (evL_of (by walk_at "ee") evL_nil) (bM (F:=fPrep) rfl r1)
  ·exact ev_call ∅ ∅ ∅ (vs:=[.str tx2]) (evL_of (by walk_at "ee") evL_nil) (bM (F:=fPrep) rfl r2)
 have so:=(pC _ pq).sorted sc ot nums tx1 tx2 pr tl;dsimp only at so;refine Ar false ∅ ∅ (v := .bool false) so rfl ?_;exact h _ O
theorem DH {ns:List Int} (hn:ns.length<=63) {res:Res}
 (h:∀c,yZ c->ex ko [] u6 1000 jU 190 (fM.body.drop 10) (aj nW (sO c .un .un .un .un .un .un .un .un .un .un .un .un .un .un .un))=res):
 ex ko [] u6 1000 jU 200 fM.body (aj nW (.val (.list (ns.map .int)) :: .un::(Cy .none .un .un .un .un .un .un .un .un .un .un .un .un).drop 2))=res:=by
 have cs:(ns.map V.int).length<=cap:=by rw[List.length_map];unfold cap;omega
 refine dw 1 ∅ (by decide +kernel) (v := .tup (fE.map vN)) ∅ (s := .val (.tup (fE.map vN))) rfl ?_;have eN:(numsOf ns).map vN=(List.range' 0 14).map λk=>V.int (wq ns k):=by
  unfold numsOf;rw[List.map_map];refine List.map_congr_left λk _ => ?_
  show V.int (((wq ns k).toNat:Nat):Int)=V.int (wq ns k);rw[Int.toNat_of_nonneg (sM ns k)]
 have hlen:(numsOf ns).length=14:=by unfold numsOf;simp
 refine dw 3 ∅ (by decide +kernel) (v := .list ((numsOf ns).map vN)) ?_ (s := .val (.list ((numsOf ns).map vN))) ∅ ?_
 ·rw[eN]
  refine yu (λk => .tup [vN k,vN (fE.getD k 0)]) (λk => .int (wq ns k)) (List.range' 0 14) [.un, .un, .un, .un, .val (.list (ns.map .int))] ∅ ∅ ∅ ∅ nofun λk hk=>⟨[.un, .val (vN k), .val (vN (fE.getD k 0)), .un, .val (.list (ns.map .int))],∅, ?_⟩
  obtain⟨e1,e2⟩:=wu (k:=k) (ns:=ns) ⋯;refine ev_bin nofun (x := .int ((fE.getD k 0:Int)+mW (bx 14 k (ns.map .int)))) (y := .int 1000000) ?_ ∅ rfl;refine ev_add (x:=vN (fE.getD k 0)) (y := .int (mW (bx 14 k (ns.map .int)))) (by walk_at "lk") ?_ rfl;refine ev_call ∅ ∅ ∅ (vs:=[.list (bx 14 k (ns.map .int))]) (evL_of ?_ evL_nil) (bL rfl ?_)
  ·refine aK (x := .list (ns.map .int)) (a:=vN k) (b := .none) (c:=vN 14) (by walk_at "ee") (cI (by walk_at "ee")) rfl (cI ∅) ?_
   show((decide ((ns.map V.int).length<=cap)&&decide (0<=(k:Int))&&decide ((1:Int)<=14),V.list (bx 14 k (ns.map .int))):R)=_;rw[decide_eq_true cs,decide_eq_true ⋯];rfl
  ·show(((bx 14 (k:Int) (ns.map V.int)).all mV&&decide ((bx 14 (k:Int) (ns.map V.int)).length<=cap),V.int (mW (bx 14 k (ns.map .int)))):R)=_
   rw[e1,decide_eq_true e2];rfl
 clear eN;generalize numsOf ns=nums at hlen |-;generalize V.list (ns.map .int)=sc;have cn:nums.length<=cap:=by rw[hlen];decide
 have cn':(nums.map vN).length<=cap:=by rw[List.length_map];exact cn
 obtain⟨p,hp⟩:∃p,p=primesL.getD (nums.getD 0 0%5) 0:=⟨_,rfl⟩;have pin:p∈primesL:=by rw[hp];exact getD_mem 0 (show nums.getD 0 0%5<primesL.length from Nat.mod_lt _ nofun)
 refine dw 4 ∅ (by decide +kernel) (v:=vN p) ?_ (s := .val (vN p)) rfl ?_
 ·rw[hp]
  refine aE rfl (x := .tup (primesL.map vN)) (y:=vN (nums.getD 0 0%5)) (look_other rfl ∅) ?_ (ty:=0) ∅ (u4 nofun (Nat.mod_lt _ nofun));refine ev_bin nofun (x:=vN (nums.getD 0 0)) (y:=vN 5) ?_ ∅ (eO nofun);exact aE rfl (x := .list (nums.map vN)) (y:=vN 0) (by walk_at "lk") ∅ (ty:=0) ∅ (iH cn ⋯)
 obtain⟨o1,o2,o3⟩:=wv p pin;refine dw 5 ∅ (by decide +kernel) (v := .list ((bI p).map vN)) (ww p pin sc nums) (s := .val (.list ((bI p).map vN))) ∅ ?_;obtain⟨q,hq⟩:∃q,q=(bI p).getD (nums.getD 1 0%(bI p).length) 0:=⟨_,rfl⟩;have hm:nums.getD 1 0%(bI p).length<(bI p).length:=Nat.mod_lt _ ⋯;have pq:(p,q)∈pairsL:=by rw[hq];exact o3 _ (getD_mem 0 hm)
 have co:(bI p).length<=cap:=by unfold cap;omega
 refine dw 6 ∅ (by decide +kernel) (v:=vN q) ?_ (s := .val (vN q)) rfl ?_
 ·rw[hq]
  refine aE rfl (x := .list ((bI p).map vN)) (y:=vN (nums.getD 1 0%(bI p).length)) (by walk_at "lk") ?_ (ty:=0) ∅ (iH co hm);refine ev_bin nofun (x:=vN (nums.getD 1 0)) (y:=vN (bI p).length) ?_ ?_ (eO ⋯)
  ·exact aE rfl (x := .list (nums.map vN)) (y:=vN 1) (by walk_at "lk") ∅ (ty:=0) ∅ (iH cn ⋯)
  ·refine(ev_len ∅ (x := .list ((bI p).map vN)) (by walk_at "lk") (len_list (by rw[List.length_map];exact co))).trans ?_
   rw[List.length_map];rfl
 exact Cp pq hlen h
noncomputable def fLaw:List V->R:=bY ko [] 1000 (dB ["script"] fM)
theorem u9{ns:List Int}(hn:ns.length<=63):fLaw [.list (ns.map .int)]=(true, .bool true):=
 qB (ns:=nW) (ss := .val (.list (ns.map .int)) :: .un::(Cy .none .un .un .un .un .un .un .un .un .un .un .un .un).drop 2) rfl ∅ (DH hn λc O=>DF O (DG O))
end
section
open PySem PySem.W PySem.Calls PyProof.Rows PySem.Challenge
theorem vd{G:Cfg}{n:Nat}{a:Addr}{F F':List V->R}(h:dc G n a F)(e:∀as,(F' as).1=true->F as=F' as):dc G n a F':=λA r=>by
 refine⟨(h A r).1,λX s as us old off al rp ok => ?_⟩;have e':=e as ok;have:=(h A r).2 X s as us old off al rp (by rw[e'];exact ok);rw[e']at this;exact this
theorem mQ{G:Cfg}{n m:Nat}{a:Addr}{F:List V->R}(h:dc G n a F)(hm:n<=m):dc G m a F:=λA r=>h A (r.less hm)
section
variable {w:World} {h:Heap} {mN mg mb:Str->Option Value}
theorem y1(Bs:gU (GW w h) 99 mN mg mb)(N:yq mg mN):∀x∈GL,∃f u,x.1=nm f/\mg f=some u/\∀X h',m5 (GW w h) h'->vq (GW w h) X->ah (GW w h) X h' x.2 u:=λx hx=>by
 unfold GL at hx;simp only[List.mem_cons,List.not_mem_nil,or_false]at hx
 rcases hx with rfl|rfl|rfl|rfl|rfl
 ·obtain⟨t,e⟩:=eY (said N.g (n:="_MAX_STRING_SIZE") ∅)
  exact⟨"_MAX_STRING_SIZE",_,rfl,e,λX h' _ _=>ah.int_iff.mpr ⟨t,rfl⟩⟩
 ·obtain⟨t,e⟩:=eY (said N.g (n:="_MOVE_COST") ∅)
  exact⟨"_MOVE_COST",_,rfl,e,λX h' _ _=>ah.int_iff.mpr ⟨t,rfl⟩⟩
 ·obtain⟨t,e⟩:=eY (said N.g (n:="_CASE_COST") ∅)
  exact⟨"_CASE_COST",_,rfl,e,λX h' _ _=>ah.int_iff.mpr ⟨t,rfl⟩⟩
 ·obtain⟨t,e⟩:=iC (x:=tx [13,10]) (said N.g (n:="CRLF") ∅)
  exact⟨"CRLF",_,rfl,e,λX h' _ _=>ah.str_iff.mpr ⟨t,rfl⟩⟩
 ·exact⟨"Whitespace",_,rfl,gN (said N.g (n:="Whitespace") ∅),λX h' _ _=>ah.cls_iff.mpr rfl⟩
theorem gA(Bs:gU (GW w h) 99 mN mg mb)(N:yq mg mN)(n:Nat)(fn meth:List (Nm×(List V->R)))(hf:∀x∈fn,∃f a,x.1=nm f/\mg f=some (.ref a)/\dc (GW w h) n a x.2)(hm:∀x∈meth,∃m f,x.1=nm m/\qi (GW w h) mN m f/\dc (GW w h) n f x.2):
 ∀A,fv n A->av (GW w h) A ⟨GL,fn,meth⟩:=
 x8 Bs (y1 Bs N) hf hm
theorem k8{α:Type}{P:α->Prop}:∀x∈([]:List α),P x:=λ_ h=>nomatch h
theorem pE{P:Addr->Prop}{h':Heap}:∀{vs:List Value} {ns:List Int},IntsAre vs ns->Reps (GW w h) P h' (ns.map .int) vs
 |_,_, .nil=>Reps.nil
 |_,_, .cons n t x=>Reps.cons (ah.int_iff.mpr ⟨t,rfl⟩) (pE x)
theorem Cq(B:mA h):dc (GW w h) 4 223 fLaw:=by
 obtain⟨mN,mg,mb,Bs,N⟩:=Am (w:=w) B;have lim:(GW w h).h0.NoLimit:=Bs.lim;have F0:=λn=>gA Bs N n [] [] k8 k8
 have rf:∀{n:Str} {a:Addr},(eQ PW).globals.lookup n=some (some (.ref a))->mg n=some (.ref a):=λ{n a} e=>gN (said N.g e)
 have rn:∀{n:Str} {a:Addr},(match(eQ PW).nss with|x::_=>x.2|[]=>[]).lookup n=some (some (.ref a))->mN n=some (.ref a):=λ{n a} e=>gN (said N.n e)
 have one:∀{n:Nat} {f:Str} {a:Addr} {F:List V->R},mg f=some (.ref a)->dc (GW w h) n a F->∀x∈[(nm f,F)],∃f a,x.1=nm f/\mg f=some (.ref a)/\dc (GW w h) n a x.2:=λ{n f a F} e k x hx=>by
  rw[List.mem_singleton]at hx;subst hx;exact⟨f,a,rfl,e,k⟩
 have kSub:dc (GW w h) 1 192 fSub:=iz (Do B) lim (F0 0);have kLev:dc (GW w h) 2 199 fLev:=iz (Dp B) lim (gA Bs N 1 [(nm "_substitution_cost",fSub)] [] (one (rf ∅) kSub) k8);have kQuote:dc (GW w h) 2 121 fQuoteP:=mQ (vd (yi (Ai B) lim (F0 0) Bs.glob (rf ∅) (rf ∅) (Ao B) (Ap B) ym) λas=>Au) nofun;have kB1:dc (GW w h) 1 139 fB1r:=De (Et B) lim (F0 0) Bs.glob (rf ∅) (Cb B) Dl;have kB3:dc (GW w h) 1 185 fB3r:=Dg (Eu B) lim (F0 0) Bs.glob (rf ∅) B.dict nofun Dm;have kInd:dc (GW w h) 1 69 fIndentP:=vd (iz (yo B) lim (F0 0)) λas=>yG
 have kInit:dc (GW w h) 2 100 (Dc runW):=zW Bs (B8 B) (rn ∅) (let⟨o,fd,h1,h2,_⟩:=B9 B;⟨o,h1,h2⟩) Ah (F0 0);have meth:∀{n:Nat},1<=n->∀x∈[(nm "indent_level",fIndentP)],∃m f,x.1=nm m/\qi (GW w h) mN m f/\dc (GW w h) n f x.2:=λ{n} hn x hx=>by
  rw[List.mem_singleton]at hx;subst hx;exact⟨"indent_level",69,rfl,⟨rn ∅,yp B,⟨none,by rw[typeLookup_type,builtinLookup_eq_fast];kernel_rfl⟩,nofun⟩,mQ kInd hn⟩
 have kStops:dc (GW w h) 3 204 fStops:=iz (Aj B) lim (gA Bs N 2 [(nm "Whitespace",Dc runW)] [(nm "indent_level",fIndentP)] (one (rf ∅) kInit) (meth nofun));have kTyped:dc (GW w h) 1 211 fTyped:=iz (Ak B) lim (F0 0);have kPrep:dc (GW w h) 2 218 fPrep:=iz (t8 B) lim (gA Bs N 1 [(nm "in_table_b1",fB1r),(nm "map_table_b3",fB3r)] [] (λx hx=>by
  simp only[List.mem_cons,List.not_mem_nil,or_false]at hx
  rcases hx with rfl|rfl
  ·exact⟨"in_table_b1",139,rfl,rf ∅,kB1⟩
  ·exact⟨"map_table_b3",185,rfl,rf ∅,kB3⟩) k8)
 exact iz (Dq B) lim (gA Bs N 3 _ _ (λx hx=>by
  simp only[List.mem_cons,List.not_mem_nil,or_false]at hx
  rcases hx with rfl|rfl|rfl|rfl|rfl|rfl
  ·exact⟨"_law_stops",204,rfl,rf ∅,kStops⟩
  ·exact⟨"_law_typed",211,rfl,rf ∅,mQ kTyped nofun⟩
  ·exact⟨"_law_prepared",218,rfl,rf ∅,mQ kPrep nofun⟩
  ·exact⟨"quotedata",121,rfl,rf ∅,mQ kQuote nofun⟩
  ·exact⟨"_levenshtein_distance",199,rfl,rf ∅,mQ kLev nofun⟩
  ·exact⟨"Whitespace",100,rfl,rf ∅,mQ kInit nofun⟩) (meth nofun))
end
theorem holds2:rw_uk0028_02.Holds:=wT λw s a vs ns B hg hl hi hy hn=>by
 obtain⟨hh,gg,dr,tk,os⟩:=s;have room:fv 4 callerA:=⟨rfl,nofun,nofun⟩;have K:=(Cq (w:=w) B callerA room).2 (λ_=>False) _ [.list (ns.map .int)] [.ref a] (λ_ _ e=>e) (λ_ f=>f.elim) (λ_ f=>f.elim)
  (Reps.cons (ah.list_iff.mpr ⟨a,vs.toArray,rfl,λf=>f,hl,pE hi⟩) Reps.nil) (by rw[u9 hn])
 rw[u9 hn]at K;refine K _ _ λu s' k r => ?_
 obtain⟨h',t',rfl,kk⟩:=k;exact⟨ah.bool_iff.mp r,kk,rfl,hg⟩
end
end Mine
theorem PySem.Challenge.cw_uk0028_02_holds : PySem.Challenge.rw_uk0028_02.Holds :=
 Mine.holds2
