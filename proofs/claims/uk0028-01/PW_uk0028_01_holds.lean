import PyProof.Rows.All
import Wide.All
import OpenK.AllK
import Wide.FinOn
import Open.Boot
import PyProof.FactsInt
import PyProof.DictStraight
import PyProof.ListMulAny
import PyProof.Rows.StrInSeq
import PyProof.LetGo
import PyProof.Rows.SeqCalls
import PyProof.Rows.SumAny
import PyProof.Rows.SeqGen
import PyProof.Rows.FactsT3
import PyProof.Rows.FactsT2
import PyProof.Rows.FactsT1
import PyProof.Rows.EnumRows
import PyProof.Rows.SeqRange
import PyProof.Rows.StrOrd
import PyProof.Rows.Tup
import PyProof.TupleOfSeq
import PyProof.ListStr
import PyProof.Rows.SortStr
import PyProof.Rules2
import PyProof.RulesDelMore
import PyProof.CallType
import PyProof.StrCalls
import PyProof.StrCalls2
import PyProof.Rows.StrNews2
import PyProof.Rows.StrJoin2
import PyProof.StrCaseBound
import PyProof.ListRange
import PyProof.Rows.Range3
import PyProof.RangeFor
import PyProof.StrCalls6
import PyProof.WalksPairs
import PyProof.WalksMore
import PyProof.WalksEnum
import PyProof.EnumMake
import PyProof.Draws
import PyProof.StrWalks
import PyProof.CompFree
import PyProof.Rows.ListAppend
import PyProof.DictCompW
import PyProof.Rows.DictListVals
import PyProof.Rows.SortShell
import PyProof.ForAppend
import PyProof.RulesAssignMore
import PyProof.Rows.TupAssign
import PyProof.Dict
import PyProof.Raises
import PyProof.ForAny
import PyProof.Cells
import OpenK.KCls
import PyProof.ObjNew
import PyProof.InstLoad
import PyProof.Rows.PlainObj
import PyProof.AssignAttr
import PyProof.SetRoads
import PyProof.DictCalls
import PyProof.StrLawsTight
import PyProof.Rows.RegStrFacts
import PyProof.StrLawsFrom
import PyProof.Rows.StrStrike
import Lean
import PySem.Challenge.RW_uk0028_01
set_option Elab.async false
set_option compiler.extract_closed false
set_option maxRecDepth 100000
set_option linter.unusedVariables false
namespace Mine
local macro_rules | `(∅) => `(by kernel_rfl)
local macro_rules | `(⋯) => `(by omega)
local macro_rules | `(nofun) => `(by decide)
abbrev aG := @List.mem_cons_of_mem
abbrev ae := @PySem.wpAny_bind
abbrev ai := @decide_eq_true
abbrev ah := @Nat.le_trans
abbrev aO := @List.mem_cons_self
abbrev aK := @Bool.and_eq_true
abbrev aY := @of_decide_eq_true
abbrev aq := @Nat.le_refl
abbrev aW := @List.length_map
abbrev ar := @PySem.wpAny_pure
abbrev aP := @List.length_cons
abbrev aC := @List.map_cons
abbrev bk := @List.length_append
abbrev cA := @List.getD_eq_getElem?_getD
abbrev bg := @decide_eq_false
abbrev c0 := @Array.length_toList
abbrev co := @List.append_assoc
abbrev bY := @List.append_nil
abbrev di := @PySem.Heap.get?_push_size
abbrev cj := @List.not_mem_nil
abbrev bQ := @PySem.wpAny_holding
abbrev bK := @PySem.wpAny_mono
abbrev dw := @PySem.wpAny_standAt
abbrev dy := @Nat.lt_of_lt_of_le
abbrev dz := @Nat.lt_of_le_of_lt
abbrev cR := @List.length_take
abbrev bZ := @Bool.and_self
abbrev dj := @List.length_drop
abbrev bw := @Nat.zero_le
abbrev ft := @List.drop_eq_nil_of_le
abbrev fu := @List.length_singleton
abbrev gE := @List.take_of_length_le
abbrev gF := @List.getElem?_eq_getElem
abbrev gG := @PySem.Heap.get?_push_of_some
abbrev dl := @Nat.lt_irrefl
abbrev cC := @Bool.or_true
abbrev dQ := @List.map_map
abbrev gH := @List.mem_of_getElem?
abbrev eH := @Nat.eq_of_beq_eq_true
abbrev iA := @Nat.le_of_ble_eq_true
abbrev bR := @Option.some.inj
abbrev fZ := @List.cons_ne_nil
theorem cJ{α:Type}{p:α->Prop}{a:α}{l:List α}(h:p a/\∀x∈l,p x):∀x∈a::l,p x:=List.forall_mem_cons.mpr h
theorem bu{α:Type}{a b:α}{l:List α}(h:a∈b::l):a=b\/a∈l:=List.mem_cons.mp h
theorem cq{α:Type}{p:α->Bool}{l:List α}(h:l.all p=true):∀x∈l,p x=true:=List.all_eq_true.mp h
theorem dS{α:Type}{a b:α}(h:a∈[b]):a=b:=List.mem_singleton.mp h
theorem eJ{α:Type}{a:α}{s t:List α}(h:a∈s++t):a∈s\/a∈t:=List.mem_append.mp h
theorem bc{a b:Bool}(h:(a&&b)=true):a=true/\b=true:=Bool.and_eq_true_iff.mp h
section
theorem lb{a b:Nat}(h:Nat.ble a b=true):a<=b:=iA h
section
variable {a b c d e f g i j m n o:Nat} {x y z:Int} {p q r:Prop}
theorem tt:true=true:=rfl
theorem o0(h:a<b):a<=b:=Nat.le_of_lt h
theorem o1(h:¬a<b):b<=a:=Nat.le_of_not_lt h
theorem o2(h:¬a<=b):b<a:=Nat.lt_of_not_le h
theorem o3:a<=a+b:=Nat.le_add_right a b
theorem o4:a<=b+a:=Nat.le_add_left a b
theorem o5(h:a<=b)(k:b<=c):a<=c:=ah h k
theorem o7(h:a<=b)(k:b<c):a<c:=dz h k
theorem o8(h:b<a):a≠b:=Nat.ne_of_gt h
theorem o9:a+b+c=a+(b+c):=Nat.add_assoc a b c
theorem o10(h:a<=b):(↑a:Int) <= ↑b:=Int.ofNat_le.2 h
theorem o11(h:a<b):(↑a:Int) < ↑b:=Int.ofNat_lt.2 h
theorem o13(h:0<a):a=a-1+1:=(Nat.sub_add_cancel h).symm
theorem o14(h:b<a):a=a-1+1:=(Nat.sub_add_cancel (dz (bw b) h)).symm
theorem o17(h:a-b=c+1):a-(b+1)=c:=congrArg Nat.pred h
theorem o18(h:a-b<=c+1):a-(b+1)<=c:=Nat.pred_le_pred h
theorem o19(h:b<a):a-(b+1)<a-b:=Nat.sub_succ_lt_self a b h
theorem o20(h:a<=c):a-b<=c:=ah (Nat.sub_le a b) h
theorem o21(h:a<=c):min (a-b) a<=c:=ah (Nat.min_le_right _ _) h
theorem o22(h:a<=d):min (b-c) (a-c)<=d:=ah (Nat.min_le_right _ _) (ah (Nat.sub_le a c) h)
theorem o23(h:b<=d):min a b-c<=d:=ah (Nat.sub_le _ _) (ah (Nat.min_le_right _ _) h)
theorem o24(h:b-a=0)(k:a<=b):a=b:=Nat.le_antisymm k (Nat.le_of_sub_eq_zero h)
theorem o25(h:a-b=c+1):¬a<=b:=λk=>Nat.succ_ne_zero c (h.symm.trans (Nat.sub_eq_zero_of_le k))
theorem o26(h:b-a=c+1):a<b:=Nat.lt_of_not_le λk=>Nat.succ_ne_zero c (h.symm.trans (Nat.sub_eq_zero_of_le k))
theorem o27(h:a<=b):a+(b-a)=b:=Nat.add_sub_cancel' h
theorem o28(h:a<=b):b=a+(b-a):=(Nat.add_sub_cancel' h).symm
theorem o29:a+b-a=b:=Nat.add_sub_cancel_left a b
theorem o31:a+1+b-a=b+1:=(congrArg (· - a) (Nat.succ_add_eq_add_succ a b)).trans (Nat.add_sub_cancel_left a (b+1))
theorem o34(h:¬a<b)(k:¬b=a):a-b=a-b-1+1:=(Nat.sub_add_cancel (Nat.sub_pos_of_lt (Nat.lt_of_le_of_ne (Nat.le_of_not_lt h) k))).symm
theorem o35(h:¬a<b)(k:a<=b):a=b:=Nat.le_antisymm k (Nat.le_of_not_lt h)
theorem o36(h:¬a<b)(k:a<=b):b=a:=Nat.le_antisymm (Nat.le_of_not_lt h) k
theorem o37(h:a<=b)(k:b<=a):a=b:=Nat.le_antisymm h k
theorem o39(h:0<=a/\a<0+b):a<b:=Nat.zero_add b▸h.2
theorem o42(h:a<0+b)(e:c=b):a<c:=e.symm▸Nat.zero_add b▸h
theorem o54(h:a<b):a+1<b+1:=Nat.succ_lt_succ h
theorem o55(h:a+1<b+1):a<b:=Nat.lt_of_succ_lt_succ h
theorem o56(h:a+1<=b):a<b:=h
theorem o57(h:a+1<=b):a<=b:=Nat.le_of_succ_le h
theorem o58(h:a<b):a+1<=b:=h
theorem o59(h:a+c<b):a<b:=dz (Nat.le_add_right _ _) h
theorem o60(h:a+c<=b):a<=b:=ah (Nat.le_add_right _ _) h
theorem o61(h:a+c<=b):c<=b:=ah (Nat.le_add_left _ _) h
theorem o62(h:a+(c+1)=b):a<b:=h▸Nat.lt_add_of_pos_right (Nat.succ_pos c)
theorem o63(h:a<b+1+c):a<b+(c+1):=Nat.succ_add_eq_add_succ b c▸h
theorem o64(h:a+(b+1)<c):a+1+b<c:=(Nat.succ_add_eq_add_succ a b).symm▸h
theorem o65(h:a+(b+1)<=c):a+1+b<=c:=(Nat.succ_add_eq_add_succ a b).symm▸h
theorem o66(h:a+(b+1)=c):a+1+b=c:=(Nat.succ_add_eq_add_succ a b).trans h
theorem o68(h:a=b):b<=a:=Nat.le_of_eq h.symm
theorem o69(h:a=b+1):b<a:=Nat.le_of_eq h.symm
theorem o70(h:a<=b):a+1<=b+1:=Nat.succ_le_succ h
theorem o71(h:a<=b):a<b+1:=Nat.lt_succ_of_le h
theorem o72(h:a<b+1):a<=b:=Nat.le_of_lt_succ h
theorem o78(h:a<=2*b):a+1+1<=2*(b+1):=Nat.succ_le_succ (Nat.succ_le_succ h)
theorem o79(h:a<=m)(k:b<=n)(l:Nat.ble (m+n) c=true):a+b<=c:=ah (Nat.add_le_add h k) (lb l)
theorem o83(d:a<=m)(h:b<=n/\p)(l:Nat.ble (o+n+m) c=true):o+b+a<=c:=ah (Nat.add_le_add (Nat.add_le_add_left h.1 o) d) (lb l)
theorem o86(e:d=c)(l:Nat.ble m c=true):m<=d:=e.symm▸lb l
theorem o87(e:d=c)(l:Nat.ble c m=true):d<=m:=e.symm▸lb l
theorem o89(h:a<=b)(l:Nat.ble b c=true):a<=c:=ah h (lb l)
theorem o90(h:a<=b)(l:Nat.ble (b+1) c=true):a<c:=dz h (lb l)
theorem o91(h:a<b)(l:Nat.ble b (c+1)=true):a<=c:=Nat.le_of_lt_succ (dy h (lb l))
theorem o94(h:a<=b)(k:b<=c)(l:Nat.ble c d=true):a<=d:=ah (ah h k) (lb l)
theorem o98(h:a+1<=b/\b<c):a<=b/\b<c:=⟨Nat.le_of_succ_le h.1,h.2⟩
theorem o102(h:a<b):¬b<=a:=Nat.not_le.mpr h
theorem o103(h:a=b):¬a<b:=λk=>dl _ (h▸k)
theorem o104(h:a<=b):¬b<a:=Nat.not_lt.mpr h
theorem o105(h:¬a<b):¬a+1<b+1:=λk=>h (Nat.lt_of_succ_lt_succ k)
theorem o106(h:¬a<b):b<=a+1:=Nat.le_succ_of_le (Nat.le_of_not_lt h)
theorem o107(e:a=b)(h:¬c<a):b<=c:=e▸Nat.le_of_not_lt h
theorem o109(h:¬a<=b):b<=a:=Nat.le_of_lt (Nat.lt_of_not_le h)
theorem o110(h:¬a=0):0<a:=Nat.pos_of_ne_zero h
theorem o113(h:a<b)(k:b<=c):a<min b c:=Nat.lt_min.mpr ⟨h,dy h k⟩
theorem o116:min a b<=a:=Nat.min_le_left a b
theorem o117(h:a<=b/\p):a<=b:=h.1
theorem o118(h:p/\a<=b):a<=b:=h.2
theorem o119(k:d<=m)(h:a<=b/\a<=d)(l:Nat.ble (m+1) c=true):a<c:=dz h.2 (dz k (lb l))
theorem o120(e:a=b)(h:c<a):c<b:=e▸h
theorem o122(e:a=b)(h:a<=c):b<=c:=e▸h
theorem o123(h:a<=b)(k:c+b<d):c+a<d:=dz (Nat.add_le_add_left h c) k
theorem o124(h:a<=b)(k:c+8*b+200<d):c+8*a+200<d:=dz (Nat.add_le_add_right (Nat.add_le_add_left (Nat.mul_le_mul_left 8 h) c) 200) k
theorem o125(k:c+8*(a+1)+200<d):c+3+8*a+200<d:=dz (Nat.add_le_add_right (ah (Nat.le_of_eq (Nat.add_assoc c 3 (8*a))) (Nat.add_le_add_left (ah (Nat.add_le_add_right (show 3<=8 by decide) _) (Nat.le_of_eq (Nat.add_comm 8 (8*a)))) c)) 200) k
theorem o126(k:c+8*(a+2)+200<d):c+(1+3*0)+8*(a+1)+200<d:=dz (Nat.add_le_add_right (ah (Nat.le_of_eq (Nat.add_assoc c 1 (8*(a+1)))) (Nat.add_le_add_left (ah (Nat.add_le_add_right (show 1<=8 by decide) _) (Nat.le_of_eq (Nat.add_comm 8 (8*(a+1))))) c)) 200) k
theorem o127(k:c+8*a+200<d):c+200<d:=dz (Nat.add_le_add_right (Nat.le_add_right c (8*a)) 200) k
theorem o129(h:a<=b)(k:c<=3*a):c<=3*b:=ah k (Nat.mul_le_mul_left 3 h)
theorem o130(h:a<=3*b):a<=3*b+c:=ah h (Nat.le_add_right _ _)
theorem o131(h:¬a<=4):a=4+(a-4):=(Nat.add_sub_cancel' (Nat.le_of_lt (Nat.lt_of_not_le h))).symm
theorem o132(k:a<4*(b+1))(h:¬a<=4):a-4<4*b:=Nat.sub_lt_right_of_lt_add (Nat.le_of_lt (Nat.lt_of_not_le h)) k
theorem o133(h:a<=b):b-a<b+1-a:=Nat.sub_lt_sub_right h (Nat.lt_succ_self b)
theorem o134(h:a<=b)(k:¬a=b):a<=b/\¬b-a=0:=⟨h,λe=>k (Nat.le_antisymm h (Nat.le_of_sub_eq_zero e))⟩
theorem o135(h:b-a=c)(k:b<=c)(l:¬c=0):b=c:=Nat.le_antisymm k (h▸Nat.sub_le b a)
theorem o136(h:a<=b)(k:b<a+c):b-a<c:=Nat.sub_lt_left_of_lt_add h k
theorem o138(h:a<=b):a-b=0:=Nat.sub_eq_zero_of_le h
theorem o141(g:e<=a+1)(h:a<=2*b)(k:b<=c)(l:c<d):e+1<=2*d:=ah (Nat.succ_le_succ (ah g (Nat.succ_le_succ (ah h (Nat.mul_le_mul_left 2 k))))) (Nat.mul_le_mul_left 2 l)
theorem o142(g:c<=m*b)(k:b<=a)(h:a<=n)(l:Nat.ble (m*n) d=true):c<=d:=ah g (ah (Nat.mul_le_mul_left m (ah k h)) (lb l))
theorem o143(f:e<=c+1)(g:c<=m*b)(k:b<=a)(h:a<=n)(l:Nat.ble (m*n+1) d=true):e<=d:=ah f (ah (Nat.succ_le_succ (ah g (Nat.mul_le_mul_left m (ah k h)))) (lb l))
theorem o144(h:a<=m*b)(k:b<=n*c)(g:c<=o)(l:Nat.ble (m*(n*o)) d=true):a<=d:=ah h (ah (Nat.mul_le_mul_left m (ah k (Nat.mul_le_mul_left n g))) (lb l))
theorem o145(h:¬a<b):¬(↑a:Int)<b:=mt Int.ofNat_lt.mp h
theorem o146(h:¬a<=b):¬(↑a:Int)<=b:=mt Int.ofNat_le.mp h
theorem o147(h:(↑a:Int)<b):a<b:=Int.ofNat_lt.mp h
theorem o148(h:¬(↑a:Int)<b):b<=a:=Int.ofNat_le.mp (Int.not_lt.mp h)
theorem o149(h:a<=b)(l:Nat.ble b c=true):(↑a:Int)<=OfNat.ofNat c:=Int.ofNat_le.mpr (ah h (lb l))
theorem o150(h:a<b)(l:Nat.ble b c=true):(↑a:Int)<=OfNat.ofNat c:=Int.ofNat_le.mpr (Nat.le_of_lt (dy h (lb l)))
theorem o152(h:x<y)(k:z<=x):z<=y:=Int.le_trans k (Int.le_of_lt h)
theorem o153(h:x<y)(k:y<z/\p):x<z:=Int.lt_trans h k.1
theorem o158(h:x<y):¬x=y:=Int.ne_of_lt h
theorem o160(h:0<x/\p):0<=x:=Int.le_of_lt h.1
theorem o161(h:1<=x):0<x:=h
theorem o166(k:b<=d/\d<e/\e<=a)(h:a-b<=c+1):a-e<=c:=ah (Nat.sub_le_sub_left (dz k.1 k.2.1) a) (Nat.pred_le_pred h)
theorem o167(h:a<=3*b):a+(min d e-b+0)<=3*b+(d-b):=Nat.add_le_add h (Nat.sub_le_sub_right (Nat.min_le_left d e) b)
theorem o168(h:a<=2)(g:f<=3*b+(c-b))(k:b<=c)(l:c<d):f+(a+0)<=3*d:=ah (Nat.add_le_add (ah g (ah (Nat.add_le_add_left (Nat.le_mul_of_pos_left (c-b) (Nat.succ_pos 2)) (3*b)) (Nat.le_of_eq ((Nat.mul_add 3 b (c-b)).symm.trans (congrArg (3 * ·) (Nat.add_sub_cancel' k)))))) (Nat.le_succ_of_le h)) (Nat.mul_le_mul_left 3 l)
theorem o169(g:b<=m*c)(k:c<a)(h:a<=n)(l:Nat.ble (m*n+n) d=true):b+(a-c+0)<=d:=ah (Nat.add_le_add (ah g (Nat.mul_le_mul_left m (ah (Nat.le_of_lt k) h))) (ah (Nat.sub_le a c) h)) (lb l)
theorem o170(h:p/\b<=a):b+(a-b)=a:=Nat.add_sub_cancel' h.2
theorem o173(h:c<=b/\b<c+(d-c)):b<d:=(Nat.le_total c d).elim (λk=>Nat.add_sub_cancel' k▸h.2) (λk=>absurd h.1 (Nat.not_le.mpr (show b<c+0 from Nat.sub_eq_zero_of_le k▸h.2)))
theorem o174(h:a<=b/\b<a+(c-a)/\p)(e:c=d):a<=b/\b<b+1/\b+1<=d:=⟨h.1,Nat.lt_succ_self b,e▸(Nat.le_total a c).elim (λk=>Nat.add_sub_cancel' k▸h.2.1) (λk=>absurd h.1 (Nat.not_le.mpr (show b<a+0 from Nat.sub_eq_zero_of_le k▸h.2.1)))⟩
theorem o175(h:a<=b/\p)(e:c=d)(k:(r/\b+1<c)/\q):a<=b/\b<b+2/\b+2<=d:=⟨h.1,Nat.lt_add_of_pos_right (Nat.succ_pos 1),e▸k.1.2⟩
theorem o176(e:a=b)(f:a+1=c)(h:d<=a/\a<g)(i:g=j):d<=b/\b<c/\c<=j:=⟨e▸h.1,e▸Nat.le_of_eq f,i▸f▸h.2⟩
theorem o177(h:a<=n)(k:b<=m)(l:Nat.ble (m+1) n=true):a+(b+1-a)<=n:=(Nat.le_total a (b+1)).elim (λq=>(Nat.add_sub_cancel' q).symm▸ah (Nat.succ_le_succ k) (lb l)) (λq=>(Nat.sub_eq_zero_of_le q).symm▸h)
theorem o178(k:a-1<b/\a-1<c/\p):a<=b/\a<=c:=⟨Nat.le_of_pred_lt k.1,Nat.le_of_pred_lt k.2.1⟩
theorem o183(h:a<=b)(k:b-a=c+(d+e+1+1)):a+c+2<=b:=Nat.add_sub_cancel' h▸(k.symm▸(Nat.add_assoc a c 2).symm▸Nat.add_le_add_left (Nat.add_le_add_left (Nat.le_add_left 2 (d+e)) c) a:a+c+2<=a+(b-a))
theorem o184(h:d+c<=n)(l:Nat.ble (n+1) m=true):d+min a c<m:=dz (ah (Nat.add_le_add_left (Nat.min_le_right a c) d) h) (lb l)
theorem o185(l:Nat.ble c d=true):m*(b-a)+c<=m*b+d:=Nat.add_le_add (Nat.mul_le_mul_left m (Nat.sub_le b a)) (lb l)
theorem o188(h:a-b<=0+1):a<=b+1:=Nat.sub_le_iff_le_add'.mp h
theorem o190(h:a-b=0):a<=b:=Nat.le_of_sub_eq_zero h
theorem o191(h:a-b<=0):a<=b:=Nat.le_of_sub_eq_zero (Nat.le_zero.mp h)
theorem o192(e:a=b)(h:b<=c):a<=c:=e▸h
theorem o193(e:a=b)(h:b<c):a<c:=e▸h
theorem o194(h:a<=b+c)(e:b=d)(k:d<=f)(l:c<=g):a<=f+g:=ah h (Nat.add_le_add (e▸k) l)
theorem o195(h:a+b<=c)(e:a=d)(f:b=g):d+g<=c:=e▸f▸h
theorem o200(h:a<b)(k:¬a+1=b):a+1<b:=Nat.lt_of_le_of_ne h k
theorem o201(h:a=b):a<=b+c:=h▸Nat.le_add_right _ _
theorem o202(h:a+(b+1)<=c):0+b<=c:=(Nat.zero_add b).symm▸ah (ah (Nat.le_succ b) (Nat.le_add_left (b+1) a)) h
theorem o203(h:a=0):a<=b/\a<=c:=⟨h▸bw b,h▸bw c⟩
theorem o205(h:a+(b+1)<=n)(l:Nat.ble n m=true):a<m:=dy (dy (Nat.lt_add_of_pos_right (Nat.succ_pos b)) h) (lb l)
theorem o206(h:a+(b+(c+1))<=d):a+(b+1)<=d:=ah (Nat.add_le_add_left (Nat.add_le_add_left (Nat.succ_le_succ (bw c)) b) a) h
theorem o207(k:b<=a+1)(h:a<=n)(l:Nat.ble (n+2) c=true):b+1<=c:=ah (Nat.succ_le_succ (ah k (Nat.succ_le_succ h))) (lb l)
theorem o209(h:a<=n)(l:Nat.ble n c=true):¬c<a:=Nat.not_lt.mpr (ah h (lb l))
theorem o210 : -(↑b:Int) <= ↑a:=Int.le_trans (Int.neg_nonpos_of_nonneg (Int.natCast_nonneg b)) (Int.natCast_nonneg a)
theorem o211(h:0<a) : -(↑a:Int)<0:=Int.neg_neg_of_pos (Int.natCast_pos.mpr h)
theorem o212(h:0<a) : -(↑a:Int) < ↑b:=Int.lt_of_lt_of_le (Int.neg_neg_of_pos (Int.natCast_pos.mpr h)) (Int.natCast_nonneg b)
theorem o213(h:a<=b) : -(↑b:Int) <= -↑a:=Int.neg_le_neg (Int.ofNat_le.mpr h)
theorem o214(h : -(OfNat.ofNat m:Int)<=x)(k:x<=OfNat.ofNat n)(l:Nat.ble m i=true)(j:Nat.ble (n+1) o=true) : -(OfNat.ofNat i:Int)<=x/\x<OfNat.ofNat o:=⟨Int.le_trans (Int.neg_le_neg (Int.ofNat_le.mpr (lb l))) h,Int.lt_of_le_of_lt k (Int.ofNat_lt.mpr (lb j))⟩
theorem o217(h:x<=OfNat.ofNat n)(l:Nat.ble n c=true):x.toNat<=c:=Int.toNat_le.mpr (Int.le_trans h (Int.ofNat_le.mpr (lb l)))
theorem o218:(0:Int)<=max 0 x:=Int.le_max_left 0 x
theorem o223(h:max 0 (min x (↑a:Int)) = ↑b):b<=a:=Int.ofNat_le.mp (h▸Int.max_le.mpr ⟨Int.natCast_nonneg a,Int.min_le_right x ↑a⟩)
theorem o226(h:¬x<0):0<=x:=Int.not_lt.mp h
theorem o227(h:x<0):x+y<y:=Int.lt_of_lt_of_le (Int.add_lt_add_right h y) (Int.le_of_eq (Int.zero_add y))
theorem o228(h:x<0):x+y<=y:=Int.le_of_lt (Int.lt_of_lt_of_le (Int.add_lt_add_right h y) (Int.le_of_eq (Int.zero_add y)))
theorem o229(h : -y<=x/\x<y):0<=x+y:=Int.le_trans (Int.le_of_eq (Int.add_left_neg y).symm) (Int.add_le_add_right h.1 y)
theorem o230(h:b+1+1<=a)(k:a<b):p:=absurd (Nat.lt_of_succ_lt h) (Nat.lt_asymm k)
theorem o231(h:b+1+1<=a)(k:a=b):p:=absurd (k▸Nat.lt_of_succ_lt h) (dl _)
theorem o232(h:b+1<=a)(k:a<b):p:=absurd h (Nat.lt_asymm k)
theorem o234(h:a<b)(k:b<=a):p:=absurd h (Nat.not_lt.mpr k)
theorem o237(h:a<b)(k:b-a=0):p:=absurd h (Nat.not_lt.mpr (Nat.le_of_sub_eq_zero k))
theorem o238(h:a=b+1)(k:a<=b):p:=absurd (ah (Nat.le_of_eq h.symm) k) (dl b)
theorem o240(k:b<=d/\d<e/\e<=a)(h:a-b<=0):p:=absurd (dy (dz k.1 k.2.1) k.2.2) (Nat.not_lt.mpr (Nat.le_of_sub_eq_zero (Nat.le_zero.mp h)))
end
end
theorem aa{P:Prop}(h:false=true):P:=Bool.noConfusion h
theorem aD{α:Type}{x:α}{P:Prop}(h:none=some x):P:=by cases h
theorem ob02{p1 p2:Prop}{C:Prop}(h:p1/\p2)(k:p1->p2->C):C:=k h.1 h.2
theorem ob03{p1 p2 p3:Prop}{C:Prop}(h:p1/\p2/\p3)(k:p1->p2->p3->C):C:=k h.1 h.2.1 h.2.2
theorem ob04{p1 p2 p3 p4:Prop}{C:Prop}(h:p1/\p2/\p3/\p4)(k:p1->p2->p3->p4->C):C:=k h.1 h.2.1 h.2.2.1 h.2.2.2
theorem ob05{p1 p2 p3 p4 p5:Prop}{C:Prop}(h:p1/\p2/\p3/\p4/\p5)(k:p1->p2->p3->p4->p5->C):C:=k h.1 h.2.1 h.2.2.1 h.2.2.2.1 h.2.2.2.2
theorem ob06{p1 p2 p3 p4 p5 p6:Prop}{C:Prop}(h:p1/\p2/\p3/\p4/\p5/\p6)(k:p1->p2->p3->p4->p5->p6->C):C:=k h.1 h.2.1 h.2.2.1 h.2.2.2.1 h.2.2.2.2.1 h.2.2.2.2.2
theorem ob11{α:Sort _}{p1:α->Prop}{C:Prop}(h:∃a,p1 a)(k:∀a,p1 a->C):C:=let⟨a,h⟩:=h;k a h
theorem ob12{α:Sort _}{p1 p2:α->Prop}{C:Prop}(h:∃a,p1 a/\p2 a)(k:∀a,p1 a->p2 a->C):C:=let⟨a,h⟩:=h;k a h.1 h.2
theorem ob13{α:Sort _}{p1 p2 p3:α->Prop}{C:Prop}(h:∃a,p1 a/\p2 a/\p3 a)(k:∀a,p1 a->p2 a->p3 a->C):C:=let⟨a,h⟩:=h;k a h.1 h.2.1 h.2.2
theorem ob14{α:Sort _}{p1 p2 p3 p4:α->Prop}{C:Prop}(h:∃a,p1 a/\p2 a/\p3 a/\p4 a)(k:∀a,p1 a->p2 a->p3 a->p4 a->C):C:=let⟨a,h⟩:=h;k a h.1 h.2.1 h.2.2.1 h.2.2.2
theorem ob15{α:Sort _}{p1 p2 p3 p4 p5:α->Prop}{C:Prop}(h:∃a,p1 a/\p2 a/\p3 a/\p4 a/\p5 a)(k:∀a,p1 a->p2 a->p3 a->p4 a->p5 a->C):C:=let⟨a,h⟩:=h;k a h.1 h.2.1 h.2.2.1 h.2.2.2.1 h.2.2.2.2
theorem ob21{α:Sort _}{β:Sort _}{p1:α->β->Prop}{C:Prop}(h:∃a b,p1 a b)(k:∀a b,p1 a b->C):C:=let⟨a,b,h⟩:=h;k a b h
theorem ob22{α:Sort _}{β:Sort _}{p1 p2:α->β->Prop}{C:Prop}(h:∃a b,p1 a b/\p2 a b)(k:∀a b,p1 a b->p2 a b->C):C:=let⟨a,b,h⟩:=h;k a b h.1 h.2
theorem ob23{α:Sort _}{β:Sort _}{p1 p2 p3:α->β->Prop}{C:Prop}(h:∃a b,p1 a b/\p2 a b/\p3 a b)(k:∀a b,p1 a b->p2 a b->p3 a b->C):C:=let⟨a,b,h⟩:=h;k a b h.1 h.2.1 h.2.2
theorem ob24{α:Sort _}{β:Sort _}{p1 p2 p3 p4:α->β->Prop}{C:Prop}(h:∃a b,p1 a b/\p2 a b/\p3 a b/\p4 a b)(k:∀a b,p1 a b->p2 a b->p3 a b->p4 a b->C):C:=let⟨a,b,h⟩:=h;k a b h.1 h.2.1 h.2.2.1 h.2.2.2
theorem ob25{α:Sort _}{β:Sort _}{p1 p2 p3 p4 p5:α->β->Prop}{C:Prop}(h:∃a b,p1 a b/\p2 a b/\p3 a b/\p4 a b/\p5 a b)(k:∀a b,p1 a b->p2 a b->p3 a b->p4 a b->p5 a b->C):C:=let⟨a,b,h⟩:=h;k a b h.1 h.2.1 h.2.2.1 h.2.2.2.1 h.2.2.2.2
theorem ob26{α:Sort _}{β:Sort _}{p1 p2 p3 p4 p5 p6:α->β->Prop}{C:Prop}(h:∃a b,p1 a b/\p2 a b/\p3 a b/\p4 a b/\p5 a b/\p6 a b)(k:∀a b,p1 a b->p2 a b->p3 a b->p4 a b->p5 a b->p6 a b->C):C:=let⟨a,b,h⟩:=h;k a b h.1 h.2.1 h.2.2.1 h.2.2.2.1 h.2.2.2.2.1 h.2.2.2.2.2
theorem ob31{α:Sort _}{β:Sort _}{γ:Sort _}{p1:α->β->γ->Prop}{C:Prop}(h:∃a b c,p1 a b c)(k:∀a b c,p1 a b c->C):C:=let⟨a,b,c,h⟩:=h;k a b c h
theorem ob32{α:Sort _}{β:Sort _}{γ:Sort _}{p1 p2:α->β->γ->Prop}{C:Prop}(h:∃a b c,p1 a b c/\p2 a b c)(k:∀a b c,p1 a b c->p2 a b c->C):C:=let⟨a,b,c,h⟩:=h;k a b c h.1 h.2
theorem ob33{α:Sort _}{β:Sort _}{γ:Sort _}{p1 p2 p3:α->β->γ->Prop}{C:Prop}(h:∃a b c,p1 a b c/\p2 a b c/\p3 a b c)(k:∀a b c,p1 a b c->p2 a b c->p3 a b c->C):C:=let⟨a,b,c,h⟩:=h;k a b c h.1 h.2.1 h.2.2
set_option maxHeartbeats 8000000
set_option hygiene false in
local macro_rules | `(tactic|injections $e:ident) => `(tactic|first|exact aa $e|exact aD $e|(obtain rfl:=bR $e;clear $e)|(obtain⟨rfl,rfl⟩:=Prod.mk.inj (bR $e);clear $e)|cases $e:ident)
set_option hygiene false in
local macro_rules | `(tactic|omega)=>do
 let mut t <- `(tactic|fail)
 for i in [0:241]do
  t <- `(tactic|first|(apply $(Lean.mkIdent (.str `Mine s!"o{240-i}"));solve_by_elim* -symm -exfalso (transparency := .instances) only[*,tt])| $t:tactic)
 `(tactic|first|with_reducible first|assumption|rfl|decide|((fail_if_success (with_reducible refine oz ?_));(fail_if_success (with_reducible refine oy ?_));with_reducible_and_instances $t:tactic)|lia|omega (config:={}))
section
open PySem PySem.W PySem.Calls PyProof.Rows
section
variable {p:Program} {w:World} {n₀:Nat} {ann:Option Value} {q:Pos}
theorem iB{tb:String->Option Builtin}:∀{n N:Nat} {s s':Shared} {t t':Thread} {r:Shared×Thread},topGo tb p w n₀ ann n s t=some (s',t') ->
 topGo tb p w n₀ ann N s' t'=some r->topGo tb p w n₀ ann (n+N) s t=some r
 |0,N,s,s',t,t',r,h,k=>by
  obtain⟨rfl,rfl⟩:s=s'/\t=t':=by simpa[topGo]using h
  rw[Nat.zero_add];exact k
 |n+1,N,s,s',t,t',r,h,k=>by
  rw[show n+1+N=n+N+1 by omega];unfold topGo at h |-;cases he:through t with
  |true=>rw[he]at h;injections h
  |false=>
   rw[he]at h;cases hk:stepOk n₀ ann t with
   |false=>rw[hk]at h;injections h
   |true=>
    rw[hk]at h;cases hs:step (denote tb) p w s t with
    |halt o s₂=>rw[hs]at h;injections h
    |go s₂ t₂=>rw[hs]at h;exact iB h k
noncomputable def af(p:Program)(w:World)(n₀:Nat)(ann:Option Value)(q:Pos){α:Type}(n:Nat)(m:Sem α)(s:Shared)(a:α)(s':Shared):Prop:=
 ∀(K:α->Sem Fin) (H:Value->Sem Fin) (gd:Bool->Bool) (lv:List Value->List Value) (c:Code) (ps:Pos),
  ∃ps',topGo treeTable p w n₀ ann n s ⟨m.wrap K H gd lv,c,ps,[topFrame q]⟩=some (s',⟨K a,c,ps',[topFrame q]⟩)
variable {α β:Type} {s s₁ s₂ s':Shared} {n n₁ n₂:Nat}
theorem af.pure(a:α)(s:Shared):af p w n₀ ann q 0 (pure a:Sem α) s a s:=λ_ _ _ _ _ ps=>⟨ps,rfl⟩
theorem af.bind{m:Sem α}{f:α->Sem β}{a:α}{b:β}(h:af p w n₀ ann q n₁ m s a s₁)(k:af p w n₀ ann q n₂ (f a) s₁ b s₂):af p w n₀ ann q (n₁+n₂) (m>>=f) s b s₂:=by
 intro K H gd lv c ps;obtain⟨ps₁,e₁⟩:=h (λa=>(f a).wrap K H gd lv) H gd lv c ps;obtain⟨ps₂,e₂⟩:=k K H gd lv c ps₁;refine⟨ps₂, ?_⟩;rw[show(m>>=f)=m.bind f from rfl,Sem.bind_eq_wrap,Sem.wrap_wrap];exact iB e₁ e₂
theorem af.keep{m:Sem α}{a:α}(vs:List Value)(h:af p w n₀ ann q n m s a s'):af p w n₀ ann q n (m.keep vs) s a s':=by
 intro K H gd lv c ps;rw[Sem.keep_eq_wrap,Sem.wrap_wrap];exact h K H (λg=>gd (id g)) (λl=>lv (vs++l)) c ps
theorem af.holding{m:Sem α}{a:α}(vs:List Value)(h:af p w n₀ ann q n m s a s'):af p w n₀ ann q n (PySem.holding vs m) s a s':=by
 unfold PySem.holding
 split
 ·exact h
 ·exact h.keep _
theorem af.tryCatch{m:Sem α}{a:α}(f:Value->Sem α)(h:af p w n₀ ann q n m s a s'):af p w n₀ ann q n (MonadExcept.tryCatch m f) s a s':=by
 intro K H gd lv c ps;rw[show(MonadExcept.tryCatch m f:Sem α)=Sem.tryCatch m f from rfl,Sem.tryCatch_eq_wrap,Sem.wrap_wrap];exact h K (λe=>(f e).wrap K H gd lv) (λ_=>gd true) (λl=>lv (id l)) c ps
theorem af.onRaise{m:Sem α}{a:α}(f:Value->Sem Unit)(h:af p w n₀ ann q n m s a s'):af p w n₀ ann q n (m.onRaise f) s a s':=by
 intro K H gd lv c ps;rw[Sem.onRaise_eq_wrap,Sem.wrap_wrap];exact h K (λe=>((f e).bind λ_=>(.raise e:Sem α)).wrap K H gd lv) (λg=>gd (id g)) (λl=>lv (id l)) c ps
theorem dA{t t':Thread}(h1:through t=false)(h2:stepOk n₀ ann t=true)(h3:step (denote treeTable) p w s t = .go s' t'):topGo treeTable p w n₀ ann 1 s t=some (s',t'):=by
 unfold topGo;rw[h1];dsimp only;rw[h2];dsimp only;rw[h3]
 rfl
theorem af.rule(tag:String)(s:Shared):af p w n₀ ann q 1 (PySem.rule tag) s () s:=λK H gd lv c ps=>⟨ps,dA rfl rfl rfl⟩
theorem af.standAt(ps:Pos)(s:Shared):af p w n₀ ann q 1 (PySem.standAt ps) s () s:=λK H gd lv c _=>⟨ps,dA rfl rfl rfl⟩
theorem af.fresh(s:Shared):af p w n₀ ann q 1 PySem.fresh s s.toks { s with toks:=s.toks+1 }:=λK H gd lv c ps=>⟨ps,dA rfl rfl rfl⟩
theorem af.ask(s:Shared):af p w n₀ ann q 1 PySem.ask s ⟨p,w.params⟩ s:=λK H gd lv c ps=>⟨ps,dA rfl rfl rfl⟩
theorem af.alloc(o:Obj)(s:Shared):af p w n₀ ann q 1 (PySem.alloc o) s s.heap.objs.size { s with heap:=s.heap.push o }:=λK H gd lv c ps=>⟨ps,dA rfl rfl rfl⟩
theorem af.loadPart{a:Addr}{part:Option Value}{o:Obj}(h:s.heap.get? a=some o):af p w n₀ ann q 1 (PySem.loadPart a part) s o s:=λK H gd lv c ps=>⟨ps,dA rfl rfl (by
 show(match s.heap.get? a with|some o=>Step.go _ _|none=>_)=_;rw[h];rfl)⟩
theorem af.updatePart{a:Addr}{part:Option Value}{o:Obj}(f:Obj->Obj)(h:s.heap.get? a=some o)(hn:n₀<=a):af p w n₀ ann q 1 (PySem.updatePart a part f) s () { s with heap:=s.heap.update a f }:=λK H gd lv c ps=>⟨ps,dA rfl (by
 show(true&&(Nat.ble n₀ a||a==mainNs||a==cStatics||ann==some (.ref a)))=true;rw[Nat.ble_eq_true_of_le hn];rfl) (by
 show(if(s.heap.get? a).isSome then Step.go _ _ else _)=_;rw[h];rfl)⟩
theorem af.mkInt(i:Int)(s:Shared):af p w n₀ ann q 1 (PySem.mkInt i) s (.int i s.toks) { s with toks:=s.toks+1 }:=
 af.bind (f:=λt=>(Pure.pure (Value.int i t):Sem Value)) (af.fresh s) (af.pure _ _)
theorem af.mkText(x:Str)(s:Shared):af p w n₀ ann q 1 (PySem.mkText x) s (.str x s.toks) { s with toks:=s.toks+1 }:=
 af.bind (f:=λt=>(Pure.pure (Value.str x t):Sem Value)) (af.fresh s) (af.pure _ _)
theorem af.callInt {id:String} {args:List Value} {b:Builtin} {i:Int} (hl:id.startsWith "lifetime."=false) (hchk:checkBuiltinCall id ⟨args,[]⟩=(Pure.pure ():Sem Unit)) (hb:entryFor treeTable id=some b)
 (hrun:b ⟨args,[]⟩ = .fresh λt => .pure (.done (.ret (.int i t)))) (s:Shared):af p w n₀ ann q 4 (call (.builtin id) args) s (.int i s.toks) { s with toks:=s.toks+1 }:=by
 intro K H gd lv c ps;refine⟨ps, ?_⟩;have d1:denote treeTable (.call (.builtin id) ⟨args,[]⟩) = .pure (.again (.builtin id ⟨args,[]⟩)):=by
  show(checkBuiltinCall id ⟨args,[]⟩>>=λ_=>again (.builtin id ⟨args,[]⟩):Sem PySem.Fin)=_;rw[hchk];rfl
 have d2:denote treeTable (.builtin id ⟨args,[]⟩) = .fresh λt => .pure (.done (.ret (.int i t))):=by
  show(match entryFor treeTable id with|some b=>b ⟨args,[]⟩|none=>_)=_;rw[hb];exact hrun
 refine iB (n:=1) (N:=3) (dA (t':=⟨denote treeTable (.call (.builtin id) ⟨args,[]⟩), .call (.builtin id) ⟨args,[]⟩,ps,_::[topFrame q]⟩) rfl rfl rfl) ?_;rw[d1];refine iB (n:=1) (N:=2) (dA (t':=⟨denote treeTable (.builtin id ⟨args,[]⟩), .builtin id ⟨args,[]⟩,ps,_::[topFrame q]⟩) rfl ?_ rfl) ?_
 ·show((!(id.startsWith "lifetime.")||_)&&true&&true&&true)=true
  rw[hl];rfl
 rw[d2];refine iB (n:=1) (N:=1) (dA rfl rfl rfl) ?_;exact dA rfl rfl rfl
end
end
section
open PySem PySem.W PySem.Calls PyProof.Rows
section
variable {p:Program} {w:World} {n₀:Nat} {ann:Option Value} {q:Pos} {s s':Shared}
theorem jJ(k:Int)(t:Tok):specialOf (.int k t) "__hash__"=(Pure.pure (some (.builtin "int.__hash__")):Sem (Option Value)):=by
 show typeLookup (.type "int") "__hash__"=_;exact slot_int_hash.lookup
theorem kJ(k:Int)(t:Tok):checkBuiltinCall "int.__hash__" ⟨[.int k t],[]⟩=(Pure.pure ():Sem Unit):=by
 kernel_rfl
theorem sJ:entryFor treeTable "int.__hash__"=some Builtin.«int.__hash__»:=by rw[<-table_eq_tree];exact entry_int_hash
#print axioms kJ
theorem af.hashInt(k:Int)(t:Tok)(s:Shared):af p w n₀ ann q 5 (pyHash (.int k t)) s (PySem.hashInt k) { s with toks:=s.toks+1 }:=by
 have hr:=rawHash_range k;have hcall:af p w n₀ ann q 5 (callSpecialIfBoundUnlessNone? (.int k t) "__hash__" (do PySem.rule "hash.unhashable";raiseError "TypeError" s!"unhashable type: '{← typeNameOf (.int k t)}'")) s (some (.int (rawHash k) s.toks)) { s with toks:=s.toks+1 }:=by
  refine af.holding _ (af.bind (n₁:=1) (n₂:=4) (a:=some (.builtin "int.__hash__",[.int k t])) (s₁:=s) ?_ ?_)
  ·unfold bindSpecialIfBound?
   rw[jJ];have hb:af p w n₀ ann q 0 (do return some (<-bindSpecial (.builtin "int.__hash__") (.int k t)):Sem (Option (Value×List Value))) s (some (.builtin "int.__hash__",[.int k t])) s:=by
    rw[slot_int_hash.bind];exact af.pure _ _
   refine af.bind (n₁:=0) (n₂:=1) (af.pure _ _) ?_;refine af.bind (n₁:=1) (n₂:=0) (af.ask s) ?_;dsimp only
   split
   ·exact hb
   ·exact af.tryCatch _ hb
  ·refine af.bind (n₁:=4) (n₂:=0) (af.callInt (i:=rawHash k) (by decide +kernel) (kJ k t) sJ ?_ s) (af.pure _ _)
   rfl
 show af p w n₀ ann q 5 (pyHashByItsType (.int k t)) s (PySem.hashInt k) { s with toks:=s.toks+1 };unfold pyHashByItsType;refine af.bind (n₁:=0) (n₂:=5) (af.pure _ _:af p w n₀ ann q 0 (cRoomFor "hash" [.int k t]) s () s) ?_;rw[jJ];refine af.bind (n₁:=0) (n₂:=5) (af.pure _ _) ?_;rw[beq_builtin_none];refine af.bind (n₁:=0) (n₂:=5) (af.pure _ _) ?_;refine af.bind (n₁:=5) (n₂:=0) hcall ?_;show af p w n₀ ann q 0 (if(decide (-(2:Int)^63<=rawHash k)&&decide (rawHash k<2^63))=true then _ else _) _ _ _;rw[if_pos (by rw[ai hr.1,ai hr.2];rfl)];exact af.pure _ _
noncomputable def dO(es:Array DictEntry)(ep:Nat):Obj:={ cls := .type "dict",data := .dict es ep }
theorem uh{es:Array DictEntry}{h:Int}(hf:∀e∈es,e.hash≠h):placesWithHash es.size (λi=>es[i]?.map (·.hash)) h=[]:=by
 unfold placesWithHash;rw[List.filter_eq_nil_iff];intro i hi;have hi':i<es.size:=List.mem_range.mp hi;dsimp only;rw[Array.getElem?_eq_getElem hi']
 simpa using hf _ (Array.getElem_mem hi')
theorem af.dictEntries{a:Addr}{part:Option Value}{es:Array DictEntry}{ep:Nat}(h:s.heap.get? a=some (dO es ep)):af p w n₀ ann q 1 (PySem.dictEntries a part) s es s:=by
 unfold PySem.dictEntries;exact af.bind (n₁:=1) (n₂:=0) (af.loadPart h) (af.pure _ _)
theorem af.dictEpoch{a:Addr}{part:Option Value}{es:Array DictEntry}{ep:Nat}(h:s.heap.get? a=some (dO es ep)):af p w n₀ ann q 1 (PySem.dictEpoch a part) s ep s:=by
 unfold PySem.dictEpoch;exact af.bind (n₁:=1) (n₂:=0) (af.loadPart h) (af.pure _ _)
theorem af.dictFindNone{a:Addr}{es:Array DictEntry}{ep:Nat}{k:Int}{t:Tok}{hh:Int}(h:s.heap.get? a=some (dO es ep))(hf:∀e∈es,e.hash≠hh):
 af p w n₀ ann q 1 (PySem.dictFind a (.int k t) hh) s none s:=by
 unfold PySem.dictFind;refine af.holding _ (af.bind (n₁:=1) (n₂:=0) (af.dictEntries h) ?_);dsimp only;rw[uh hf];exact af.pure _ _
theorem Cr{h:Heap}{a:Addr}{o:Obj}(f:Obj->Obj)(e:h.get? a=some o)(hn:(f o).isFreed=false):(h.update a f).get? a=some (f o):=Heap.get?_update_self _ e hn
theorem af.updKeys{a:Addr}{part:Option Value}{es:Array DictEntry}{ep:Nat}(f:Array DictEntry->Array DictEntry)(h:s.heap.get? a=some (dO es ep))(hn:n₀<=a)(hz:(f es).size<=sizeLine):
 af p w n₀ ann q 3 (PySem.updateDictKeys a f part) s () { s with heap:=s.heap.update a (Obj.mapDictKeys f) }:=by
 unfold PySem.updateDictKeys;refine af.bind (n₁:=1) (n₂:=2) (af.loadPart h) ?_;show af p w n₀ ann q 2 (PySem.updatePart a part (Obj.mapDictKeys f)>>=λ_=>lookBehind a part) s () _;refine af.bind (n₁:=1) (n₂:=1) (af.updatePart _ h hn) ?_;unfold lookBehind;refine af.bind (n₁:=1) (n₂:=0) (af.loadPart (o:=dO (f es) (ep+1)) (Cr _ h rfl)) ?_;have:(dO (f es) (ep+1)).data.pastItsLine=none:=by
  show(if(f es).size>sizeLine+1 then some "dict:memory" else none)=none;rw[if_neg ⋯]
 rw[this];exact af.pure _ _
theorem af.setHashed{a:Addr}{es:Array DictEntry}{ep:Nat}{k:Int}{t:Tok}{hh:Int}(v:Value)(h:s.heap.get? a=some (dO es ep))(hf:∀e∈es,e.hash≠hh)(hn:n₀<=a)(hz:es.size<sizeLine):
 af p w n₀ ann q 5 (PySem.dictSetHashed a (.int k t) hh v) s () { s with heap:=s.heap.update a (Obj.mapDictKeys (·.push ⟨hh, .int k t,v⟩)) }:=by
 unfold PySem.dictSetHashed;refine af.holding _ (af.bind (n₁:=1) (n₂:=4) (af.dictFindNone h hf) ?_);show af p w n₀ ann q 4 (PySem.rule _>>=λ_=>updateDictKeys a _ _) s () _;exact af.bind (n₁:=1) (n₂:=3) (af.rule _ _) (af.updKeys _ h hn (by rw[Array.size_push];exact hz))
theorem af.dictSet{a:Addr}{es:Array DictEntry}{ep:Nat}{k:Int}{t:Tok}(v:Value)(h:s.heap.get? a=some (dO es ep))(hf:∀e∈es,e.hash≠PySem.hashInt k)(hn:n₀<=a)(hz:es.size<sizeLine):
 af p w n₀ ann q 10 (PySem.dictSet a (.int k t) v) s () { s with heap:=s.heap.update a (Obj.mapDictKeys (·.push ⟨PySem.hashInt k, .int k t,v⟩)),toks:=s.toks+1 }:=by
 unfold PySem.dictSet;refine af.holding _ (af.bind (n₁:=5) (n₂:=5) (af.hashInt k t s) ?_);exact af.setHashed (s:={ s with toks:=s.toks+1 }) v h hf hn hz
theorem af.dictPut{a:Addr}{es:Array DictEntry}{ep:Nat}{k:Int}{t:Tok}{hh:Int}(v:Value)(h:s.heap.get? a=some (dO es ep))(hf:∀e∈es,e.hash≠hh)(hn:n₀<=a)(hz:es.size<sizeLine):
 af p w n₀ ann q 4 (PySem.dictPut a hh (.int k t) v) s () { s with heap:=s.heap.update a (Obj.mapDictKeys (·.push ⟨hh, .int k t,v⟩)) }:=by
 unfold PySem.dictPut;exact af.bind (n₁:=1) (n₂:=3) (af.dictFindNone h hf) (af.updKeys _ h hn (by rw[Array.size_push];exact hz))
end
end
section
open PySem PySem.W PySem.Calls PyProof.Rows
section
noncomputable def hp(H:Heap)(m:Obj)(subs:List Obj):Heap:=⟨H.objs++(m::subs).toArray,H.life⟩
theorem nK(H:Heap)(m:Obj):H.push m=hp H m []:=by
 unfold hp Heap.push
 congr 1
theorem sK(H:Heap)(m o:Obj)(subs:List Obj):(hp H m subs).push o=hp H m (subs++[o]):=by
 unfold hp Heap.push
 congr 1
 simp
theorem xD(H:Heap)(m:Obj)(subs:List Obj):(hp H m subs).objs.size=H.objs.size+1+subs.length:=by
 simp[hp];omega
theorem lY{h:Heap}{a:Addr}{o:Obj}(e:h.objs[a]? = some o)(hf:o.isFreed=false):h.get? a=some o:=by
 unfold Heap.get?;rw[e];obtain⟨c,d,dt,sl⟩:=o;cases dt<;>first|rfl|(injections hf)
theorem iC(H:Heap)(m:Obj)(subs:List Obj)(hf:m.isFreed=false):(hp H m subs).get? H.objs.size=some m:=by
 refine lY ?_ hf;simp[hp]
theorem iD(H:Heap)(m o:Obj)(subs:List Obj)(hf:o.isFreed=false):(hp H m (subs++[o])).get? (H.objs.size+1+subs.length)=some o:=by
 refine lY ?_ hf;simp only[hp];rw[Array.getElem?_append_right ⋯];have:H.objs.size+1+subs.length-H.objs.size=subs.length+1:=⋯;rw[this];simp
theorem mG(H:Heap)(m:Obj)(subs:List Obj)(f:Obj->Obj):(hp H m subs).update H.objs.size f=hp H (f m) subs:=by
 refine(congrArg (Heap.mk · H.life) ?_ : Heap.mk _ _=Heap.mk _ _);apply Array.ext_getElem?;intro i;rw[Array.getElem?_modify]
 by_cases h:i<H.objs.size
 ·rw[Array.getElem?_append_left h,Array.getElem?_append_left h,if_neg ⋯]
 ·rw[Array.getElem?_append_right ⋯,Array.getElem?_append_right ⋯]
  by_cases e:H.objs.size=i
  ·subst e;simp
  ·rw[if_neg e]
   obtain⟨j,hj⟩:∃j,i-H.objs.size=j+1:=⟨i-H.objs.size-1,⋯⟩;rw[hj];simp
theorem jK(H:Heap)(o:Obj)(f:Obj->Obj):(H.push o).update H.objs.size f=H.push (f o):=by
 rw[nK,nK,mG]
theorem jL(H:Heap)(o:Obj)(hf:o.isFreed=false):(H.push o).get? H.objs.size=some o:=by
 rw[nK,iC _ _ _ hf]
noncomputable def zI(e:DictEntry)(kv:Int×Str):Prop:=e.hash=PySem.hashInt kv.1/\(∃t,e.key = .int kv.1 t)/\∃t,e.val = .str kv.2 t
noncomputable def bO:List DictEntry->List (Int×Str)->Prop
 |[],[]=>True
 |e::es,x::xs=>zI e x/\bO es xs
 |_,_=>False
theorem bO.append:∀{es:List DictEntry} {L:List (Int×Str)} {fs:List DictEntry} {M:List (Int×Str)},bO es L->bO fs M->bO (es++fs) (L++M)
 |[],[],_,_,_,h=>h
 |_::_,_::_,_,_,h,k=>⟨h.1,bO.append h.2 k⟩
 |[],_::_,_,_,h,_=>h.elim
 |_::_,[],_,_,h,_=>h.elim
theorem bO.length:∀{es:List DictEntry} {L:List (Int×Str)},bO es L->es.length=L.length
 |[],[],_=>rfl
 |_::_,_::_,h=>by rw[aP,aP,bO.length h.2]
 |[],_::_,h=>h.elim
 |_::_,[],h=>h.elim
theorem bO.fresh{k:Int}:∀{es:List DictEntry} {L:List (Int×Str)},bO es L->(∀kv∈L,PySem.hashInt kv.1≠PySem.hashInt k)->∀e∈es,e.hash≠PySem.hashInt k
 |[],_,_,_,e,he=>nomatch he
 |f::es,x::L,h,hk,e,he=>by
  rcases bu he with rfl|he
  ·rw[h.1.1];exact hk _ (.head _)
  ·exact bO.fresh h.2 (λkv q=>hk kv (.tail _ q)) e he
 |_::_,[],h,_,_,_=>h.elim
theorem bO.get:∀{es:List DictEntry} {L:List (Int×Str)} {i:Nat} {x:Int×Str},bO es L->L[i]? = some x->∃e,es[i]? = some e/\zI e x
 |e::_,y::_,0,x,h,g=>⟨e,rfl,by simp at g;exact g▸h.1⟩
 |_::_,_::_,i+1,x,h,g=>by
  simp only[List.getElem?_cons_succ]at g |-;exact bO.get h.2 g
 |[],_::_,_,_,h,_=>h.elim
 |_::_,[],_,_,h,_=>h.elim
 |[],[],_,_,_,g=>by simp at g
noncomputable def cE(es:Array DictEntry)(L:List (Int×Str)):Prop:=bO es.toList L
theorem cE.nil:cE #[] []:=trivial
theorem cE.push{es:Array DictEntry}{L:List (Int×Str)}(h:cE es L)(k:Int)(v:Str)(t u:Tok):cE (es.push ⟨PySem.hashInt k, .int k t, .str v u⟩) (L++[(k,v)]):=by
 unfold cE at h |-;rw[Array.toList_push];exact h.append ⟨⟨rfl,⟨_,rfl⟩,⟨_,rfl⟩⟩,trivial⟩
theorem cE.pushE{es:Array DictEntry}{L:List (Int×Str)}(h:cE es L){e:DictEntry}{x:Int×Str}(r:zI e x):cE (es.push e) (L++[x]):=by
 unfold cE at h |-;rw[Array.toList_push];exact h.append ⟨r,trivial⟩
theorem cE.size{es:Array DictEntry}{L:List (Int×Str)}(h:cE es L):es.size=L.length:=by
 have:=bO.length h
 simpa using this
theorem cE.fresh{es:Array DictEntry}{L:List (Int×Str)}(h:cE es L){k:Int}(hk:∀kv∈L,PySem.hashInt kv.1≠PySem.hashInt k):∀e∈es,e.hash≠PySem.hashInt k:=
 λe he=>bO.fresh h hk e (Array.mem_toList_iff.mpr he)
noncomputable def fM(L:List (Int×Str)):Prop:=L.Pairwise λa b=>PySem.hashInt a.1≠PySem.hashInt b.1
theorem fM.mid{L M:List (Int×Str)}{x:Int×Str}(h:fM (L++x::M)):∀kv∈L,PySem.hashInt kv.1≠PySem.hashInt x.1:=λkv hk=>
 (List.pairwise_append.mp h).2.2 kv hk x (.head _)
end
section
variable {p:Program} {w:World} {n₀:Nat} {ann:Option Value} {q:Pos} {s s':Shared}
theorem af.forIn_nil{α β:Type}(f:α->β->Sem (ForInStep β))(b:β):af p w n₀ ann q 0 (forIn ([]:List α) b f) s b s:=by
 rw[List.forIn_nil];exact af.pure _ _
theorem af.forIn_cons{α β:Type}{f:α->β->Sem (ForInStep β)}{x:α}{l:List α}{b b₁ b₂:β}{n m:Nat}{s₁ s₂:Shared}(h:af p w n₀ ann q n (f x b) s (.yield b₁) s₁)(k:af p w n₀ ann q m (forIn l b₁ f) s₁ b₂ s₂):
 af p w n₀ ann q (n+m) (forIn (x::l) b f) s b₂ s₂:=by
 rw[List.forIn_cons];exact af.bind h k
noncomputable def pr(ps:Pos)(kv:Int×Str):Sem Value×Sem Value:=(PySem.mkInt kv.1,do let x <-PySem.mkText kv.2;PySem.standAt ps;Pure.pure x)
theorem af.val(ps:Pos)(x:Str)(s:Shared):af p w n₀ ann q 2 (do let x <-PySem.mkText x;PySem.standAt ps;Pure.pure x:Sem Value) s (.str x s.toks) { s with toks:=s.toks+1 }:=
 af.bind (n₁:=1) (n₂:=1) (af.mkText x s) (af.bind (n₁:=1) (n₂:=0) (af.standAt ps _) (af.pure _ _))
theorem ui{ps:Pos}{H:Heap}(hn:n₀<=H.objs.size):∀(M:List (Int×Str)) {L:List (Int×Str)} {es:Array DictEntry} {ep T:Nat},cE es L->fM (L++M)->(L++M).length<=1000 ->
 ∃es' ep' T',cE es' (L++M)/\af p w n₀ ann q (13*M.length) (forIn (M.map (pr ps)) PUnit.unit λx (_:PUnit)=>(do
   let kv <-x.1;let vv <-PySem.holding [kv] x.2
   PySem.holding [kv,vv] (PySem.dictSet H.objs.size kv vv)
   Pure.pure (ForInStep.yield PUnit.unit):Sem (ForInStep PUnit))) { s with heap:=H.push (dO es ep),toks:=T } PUnit.unit { s with heap:=H.push (dO es' ep'),toks:=T' }
 |[],L,es,ep,T,h,_,_=>⟨es,ep,T,by simpa using h,af.forIn_nil _ _⟩
 |x::M,L,es,ep,T,h,ha,hl=>by
  obtain⟨es',ep',T',h',g'⟩:=ui hn M (L:=L++[x]) (es:=es.push ⟨PySem.hashInt x.1, .int x.1 T, .str x.2 (T+1)⟩) (ep:=ep+1) (T:=T+3) (h.push x.1 x.2 T (T+1)) (by simpa using ha) (by simpa using hl);refine⟨es',ep',T',by simpa using h', ?_⟩;rw[show 13*(x::M).length=13+13*M.length by rw[aP];omega,aC];refine af.forIn_cons (n:=13) ?_ g';refine af.bind (n₁:=1) (n₂:=12) (af.mkInt x.1 _) ?_;refine af.bind (n₁:=2) (n₂:=10) (af.holding _ (af.val ps x.2 _)) ?_;refine af.bind (n₁:=10) (n₂:=0) (a:=()) (s₁:={ s with heap:=H.push (dO (es.push ⟨PySem.hashInt x.1, .int x.1 T, .str x.2 (T+1)⟩) (ep+1)),toks:=T+3 }) (af.holding _ ?_) (af.pure _ _)
  have g:=af.dictSet (p:=p) (w:=w) (n₀:=n₀) (ann:=ann) (q:=q) (s:={ s with heap:=H.push (dO es ep),toks:=T+1+1 }) (a:=H.objs.size) (es:=es) (ep:=ep) (k:=x.1) (t:=T) (.str x.2 (T+1)) (jL _ _ rfl) (h.fresh ha.mid) hn (by rw[h.size,sizeLine_eq];simp at hl;omega);rw[jK]at g;exact g
theorem Cs{ps:Pos}{M:List (Int×Str)}(hn:n₀<=s.heap.objs.size)(hl:15<M.length)(hm:M.length<=1000)(ha:fM M):
 ∃es ep T,cE es M/\af p w n₀ ann q (13*M.length+2) (subDict (M.map (pr ps))) s s.heap.objs.size { s with heap:=s.heap.push (dO es ep),toks:=T }:=by
 obtain⟨es,ep,T,h,g⟩:=ui (s:=s) (p:=p) (w:=w) (ann:=ann) (q:=q) (ps:=ps) hn M (L:=[]) (ep:=0) (T:=s.toks) cE.nil (by simpa using ha) (by simpa using hm);refine⟨es,ep,T,by simpa using h, ?_⟩;unfold subDict;rw[show 13*M.length+2=1+(1+13*M.length)by omega];refine af.bind (n₁:=1) (af.alloc _ _) ?_;refine af.bind (n₁:=1+13*M.length) (n₂:=0) (a:=()) (s₁:={ s with heap:=s.heap.push (dO es ep),toks:=T }) (af.holding _ ?_) (af.pure _ _);rw[if_neg (by rw[aW];omega)];exact af.bind (n₁:=1) (n₂:=13*M.length) (af.rule _ _) (af.bind (n₁:=13*M.length) (n₂:=0) g (af.pure _ _))
noncomputable def Im(kv:Int×Str)(t u:Tok):Value×Value:=(.int kv.1 t, .str kv.2 u)
noncomputable def zJ:List (Value×Value)->List (Int×Str)->Prop
 |[],[]=>True
 |v::vs,x::xs=>(∃t u,v=Im x t u)/\zJ vs xs
 |_,_=>False
theorem uj{ps:Pos}:∀(M:List (Int×Str)) (s:Shared),∃vs T,zJ vs M/\af p w n₀ ann q (3*M.length) (evalPairs (M.map (pr ps))) s vs { s with toks:=T }
 |[],s=>⟨[],s.toks,trivial,af.pure _ _⟩
 |x::M,s=>by
  obtain⟨vs,T,h,g⟩:=uj M { s with toks:=s.toks+2 };refine⟨Im x s.toks (s.toks+1)::vs,T,⟨⟨_,_,rfl⟩,h⟩, ?_⟩;rw[show 3*(x::M).length=1+(2+(3*M.length+0))by rw[aP];omega,aC];unfold evalPairs;refine af.bind (n₁:=1) (af.mkInt x.1 _) ?_;refine af.bind (n₁:=2) (af.holding _ (af.val ps x.2 _)) ?_;exact af.bind (n₁:=3*M.length) (n₂:=0) (a:=vs) (af.holding _ g) (af.pure _ _)
theorem qK{H:Heap}(hn:n₀<=H.objs.size):∀(vs:List (Value×Value)) (M:List (Int×Str)) {L:List (Int×Str)} {es:Array DictEntry} {ep T:Nat},zJ vs M->cE es L->fM (L++M)->(L++M).length<=1000 ->
 ∃es' ep' T',cE es' (L++M)/\af p w n₀ ann q (10*M.length) (forIn vs PUnit.unit λx (_:PUnit)=>(do
   PySem.dictSet H.objs.size x.1 x.2
   Pure.pure (ForInStep.yield PUnit.unit):Sem (ForInStep PUnit))) { s with heap:=H.push (dO es ep),toks:=T } PUnit.unit { s with heap:=H.push (dO es' ep'),toks:=T' }
 |[],[],L,es,ep,T,_,h,_,_=>⟨es,ep,T,by simpa using h,af.forIn_nil _ _⟩
 |[],_::_,_,_,_,_,hv,_,_,_=>hv.elim
 |_::_,[],_,_,_,_,hv,_,_,_=>hv.elim
 |v::vs,x::M,L,es,ep,T,hv,h,ha,hl=>by
  obtain⟨⟨t,u,rfl⟩,hv⟩:=hv;obtain⟨es',ep',T',h',g'⟩:=qK hn vs M (L:=L++[x]) (es:=es.push ⟨PySem.hashInt x.1, .int x.1 t, .str x.2 u⟩) (ep:=ep+1) (T:=T+1) hv (h.push x.1 x.2 t u) (by simpa using ha) (by simpa using hl);refine⟨es',ep',T',by simpa using h', ?_⟩;rw[show 10*(x::M).length=10+10*M.length by rw[aP];omega];refine af.forIn_cons (n:=10) ?_ g';refine af.bind (n₁:=10) (n₂:=0) (a:=()) (s₁:={ s with heap:=H.push (dO (es.push ⟨PySem.hashInt x.1, .int x.1 t, .str x.2 u⟩) (ep+1)),toks:=T+1 }) ?_ (af.pure _ _);have g:=af.dictSet (p:=p) (w:=w) (n₀:=n₀) (ann:=ann) (q:=q) (s:={ s with heap:=H.push (dO es ep),toks:=T }) (a:=H.objs.size) (es:=es) (ep:=ep) (k:=x.1) (t:=t) (.str x.2 u) (jL _ _ rfl) (h.fresh ha.mid) hn (by rw[h.size,sizeLine_eq];simp at hl;omega)
  rw[jK]at g;exact g
theorem zK{ps:Pos}{M:List (Int×Str)}(hn:n₀<=s.heap.objs.size)(hl:M.length<=15)(ha:fM M):
 ∃es ep T,cE es M/\af p w n₀ ann q (13*M.length+1) (subDict (M.map (pr ps))) s s.heap.objs.size { s with heap:=s.heap.push (dO es ep),toks:=T }:=by
 obtain⟨vs,T₁,hv,g₁⟩:=uj (p:=p) (w:=w) (n₀:=n₀) (ann:=ann) (q:=q) (ps:=ps) M { s with heap:=s.heap.push (dO #[] 0) };obtain⟨es,ep,T,h,g⟩:=qK (s:=s) (p:=p) (w:=w) (ann:=ann) (q:=q) hn vs M (L:=[]) (ep:=0) (T:=T₁) hv cE.nil (by simpa using ha) (by simp;omega);refine⟨es,ep,T,by simpa using h, ?_⟩;unfold subDict;rw[show 13*M.length+1=1+(3*M.length+10*M.length)by omega];refine af.bind (n₁:=1) (af.alloc _ _) ?_;refine af.bind (n₁:=3*M.length+10*M.length) (n₂:=0) (a:=()) (s₁:={ s with heap:=s.heap.push (dO es ep),toks:=T }) (af.holding _ ?_) (af.pure _ _);rw[if_pos (by rw[aW];omega)];refine af.bind (n₁:=3*M.length) (n₂:=10*M.length) g₁ (af.holding _ ?_)
 exact af.bind (n₁:=10*M.length) (n₂:=0) g (af.pure _ _)
theorem sL:typeLookup (.type "dict") "__iter__"=(Pure.pure (some (.builtin "dict.__iter__")):Sem (Option Value)):=∅
theorem qy:isSubtype (.type "dict") (.type "dict")=(Pure.pure true:Sem Bool):=∅
theorem af.isDict{a:Addr}{es:Array DictEntry}{ep:Nat}(h:s.heap.get? a=some (dO es ep)):af p w n₀ ann q 1 (isInstance (.ref a) (.type "dict")) s true s:=by
 unfold isInstance;refine af.bind (n₁:=1) (n₂:=0) (a := .type "dict") (s₁:=s) (af.bind (n₁:=1) (n₂:=0) (af.loadPart h) (af.pure _ _)) ?_;rw[qy];exact af.pure _ _
theorem af.dictIter{a:Addr}{es:Array DictEntry}{ep:Nat}(h:s.heap.get? a=some (dO es ep)):af p w n₀ ann q 1 (specialOf (.ref a) "__iter__") s (some (.builtin "dict.__iter__")) s:=by
 unfold specialOf;refine af.bind (n₁:=1) (n₂:=0) (a := .type "dict") (s₁:=s) (af.bind (n₁:=1) (n₂:=0) (af.loadPart h) (af.pure _ _)) ?_;rw[sL];exact af.pure _ _
end
end
section
open PySem PySem.W PySem.Calls PyProof.Rows
section
variable {p:Program} {w:World} {n₀:Nat} {ann:Option Value} {q:Pos} {s s':Shared}
theorem qM {H:Heap} (hn:n₀<=H.objs.size) {fs:Array DictEntry} {fp:Nat} {subs:List Obj} {M:List (Int×Str)} (hM:cE fs M) {f:Nat->PUnit->Sem (ForInStep PUnit)}
 (hf:∀(i:Nat) (e:DictEntry) (u:PUnit),fs[i]? = some e->f i u=(do
   let es <-dictEntries (H.objs.size+1+subs.length)
   match es[i]? with
   |some e=>do
    holding [e.key,e.val] (dictPut H.objs.size e.hash e.key e.val)
    let ep <-dictEpoch (H.objs.size+1+subs.length)
    if(ep !=fp)=true then do
     unsupported "dict.changed-during-merge"
     Pure.pure (ForInStep.yield PUnit.unit)
    else Pure.pure (ForInStep.yield PUnit.unit)
   |_=>do
    unsupported "dict.changed-during-merge"
    Pure.pure (ForInStep.yield PUnit.unit))):
 ∀(m i:Nat) {L:List (Int×Str)} {es:Array DictEntry} {ep:Nat},i+m=M.length->cE es (L++M.take i)->fM (L++M)->(L++M).length<=1000 ->
 ∃es' ep',cE es' (L++M)/\af p w n₀ ann q (6*m) (forIn (List.range' i m) PUnit.unit f) { s with heap:=hp H (dO es ep) (subs++[dO fs fp]) } PUnit.unit { s with heap:=hp H (dO es' ep') (subs++[dO fs fp]) }
 |0,i,L,es,ep,hi,h,_,_=>⟨es,ep,by rw[gE ⋯]at h;exact h,af.forIn_nil _ _⟩
 |m+1,i,L,es,ep,hi,h,ha,hl=>by
  have hlt:i<M.length:=⋯;have hx:M[i]? = some M[i]:=gF hlt;obtain⟨e,he,hr⟩:=bO.get hM hx;have he':fs[i]? = some e:=by rw[<-Array.getElem?_toList];exact he
  have hr':=hr;obtain⟨h1,⟨t,h2⟩,⟨u,h3⟩⟩:=hr';have hs:M=M.take i++M[i]::M.drop (i+1):=by
   rw[List.getElem_cons_drop,List.take_append_drop]
  have ht:M.take (i+1)=M.take i++[M[i]]:=by rw[List.take_add_one,hx];rfl
  obtain⟨es',ep',h',g'⟩:=qM hn hM hf m (i+1) (L:=L) (es:=es.push e) (ep:=ep+1) ⋯ (by rw[ht,<-co];exact h.pushE hr) ha hl;refine⟨es',ep',h', ?_⟩;rw[show 6*(m+1)=6+6*m by omega,List.range'_succ];refine af.forIn_cons (n:=6) ?_ g';rw[hf i e _ he'];refine af.bind (n₁:=1) (n₂:=5) (af.dictEntries (iD H _ _ subs rfl)) ?_;rw[he'];have hfr:∀d∈es,d.hash≠e.hash:=by
   rw[h1];refine h.fresh ?_;have:L++M=(L++M.take i)++M[i]::M.drop (i+1):=by rw[co,<-hs]
   rw[this]at ha;exact ha.mid
  have hsz:es.size<sizeLine:=by
   rw[h.size,sizeLine_eq];rw[bk,cR]at *
   omega
  have g:=af.dictPut (p:=p) (w:=w) (n₀:=n₀) (ann:=ann) (q:=q) (s:={ s with heap:=hp H (dO es ep) (subs++[dO fs fp]) }) (a:=H.objs.size) (es:=es) (ep:=ep) (k:=M[i].1) (t:=t) (hh:=e.hash) e.val (iC _ _ _ rfl) hfr hn hsz;rw[mG]at g;rw[<-h2]at g;refine af.bind (n₁:=4) (n₂:=1) (af.holding _ g) ?_;refine af.bind (n₁:=1) (n₂:=0) (af.dictEpoch (iD H _ _ subs rfl)) ?_;rw[if_neg (by simp)];exact af.pure _ _
theorem EB{H:Heap}(hn:n₀<=H.objs.size)(hm:sysModules<H.objs.size){fs:Array DictEntry}{fp:Nat}{subs:List Obj}{L M:List (Int×Str)}{es:Array DictEntry}{ep:Nat}(hM:cE fs M)(hL:cE es L)(hne:L≠[])(ha:fM (L++M))(hl:(L++M).length<=1000):
 ∃es' ep',cE es' (L++M)/\af p w n₀ ann q (6*M.length+5) (mergeMapping H.objs.size (.ref (H.objs.size+1+subs.length)) false) { s with heap:=hp H (dO es ep) (subs++[dO fs fp]) } () { s with heap:=hp H (dO es' ep') (subs++[dO fs fp]) }:=by
 have key:=λf hf=>qM (s:=s) (p:=p) (w:=w) (ann:=ann) (q:=q) (f:=f) hn (fp:=fp) (subs:=subs) hM hf M.length 0 (L:=L) (es:=es) (ep:=ep) ⋯ (by simpa using hL) ha hl
 obtain⟨es',ep',h',g⟩:=key (λi _=>do
  let es <-dictEntries (H.objs.size+1+subs.length)
  match es[i]? with
  |some e=>do
   holding [e.key,e.val] (dictPut H.objs.size e.hash e.key e.val)
   let ep <-dictEpoch (H.objs.size+1+subs.length)
   if(ep !=fp)=true then do
    unsupported "dict.changed-during-merge"
    Pure.pure (ForInStep.yield PUnit.unit)
   else Pure.pure (ForInStep.yield PUnit.unit)
  |_=>do
   unsupported "dict.changed-during-merge"
   Pure.pure (ForInStep.yield PUnit.unit)) (λ_ _ _ _=>rfl)
 refine⟨es',ep',h', ?_⟩;have hgl:=iD H (dO es ep) (dO fs fp) subs rfl;have hgm:=iC H (dO es ep) (subs++[dO fs fp]) rfl;unfold mergeMapping;rw[show 6*M.length+5=1+(1+(1+(1+(1+6*M.length))))by omega];refine af.bind (n₁:=1) (af.isDict hgl) ?_;rw[if_pos rfl];refine af.bind (n₁:=1) (af.dictIter hgl) ?_;have hp1:(some (Value.builtin "dict.__iter__")==some (.builtin "dict.__iter__"))=true:=by decide +kernel
 rw[hp1];have hs:(H.objs.size+1+subs.length==sysModules)=false:=by
  rw[beq_eq_false_iff_ne];exact Nat.ne_of_gt (dy hm (ah (Nat.le_add_right _ 1) (Nat.le_add_right _ _)))
 dsimp only;rw[pure_bind];dsimp only;rw[hs];simp only[Bool.false_eq_true,if_false];refine af.bind (n₁:=1) (af.dictEntries hgm) ?_;have hem:es.isEmpty=false:=by
  rw[Array.isEmpty_eq_false_iff];intro q;have:=hL.size;rw[q]at this;exact hne (List.length_eq_zero_iff.mp this.symm)
 rw[hem];simp only[Bool.false_eq_true,if_false];refine af.bind (n₁:=1) (af.dictEntries hgl) ?_;refine af.bind (n₁:=1) (af.dictEpoch hgl) ?_;rw[hM.size,List.range_eq_range'];exact af.bind (n₁:=6*M.length) (n₂:=0) g (af.pure _ _)
end
end
section
open PySem PySem.W PySem.Calls PyProof.Rows
noncomputable def qN(run:List (Sem Value×Sem Value))(main:Option Addr):Sem (Option Addr):=
 if run.isEmpty=true then pure main else match main with
  |none=>do
   let d <-subDict run
   pure (some d)
  |some d=>do
   let sub <-holding [.ref d] (subDict run)
   (holding [.ref d, .ref sub] (mergeMapping d (.ref sub) false)).onRaise λx=>do
     let _ <-holding [.ref d,x] (runValue (.builtin "proto.let_go" {}))
     pure ()
   pure (some d)
section
variable {p:Program} {w:World} {n₀:Nat} {ann:Option Value} {q:Pos} {s s':Shared}
noncomputable def gl(r:Nat):Nat:=if r<=15 then 13*r+1 else 13*r+2
theorem zL{ps:Pos}{M:List (Int×Str)}(hn:n₀<=s.heap.objs.size)(hm:M.length<=1000)(ha:fM M):
 ∃es ep T,cE es M/\af p w n₀ ann q (gl M.length) (subDict (M.map (pr ps))) s s.heap.objs.size { s with heap:=s.heap.push (dO es ep),toks:=T }:=by
 unfold gl
 by_cases h:M.length<=15
 ·rw[if_pos h];exact zK hn h ha
 ·rw[if_neg h];exact Cs hn ⋯ hm ha
theorem EC{ps:Pos}{M:List (Int×Str)}(hn:n₀<=s.heap.objs.size)(h0:M≠[])(hm:M.length<=1000)(ha:fM M):
 ∃es ep T,cE es M/\af p w n₀ ann q (gl M.length) (qN (M.map (pr ps)) none) s (some s.heap.objs.size) { s with heap:=hp s.heap (dO es ep) [],toks:=T }:=by
 obtain⟨es,ep,T,h,g⟩:=zL (p:=p) (w:=w) (ann:=ann) (q:=q) (ps:=ps) hn hm ha;refine⟨es,ep,T,h, ?_⟩;unfold qN;rw[if_neg (by simpa using h0),<-nK];exact af.bind (n₁:=gl M.length) (n₂:=0) g (af.pure _ _)
theorem zM{ps:Pos}{H:Heap}{T:Nat}{subs:List Obj}{L M:List (Int×Str)}{es:Array DictEntry}{ep:Nat}(hn:n₀<=H.objs.size)(hsy:sysModules<H.objs.size)(h0:M≠[])(hL:cE es L)(hne:L≠[])(ha:fM (L++M))(hl:(L++M).length<=1000):
 ∃es' ep' o T',cE es' (L++M)/\af p w n₀ ann q (gl M.length+(6*M.length+5)) (qN (M.map (pr ps)) (some H.objs.size)) { s with heap:=hp H (dO es ep) subs,toks:=T } (some H.objs.size) { s with heap:=hp H (dO es' ep') (subs++[o]),toks:=T' }:=by
 obtain⟨fs,fp,T',hM,g⟩:=zL (p:=p) (w:=w) (n₀:=n₀) (ann:=ann) (q:=q) (ps:=ps) (s:={ s with heap:=hp H (dO es ep) subs,toks:=T }) (M:=M)
  (by show n₀<=(hp H (dO es ep) subs).objs.size;rw[xD];exact ah hn (ah (Nat.le_add_right _ 1) (Nat.le_add_right _ _))) (by rw[bk]at hl;omega) (List.pairwise_append.mp ha).2.1
 obtain⟨es',ep',h',g'⟩:=EB (s:={ s with toks:=T' }) (p:=p) (w:=w) (ann:=ann) (q:=q) (subs:=subs) (ep:=ep) (fp:=fp) hn hsy hM hL hne ha hl;refine⟨es',ep',dO fs fp,T',h', ?_⟩;dsimp only at g;rw[xD,sK]at g;unfold qN;rw[if_neg (by simpa using h0)];refine af.bind (n₁:=gl M.length) (n₂:=6*M.length+5) (af.holding _ g) ?_;exact af.bind (n₁:=6*M.length+5) (n₂:=0) (a:=()) (af.onRaise _ (af.holding _ g')) (af.pure _ _)
noncomputable def cB:Nat->Nat->Nat
 |_,0=>0
 |r,m+1=>if r+1=17 then gl 17+(6*17+5)+cB 0 m else cB (r+1) m
noncomputable def oB:Nat->Nat->Nat
 |_,0=>0
 |r,m+1=>if r+1=17 then 1+oB 0 m else oB (r+1) m
noncomputable def rB:Nat->Nat->Nat
 |r,0=>r
 |r,m+1=>if r+1=17 then rB 0 m else rB (r+1) m
theorem Gr{r m:Nat}:cB r (m+1)=if r+1=17 then gl 17+(6*17+5)+cB 0 m else cB (r+1) m:=rfl
theorem Gs{r m:Nat}:oB r (m+1)=if r+1=17 then 1+oB 0 m else oB (r+1) m:=rfl
theorem Gu{r m:Nat}:rB r (m+1)=if r+1=17 then rB 0 m else rB (r+1) m:=rfl
noncomputable abbrev zN:=(Option (Sem Value)×Sem Value)->(Option Addr×List (Sem Value×Sem Value))->Sem (ForInStep (Option Addr×List (Sem Value×Sem Value)))
structure wh(f:zN):Prop where
 more:∀(x:Sem Value×Sem Value) main run,(run++[x]).length≠17->f (some x.1,x.2) (main,run)=pure (.yield (main,run++[x]))
 full:∀(x:Sem Value×Sem Value) main run,(run++[x]).length=17->f (some x.1,x.2) (main,run)=(do let m <-qN (run++[x]) main;pure (.yield (m,[])))
theorem zO{f:zN}(F:wh f){ps:Pos}{H:Heap}(hn:n₀<=H.objs.size)(hsy:sysModules<H.objs.size):∀(M R:List (Int×Str)) {T:Nat} {subs:List Obj} {L:List (Int×Str)} {es:Array DictEntry} {ep:Nat},
 R.length<17->cE es L->L≠[]->fM (L++R++M)->(L++R++M).length<=1000 ->
 ∃es' ep' L' R' more T',cE es' L'/\L'≠[]/\L'++R'=L++R++M/\R'.length=rB R.length M.length/\more.length=oB R.length M.length /\
  af p w n₀ ann q (cB R.length M.length) (forIn ((M.map (pr ps)).map λx=>(some x.1,x.2)) (some H.objs.size,R.map (pr ps)) f) { s with heap:=hp H (dO es ep) subs,toks:=T } (some H.objs.size,R'.map (pr ps))
   { s with heap:=hp H (dO es' ep') (subs++more),toks:=T' }
 |[],R,T,subs,L,es,ep,hr,h,hne,ha,hl=>⟨es,ep,L,R,[],T,h,hne,by simp,rfl,rfl,by rw[bY];exact af.forIn_nil _ _⟩
 |x::M,R,T,subs,L,es,ep,hr,h,hne,ha,hl=>by
  by_cases e:R.length+1=17
  ·obtain⟨es₁,ep₁,o,T₁,h₁,g₁⟩:=zM (s:=s) (p:=p) (w:=w) (ann:=ann) (q:=q) (ps:=ps) (T:=T) (subs:=subs) (M:=R++[x]) (ep:=ep) hn hsy (by simp) h hne
    (List.Pairwise.sublist (by rw[show L++R++x::M=(L++(R++[x]))++M by simp];exact List.sublist_append_left _ _) ha) (by simp at hl |-;omega)
   obtain⟨es',ep',L',R',more,T',h',hne',eq,r',o',g'⟩:=zO F (ps:=ps) hn hsy M [] (T:=T₁) (subs:=subs++[o]) (L:=L++(R++[x])) (es:=es₁) (ep:=ep₁) (by simp) h₁ (by simp) (by simpa using ha) (by simpa using hl);refine⟨es',ep',L',R',o::more,T',h',hne',by simpa using eq, ?_, ?_, ?_⟩
   ·rw[aP];rw[Gu,if_pos e];exact r'
   ·rw[aP,aP];rw[Gs,if_pos e,o'];simp[Nat.add_comm]
   ·rw[aP];rw[Gr,if_pos e,aC,aC]
    have hlen:(R.map (pr ps)++[pr ps x]).length=17:=by simpa using e
    have hcast:R.map (pr ps)++[pr ps x]=(R++[x]).map (pr ps):=by simp
    rw[show subs++o::more=(subs++[o])++more by simp];refine af.forIn_cons (n:=gl 17+(6*17+5)) ?_ g';rw[F.full (pr ps x) _ _ hlen,hcast];have e17:(R++[x]).length=17:=by simpa using e
    rw[e17]at g₁;exact af.bind (n₁:=gl 17+(6*17+5)) (n₂:=0) g₁ (af.pure _ _)
  ·obtain⟨es',ep',L',R',more,T',h',hne',eq,r',o',g'⟩:=zO F (ps:=ps) hn hsy M (R++[x]) (T:=T) (subs:=subs) (L:=L) (es:=es) (ep:=ep) (by simp;omega) h hne (by simpa using ha) (by simpa using hl)
   refine⟨es',ep',L',R',more,T',h',hne',by simpa using eq, ?_, ?_, ?_⟩
   ·rw[aP];rw[Gu,if_neg e];simpa using r'
   ·rw[aP];rw[Gs,if_neg e];simpa using o'
   ·rw[aP];rw[Gr,if_neg e,aC,aC]
    have hlen:(R.map (pr ps)++[pr ps x]).length≠17:=by simpa using e
    have hcast:R.map (pr ps)++[pr ps x]=(R++[x]).map (pr ps):=by simp
    rw[<-Nat.zero_add (cB (R.length+1) M.length)];rw[show(R++[x]).length=R.length+1 by simp]at g';refine af.forIn_cons (n:=0) ?_ g';rw[F.more (pr ps x) _ _ hlen,hcast];exact af.pure _ _
theorem Eh{f:zN}(F:wh f){ps:Pos}(hn:n₀<=s.heap.objs.size):∀(M R:List (Int×Str)),R.length+M.length=17->M≠[]->fM (R++M) ->
 ∃es ep T,cE es (R++M)/\∀rest:List (Option (Sem Value)×Sem Value),∀{n b s'},af p w n₀ ann q n (forIn rest (some s.heap.objs.size,[]) f) { s with heap:=hp s.heap (dO es ep) [],toks:=T } b s' ->
  af p w n₀ ann q (gl 17+n) (forIn (((M.map (pr ps)).map λx=>(some x.1,x.2))++rest) (none,R.map (pr ps)) f) s b s'
 |[],_,_,h,_=>absurd rfl h
 |x::M,R,hl,_,ha=>by
  have hcast:R.map (pr ps)++[pr ps x]=(R++[x]).map (pr ps):=by simp
  induction M using List.casesOn with
  |nil=>
   have e17:(R++[x]).length=17:=by simpa using hl
   obtain⟨es,ep,T,h,g⟩:=EC (p:=p) (w:=w) (ann:=ann) (q:=q) (ps:=ps) (M:=R++[x]) hn (by simp) ⋯ ha;refine⟨es,ep,T,h,λrest n b s' k => ?_⟩;rw[aC,aC,List.map_nil,List.map_nil,List.cons_append,List.nil_append];refine af.forIn_cons (n:=gl 17) ?_ k;rw[F.full (pr ps x) _ _ (by simpa using e17),hcast];rw[e17]at g;exact af.bind (n₁:=gl 17) (n₂:=0) g (af.pure _ _)
  |cons y M=>
   obtain⟨es,ep,T,h,k⟩:=Eh F (ps:=ps) hn (y::M) (R++[x]) (by simp at hl |-;omega) (by simp) (by simpa using ha);refine⟨es,ep,T,by simpa using h,λrest n b s' j => ?_⟩;have:=k rest j;rw[aC,aC,List.cons_append,<-Nat.zero_add (gl 17+n)];refine af.forIn_cons (n:=0) ?_ this;rw[F.more (pr ps x) _ _ (by simp at hl |-;omega),hcast];exact af.pure _ _
noncomputable def cD(m:Nat):Nat:=gl 17+(cB 0 m+(gl (rB 0 m)+(6*rB 0 m+5)))
theorem n5(items:List (Option (Sem Value)×Sem Value)):∃f,wh f/\dictDisplay items=(do
 let st <-forIn items (none,[]) f;let m <-qN st.2 st.1
 match m with
 |some d=>pure (.ref d)
 |none=>newDict):=by
 refine⟨?f,⟨?_, ?_⟩, ?e⟩
 case e=>unfold dictDisplay;rfl
 ·intro x main run h
  dsimp only;rw[if_neg (by simpa using h)]
 ·intro x main run h
  dsimp only;rw[if_pos (by simpa using h)]
  rfl
theorem Ct{ps:Pos}{A B:List (Int×Str)}(hn:n₀<=s.heap.objs.size)(hsy:sysModules<s.heap.objs.size)(hA:A.length=17)(hr:rB 0 B.length≠0)(ha:fM (A++B))(hl:(A++B).length<=1000):
 ∃es ep subs T,cE es (A++B)/\subs.length=oB 0 B.length+1 /\
  af p w n₀ ann q (cD B.length) (dictDisplay (((A++B).map (pr ps)).map λx=>(some x.1,x.2))) s (.ref s.heap.objs.size) { s with heap:=hp s.heap (dO es ep) subs,toks:=T }:=by
 obtain⟨f,F,e⟩:=n5 (((A++B).map (pr ps)).map λx=>(some x.1,x.2));obtain⟨es₁,ep₁,T₁,h₁,k₁⟩:=Eh (s:=s) (p:=p) (w:=w) (ann:=ann) (q:=q) F (ps:=ps) hn A [] (by simpa using hA) (by intro q;rw[q]at hA;cases hA) (by rw[List.nil_append];exact(List.pairwise_append.mp ha).1);obtain⟨es₂,ep₂,L₂,R₂,more,T₂,h₂,hne,eq,r₂,o₂,g₂⟩:=zO (s:=s) (p:=p) (w:=w) (ann:=ann) (q:=q) F (ps:=ps) hn hsy B [] (T:=T₁) (subs:=[]) (L:=A) (es:=es₁) (ep:=ep₁) (by simp) (by simpa using h₁)
  (by intro q;rw[q]at hA;cases hA) (by simpa using ha) (by simpa using hl)
 rw[bY]at eq;have hR:R₂≠[]:=by
  intro q;rw[q]at r₂;exact hr r₂.symm
 obtain⟨es₃,ep₃,o,T₃,h₃,g₃⟩:=zM (s:=s) (p:=p) (w:=w) (ann:=ann) (q:=q) (ps:=ps) (T:=T₂) (subs:=[]++more) (M:=R₂) (ep:=ep₂) hn hsy hR h₂ hne (by rw[eq];exact ha) (by rw[eq];exact hl);refine⟨es₃,ep₃,[]++more++[o],T₃,by rw[<-eq];exact h₃,by simp[o₂], ?_⟩;rw[e];have g:=k₁ _ g₂;unfold cD;rw[show gl 17+(cB 0 B.length+(gl (rB 0 B.length)+(6*rB 0 B.length+5)))=(gl 17+cB 0 B.length)+(gl (rB 0 B.length)+(6*rB 0 B.length+5))by omega];refine af.bind (n₁:=gl 17+cB 0 B.length) (a:=(some s.heap.objs.size,R₂.map (pr ps))) (s₁:={ s with heap:=hp s.heap (dO es₂ ep₂) ([]++more),toks:=T₂ }) ?_ ?_
 ·have:=g
  rw[List.map_append,List.map_append]
  simpa using this
 ·rw[show([]:List (Int×Str)).length=0 from rfl]at r₂
  rw[r₂]at g₃;exact af.bind (n₁:=gl (rB 0 B.length)+(6*rB 0 B.length+5)) (n₂:=0) g₃ (af.pure _ _)
end
end
section
open PySem PySem.W PySem.Calls PyProof.Rows
noncomputable def nv(p:Program):Env:={ scope:=p.main.scope,locals:=mainNs,globals:=mainNs,cells:=[],code := .ref 30,frame:=some 31 }
noncomputable abbrev nA(p:Program):Code := .body (behindTheImports p) (nv p)
noncomputable def q0:Pos:=⟨0,0,0,0⟩
noncomputable def iE:Option Value:=some (.ref 6)
structure Fn where
 tb:String->Option Builtin
 den:(String->Option Builtin)->Code->Sem PySem.Fin
 imp:(String->Option Builtin)->Program->World->Nat->Shared->Thread->Option Shared
 st:Program->Shared×Thread
 fence:Program->Shared->Option Shared
 tgo:(String->Option Builtin)->Program->World->Nat->Option Value->Nat->Shared->Thread->Option (Shared×Thread)
 seg:(String->Option Builtin)->Program->World->Nat->Option Value->Nat->Nat->Shared->Thread->Option (Flow×Shared×Code×Pos)
 trun:(String->Option Builtin)->Program->World->Nat->Option Value->Nat->Shared->Thread->Option Shared
noncomputable def iF:Fn:=⟨treeTable,denote,importEnds,start,fenceModules?,topGo,segRun,topRun⟩
noncomputable def fast:Fn:=⟨PySem.W.Fast.tw14364793385576792824,PySem.W.Fast.tw11892475500146522536,PySem.W.Fast.tw10274390034422433532,PySem.W.Fast.tw1435165496053646825,PySem.W.Fast.tw14289696077712309145,PySem.W.Fast.tw15667345088766844465,PySem.W.Fast.tw14374325043358763698,PySem.W.Fast.tw14082659384304107361⟩
theorem qO:iF=fast:=by
 unfold iF fast;rw[PySem.W.Fast.te14364793385576792824,PySem.W.Fast.te11892475500146522536,PySem.W.Fast.te10274390034422433532,PySem.W.Fast.te1435165496053646825,PySem.W.Fast.te14289696077712309145,PySem.W.Fast.te15667345088766844465,PySem.W.Fast.te14374325043358763698,PySem.W.Fast.te14082659384304107361]
noncomputable def ED(F:Fn)(p:Program)(w:World):Option Shared:=(F.imp F.tb (opening p) w 2000 (F.st (opening p)).1 (F.st (opening p)).2).bind (F.fence p)
noncomputable def Io:Shared:={}
noncomputable def s0(F:Fn)(p:Program)(w:World):Shared:=match ED F p w with|some s=>s|none=>Io
noncomputable def EE(F:Fn)(p:Program)(w:World):Option (Shared×Thread):=F.tgo F.tb p w 28 iE 12 (s0 F p w) (topStub p)
noncomputable def sA(F:Fn)(p:Program)(w:World):Shared:=match EE F p w with|some r=>r.1|none=>Io
noncomputable def Gv(F:Fn)(p:Program)(i N:Nat)(w:World):Option (Flow×Shared×Code×Pos):=F.seg F.tb p w 28 iE 1 N (sA F p w) (piecesOf ((behindTheImports p).take i) (nv p) (nA p) q0 [topFrame q0])
noncomputable def k1(F:Fn)(p:Program)(i N:Nat)(w:World):Bool×Bool×Nat×Option Value×Option Thread×Option (Flow×Shared×Code×Pos)×Option (Flow×Shared×Code×Pos):=
 ((ED F p w).isSome,(s0 F p w).heap.isNs mainGlobals&&(s0 F p w).gens.size==0,(s0 F p w).heap.objs.size,(s0 F p w).heap.nsMap mainGlobals "__annotations__",(EE F p w).map (·.2),
  F.seg F.tb p w 28 iE 1 1 (sA F p w) (blockOf (behindTheImports p) (nv p) (nA p) q0 [topFrame q0]),Gv F p i N w)
noncomputable def fo(os:List Obj)(T:Nat):Shared:={ heap:=⟨⟨os⟩,{}⟩,toks:=T }
noncomputable def wi(F:Fn)(p:Program)(ps:Pos)(sb:Shared)(w:World):Bool×Bool×Nat×Option Value×Option Thread×Option (Flow×Shared×Code×Pos)×Option (Flow×Shared×Code×Pos):=
 (true,true,28,iE,some ⟨F.den F.tb (nA p),nA p,q0,[topFrame q0]⟩,some (.next,sA F p w,nA p,q0),some (.next,sb,nA p,ps))
noncomputable def iG(F:Fn)(p:Program)(i k N:Nat)(ps:Pos)(w:World)(s:Shared):Option (Flow×Shared×Code×Pos):=
 F.seg F.tb p w 28 iE 1 N s (piecesOf (((behindTheImports p).drop i).take k) (nv p) (nA p) ps [topFrame q0])
structure DictStmt where
 name:Str
 npos:Pos
 keys:List (Option Expr)
 vals:List Expr
 dpos:Pos
 pos:Pos
noncomputable def zP:List Expr->Option (Str×Pos)
 |[t]=>match t with
  | .Name x np=>some (x,np)
  |_=>none
 |_=>none
noncomputable def zQ:Expr->Option (List (Option Expr)×List Expr×Pos)
 | .Dict ks vs dp=>some (ks,vs,dp)
 |_=>none
noncomputable def Gw:Stmt->Option (List Expr×Expr×Pos)
 | .Assign ts v ps=>some (ts,v,ps)
 |_=>none
noncomputable def js(st:Stmt):Option DictStmt:=(Gw st).bind λa=>(zP a.1).bind λx=>(zQ a.2.1).map λd=>⟨x.1,x.2,d.1,d.2.1,d.2.2,a.2.2⟩
theorem zR{ts:List Expr}{x:Str×Pos}(h:zP ts=some x):ts=[.Name x.1 x.2]:=by
 induction ts using List.casesOn with
 |nil=>exact aD h
 |cons t r=>induction r using List.casesOn with
  |nil=>induction t using Expr.casesOn with
   |Name y p=>injections h;rfl
   |_=>exact aD h
  |cons _ _=>exact aD h
theorem zS{e:Expr}{x}(h:zQ e=some x):e = .Dict x.1 x.2.1 x.2.2:=by
 cases e with
 |Dict ks vs dp=>injections h;rfl
 |_=>exact aD h
theorem EF{s:Stmt}{x}(h:Gw s=some x):s = .Assign x.1 x.2.1 x.2.2:=by
 induction s using Stmt.casesOn with
 |Assign ts v ps=>injections h;rfl
 |_=>exact aD h
noncomputable def DictStmt.stmt(d:DictStmt):Stmt := .Assign [.Name d.name d.npos] (.Dict d.keys d.vals d.dpos) d.pos
theorem uk{st:Stmt}{d:DictStmt}(h:js st=some d):st=d.stmt:=by
 obtain⟨a,h1,h2⟩:=Option.bind_eq_some_iff.mp h;obtain⟨x,h3,h4⟩:=Option.bind_eq_some_iff.mp h2;obtain⟨y,h5,h6⟩:=Option.map_eq_some_iff.mp h4;subst h6;rw[EF h1,zR h3,zS h5];rfl
noncomputable def Ei:Option Expr->Option Int
 |some (.Constant (.int k) _ _)=>some k
 |_=>none
noncomputable def Ej:Expr->Option Str
 | .Constant (.str v) _ _=>some v
 |_=>none
noncomputable def wj(k:Option Expr)(v:Expr):Option (Int×Str):=(Ei k).bind λi=>(Ej v).map λy=>(i,y)
noncomputable def fE:List (Option Expr)->List Expr->Option (List (Int×Str))
 |[],[]=>some []
 |k::ks,v::vs=>(wj k v).bind λx=>(fE ks vs).map λL=>x::L
 |_,_=>none
theorem Cu{k:Option Expr}{i:Int}(h:Ei k=some i):∃a b,k=some (.Constant (.int i) a b):=by
 induction k using Option.casesOn with
 |none=>exact aD h
 |some e=>induction e using Expr.casesOn with
  |Constant c a b=>induction c using Const.casesOn with
   |int j=>injections h;exact⟨a,b,rfl⟩
   |_=>exact aD h
  |_=>exact aD h
theorem Cv{v:Expr}{y:Str}(h:Ej v=some y):∃a b,v = .Constant (.str y) a b:=by
 induction v using Expr.casesOn with
 |Constant c a b=>induction c using Const.casesOn with
  |str j=>injections h;exact⟨a,b,rfl⟩
  |_=>exact aD h
 |_=>exact aD h
theorem zT{env:Env}{ps:Pos}{k:Option Expr}{v:Expr}{x:Int×Str}(h:wj k v=some x):evalOpt k env=some (pr ps x).1/\(do let y <-eval v env;standAt ps;pure y)=(pr ps x).2:=by
 obtain⟨i,h1,h2⟩:=Option.bind_eq_some_iff.mp h;obtain⟨y,h3,rfl⟩:=Option.map_eq_some_iff.mp h2;obtain⟨a,b,rfl⟩:=Cu h1;obtain⟨c,d,rfl⟩:=Cv h3;exact⟨rfl,rfl⟩
theorem qP{env:Env}{ps:Pos}:∀{ks:List (Option Expr)} {vs:List Expr} {L:List (Int×Str)},fE ks vs=some L ->
 (evalEachOpt ks env).zip ((evalEach vs env).map λv=>do let x <-v;standAt ps;pure x)=(L.map (pr ps)).map λx=>(some x.1,x.2)
 |[],[],L,h=>by injections h;rfl
 |k::ks,v::vs,L,h=>by
   obtain⟨x,e1,h2⟩:=Option.bind_eq_some_iff.mp (show((wj k v).bind λx=>(fE ks vs).map λL=>x::L)=some L from h);obtain⟨M,e2,rfl⟩:=Option.map_eq_some_iff.mp h2;have:=qP (env:=env) (ps:=ps) e2;obtain⟨r1,r2⟩:=zT (env:=env) (ps:=ps) e1;show(evalOpt k env,do let y <-eval v env;standAt ps;pure y)::((evalEachOpt ks env).zip ((evalEach vs env).map _))=_;rw[this,r1,r2]
   rfl
 |[],_::_,_,h=>by injections h
 |_::_,[],_,h=>by injections h
noncomputable def jW:Int->List (Int×Str)->Bool
 |_,[]=>true
 |a,x::L=>decide (a<x.1)&&decide (x.1<2147483648)&&jW x.1 L
theorem n6{k:Int}(h0:0<=k)(h1:k<2147483648):PySem.hashInt k=k:=by
 have hr:rawHash k=k:=by
  unfold rawHash;have h2:((k.natAbs:Int)%((2^61-1:Nat):Int))=k:=by
   rw[Int.natAbs_of_nonneg h0];exact Int.emod_eq_of_lt h0 ⋯
  have hk:¬k<0:=⋯;have hm:(k == -1)=false:=by rw[beq_eq_false_iff_ne];omega
  simp only[h2,if_neg hk,hm,Bool.false_eq_true,if_false]
 unfold PySem.hashInt;have hm:(k == -1)=false:=by rw[beq_eq_false_iff_ne];omega
 rw[hr,hm,if_neg Bool.false_ne_true]
theorem mH:∀{a:Int} {L:List (Int×Str)},0<=a->jW a L=true->(∀x∈L,a<x.1/\x.1<2147483648)/\L.Pairwise λx y=>x.1<y.1
 |_,[],_,_=>⟨λ_ h=>(nomatch h), .nil⟩
 |a,x::L,h0,h=>by
  have h3:=(bc h).2;have h1:=aY (bc (bc h).1).1;have h2:=aY (bc (bc h).1).2;obtain⟨k1,k2⟩:=mH ⋯ h3;refine⟨λy hy => ?_, .cons (λy hy=>(k1 y hy).1) k2⟩
  rcases bu hy with rfl|hy
  ·exact⟨h1,h2⟩
  ·have:=k1 y hy;exact⟨⋯,this.2⟩
theorem nB{L:List (Int×Str)}(h:jW 0 L=true):fM L:=by
 obtain⟨k1,k2⟩:=mH (Int.le_refl 0) h;unfold fM;refine List.Pairwise.imp_of_mem ?_ k2;intro x y hx hy hlt;have a:=k1 x hx;have b:=k1 y hy;rw[n6 ⋯ a.2,n6 ⋯ b.2]
 omega
section
variable {p:Program} {w:World} {n₀:Nat} {ann:Option Value} {q:Pos} {s s':Shared}
theorem zU {env:Env} {ks:List (Option Expr)} {vs:List Expr} {ps:Pos} {L:List (Int×Str)} (hL:fE ks vs=some L) (hr:jW 0 L=true) (h17:17<=L.length) (h1000:L.length<=1000) (hrem:rB 0 (L.length-17)≠0)
 (hn:n₀<=s.heap.objs.size) (hsy:sysModules<s.heap.objs.size):
 ∃es ep subs T,cE es L/\subs.length=oB 0 (L.length-17)+1 /\
  af p w n₀ ann q (1+cD (L.length-17)) (eval (.Dict ks vs ps) env) s (.ref s.heap.objs.size) { s with heap:=hp s.heap (dO es ep) subs,toks:=T }:=by
 have hB:(L.drop 17).length=L.length-17:=dj;obtain⟨es,ep,subs,T,h1,h2,g⟩:=Ct (s:=s) (p:=p) (w:=w) (ann:=ann) (q:=q) (ps:=ps) (A:=L.take 17) (B:=L.drop 17) hn hsy (by rw[cR];omega) (by rw[hB];exact hrem) (by rw[List.take_append_drop];exact nB hr) (by rw[List.take_append_drop];exact h1000);rw[List.take_append_drop]at h1 g;rw[hB]at h2 g;refine⟨es,ep,subs,T,h1,h2, ?_⟩;rw[arm_eval_Dict,qP hL];exact af.bind (n₁:=1) (af.standAt _ _) g
noncomputable def qQ(env:Env)(d:DictStmt)(v:Value):Sem Flow:=do
 standAt d.npos
 bindName env d.name v
 pure .next
noncomputable def ul(env:Env)(rest:List Stmt)(f:Flow):Sem Flow:=match f with| .next=>execs rest env|f=>pure f
noncomputable def hG(env:Env)(d:DictStmt)(rest:List Stmt)(v:Value)(c:Code)(ps q:Pos):Thread:=
 ⟨(qQ env d v).wrap (λf=>(ul env rest f).wrap doneF (leaveH env) id id) (leaveH env) id id,c,ps,[topFrame q]⟩
theorem zV {env:Env} {d:DictStmt} {rest:List Stmt} {c:Code} {ps:Pos} {L:List (Int×Str)} (hL:fE d.keys d.vals=some L) (hr:jW 0 L=true) (h17:17<=L.length) (h1000:L.length<=1000) (hrem:rB 0 (L.length-17)≠0)
 (hn:n₀<=s.heap.objs.size) (hsy:sysModules<s.heap.objs.size):
 ∃es ep subs T,cE es L/\subs.length=oB 0 (L.length-17)+1/\∃ps',
  topGo treeTable p w n₀ ann (1+(1+cD (L.length-17))) s (restOf (d.stmt::rest) env c ps [topFrame q])=some ({ s with heap:=hp s.heap (dO es ep) subs,toks:=T },hG env d rest (.ref s.heap.objs.size) c ps' q):=by
 obtain⟨es,ep,subs,T,h1,h2,g⟩:=zU (s:=s) (p:=p) (w:=w) (n₀:=n₀) (ann:=ann) (q:=q) (env:=env) (ps:=d.dpos) hL hr h17 h1000 hrem hn hsy;refine⟨es,ep,subs,T,h1,h2, ?_⟩;have e:execs (d.stmt::rest) env=(do
  let v <-(do standAt d.pos;eval (.Dict d.keys d.vals d.dpos) env:Sem Value);let f <-qQ env d v
  ul env rest f):=by
  rw[execs_cons];unfold DictStmt.stmt;rw[exec_Assign_Name env d.name d.npos _ d.pos rfl];simp only[bind_assoc,qQ,pure_bind]
  rfl
 unfold restOf;rw[e];have G:af p w n₀ ann q (1+(1+cD (L.length-17))) (do standAt d.pos;eval (.Dict d.keys d.vals d.dpos) env:Sem Value) s _ _:=af.bind (n₁:=1) (af.standAt _ _) g;obtain⟨ps',k⟩:=G (λv=>(do let f <-qQ env d v;ul env rest f:Sem Flow).wrap doneF (leaveH env) id id) (leaveH env) id id c ps;refine⟨ps', ?_⟩;have:((do let v <-(do standAt d.pos;eval (.Dict d.keys d.vals d.dpos) env:Sem Value);let f <-qQ env d v;ul env rest f:Sem Flow)).wrap doneF (leaveH env) id id =
  (do standAt d.pos;eval (.Dict d.keys d.vals d.dpos) env:Sem Value).wrap (λv=>(do let f <-qQ env d v;ul env rest f:Sem Flow).wrap doneF (leaveH env) id id) (leaveH env) id id:=by
  rw[Sem.bind_eq_wrap',Sem.wrap_wrap]
  rfl
 rw[this,k];unfold hG;rw[Sem.bind_eq_wrap',Sem.wrap_wrap]
 rfl
end
noncomputable def qS(p:Program)(i:Nat):List Stmt:=(behindTheImports p).drop (i+1)
noncomputable def fN(p:Program)(i:Nat):DictStmt:=match((behindTheImports p).drop i).head?.bind js with|some d=>d|none=>⟨Str.empty,q0,[],[],q0,q0⟩
noncomputable def yA(F:Fn)(p:Program)(i M n:Nat)(w:World)(os more:List Obj)(T:Nat)(ps:Pos):Option Shared:=
 F.trun F.tb p w 28 iE M (fo (os++more) T) (hG (nv p) (fN p i) (qS p i) (.ref n) (nA p) ps q0)
noncomputable def wk(F:Fn)(p:Program)(w:World)(s:Shared):Bool:=
 staticsOk (importedModules p.main.body) (s0 F p w).heap s.heap&&namesBound p s.heap&&gensDone s&&laidKept (s0 F p w).heap s.heap
structure DP where
 name:Str
 params:Arguments
 body:List Stmt
 scope:Scope
noncomputable def Gx:DP:=⟨Str.empty,⟨[],[],none,[],[],none,[]⟩,[],{ kind := .function,names:=[],isGenerator:=false,isCoroutine:=false,more:=[] }⟩
noncomputable def Gy:Option Stmt->DP
 |some (.FunctionDef n a b _ _ _ s _ _ _)=>⟨n,a,b,s⟩
 |_=>Gx
noncomputable def b0(p:Program)(i:Nat):DP:=Gy p.main.body[i]?
noncomputable def iH(p:Program)(i j:Nat):DP:=match p.main.body[i]? with
 |some (.ClassDef _ _ _ b _ _ _ _ _ _ _)=>Gy b[j]?
 |_=>Gx
noncomputable def fD(d:DP)(q:Str)(globals:Addr)(pm cd:Value)(bi:Addr):FuncData:=
 { name:=d.name,qualname:=q,params:=d.params,body := .stmts d.body,scope:=d.scope,globals:=globals,closure:=[],defaults := .none,kwdefaults := .none,pyModule:=pm,code:=cd,builtins:=bi }
noncomputable def dE(P:Params)(x:Str)(t:Nat)(v:Value):DictEntry:=⟨PyData.keyHash P x, .str x t,v⟩
end
section
open PySem PySem.W PySem.Calls PyProof.Rows
theorem yB{α:Type}(a:Array α)(l:List α):a++l.toArray=⟨a.toList++l⟩:=by
 apply Array.toList_inj.mp;simp
theorem qz(os:List Obj):os=(List.range os.length).map λi=>os.getD i default:=by
 apply List.ext_getElem
 ·simp
 ·intro i h1 h2
  simp[List.getD,gF h1]
theorem zW(p:Program)(w:World):ED iF p w=(importEnds treeTable (opening p) w 2000 (start (opening p)).1 (start (opening p)).2).bind (fenceModules? p):=by
 unfold ED iF;dsimp only
theorem qA{p:Program}{w:World}{z:Shared}{NN:Nat}(h:2000<=NN)(hz:ED iF p w=some z):fencedOpening treeTable p w NN=some z:=by
 rw[zW]at hz;generalize hK:2000=K at h hz;obtain⟨y,hy,hy'⟩:=Option.bind_eq_some_iff.mp hz;have:=importEnds_mono (NN-K) _ _ _ _ hy;rw[show K+(NN-K)=NN by omega]at this;unfold fencedOpening;rw[this];exact hy'
structure EG(p:Program)(i M n m:Nat)(w:World)(os:List Obj)(T₀ A:Nat){β:Type}(obs:Shared->β)(val:(Nat->Obj)->β):Prop where
 first:∃z ps,ED iF p w=some z/\(z.heap.isNs mainGlobals&&z.gens.size==0)=true/\z.heap.objs.size=28/\z.heap.nsMap mainGlobals "__annotations__"=iE /\
  ∀N r,topRun treeTable p w 28 iE N (fo os T₀) (restOf ((behindTheImports p).drop i) (nv p) (nA p) ps [topFrame q0])=some r->topRun treeTable p w 28 iE (A+N) z (topStub p)=some r
 size:os.length=n
 then_:∀(f:Nat->Obj) (T:Nat) (ps:Pos),(yA iF p i M n w os ((List.range m).map f) T ps).map obs=some (val f)
theorem zX{p:Program}{i N:Nat}{w:World}{ps:Pos}{sb:Shared}(k:k1 iF p i N w=wi iF p ps sb w):
 ∃z,ED iF p w=some z/\(z.heap.isNs mainGlobals&&z.gens.size==0)=true/\z.heap.objs.size=28/\z.heap.nsMap mainGlobals "__annotations__"=iE /\
 ∀K r,topRun treeTable p w 28 iE K sb (restOf ((behindTheImports p).drop i) (nv p) (nA p) ps [topFrame q0])=some r->topRun treeTable p w 28 iE (12+(1+(N+K))) z (topStub p)=some r:=by
 unfold k1 wi at k;simp only[Prod.mk.injEq]at k;obtain⟨a1,a2,a3,a4,a5,a6,a7⟩:=k;obtain⟨z,hz⟩:=Option.isSome_iff_exists.mp a1;have hs0:s0 iF p w=z:=by unfold s0;rw[hz]
 obtain⟨r5,h5,h5'⟩:=Option.map_eq_some_iff.mp a5;obtain⟨sa,ta⟩:=r5;dsimp only at h5';subst h5';have hsA:sA iF p w=sa:=by unfold sA;rw[h5]
 unfold Gv at a7;rw[hsA]at a6 a7;rw[hs0]at a2 a3 a4;unfold EE at h5;rw[hs0]at h5;refine⟨z,hz,a2,a3,a4,λK r h => ?_⟩;have c4:=piece_app (tb:=treeTable) (n:=N) a7 h;rw[List.take_append_drop]at c4;exact go_top h5 (piece_block (tb:=treeTable) (n:=1) a6 c4)
theorem zY {p:Program} {i k N:Nat} {w:World} {ps ps':Pos} {s s':Shared} (h:iG iF p i k N ps w s=some (.next,s',nA p,ps')) {K:Nat} {r:Shared}
 (t:topRun treeTable p w 28 iE K s' (restOf ((behindTheImports p).drop (i+k)) (nv p) (nA p) ps' [topFrame q0])=some r):
 topRun treeTable p w 28 iE (N+K) s (restOf ((behindTheImports p).drop i) (nv p) (nA p) ps [topFrame q0])=some r:=by
 unfold iG at h;rw[<-List.drop_drop]at t;have:=piece_app (tb:=treeTable) (n:=N) h t;rw[List.take_append_drop]at this;exact this
theorem EH {p:Program} {i M n m NN T₀ A:Nat} {w:World} {os:List Obj} {β:Type} {obs:Shared->β} {val:(Nat->Obj)->β} (H:EG p i M n m w os T₀ A obs val) {L:List (Int×Str)} {g:Shared->Prop}
 (hd:((behindTheImports p).drop i).head?.bind js=some (fN p i)) (hL:fE (fN p i).keys (fN p i).vals=some L) (hr:jW 0 L=true) (hlen:L.length=650) (hm:m=39) (hn:28<=n)
 {C:Nat} (hC:cD 633=C) (hN:2000<=NN/\A+((1+(1+C))+M)<=NN)
 (hg:∀(f:Nat->Obj) (s:Shared),obs s=val f->(∃es ep,cE es L/\f 0=dO es ep)->wk iF p w s=true/\g s):
 ∃s,openEnds treeTable p w NN=some s/\g s:=by
 obtain⟨⟨z,p7,hz,a2,a3,a4,ch⟩,a8,e2⟩:=H;have hs0:s0 iF p w=z:=by unfold s0;rw[hz]
 have hst:(behindTheImports p).drop i=(fN p i).stmt::qS p i:=by
  obtain⟨st,e,e'⟩:=Option.bind_eq_some_iff.mp hd;cases q:(behindTheImports p).drop i with
  |nil=>rw[q]at e;injections e
  |cons x l=>
   rw[q]at e;injections e;rw[uk e'];have:qS p i=l:=by
    unfold qS;rw[<-List.drop_drop,q];rfl
   rw[this]
 have hsz:(fo os T₀).heap.objs.size=n:=a8;obtain⟨es,ep,subs,T,hE,hsub,ps',hgo⟩:=zV (p:=p) (w:=w) (n₀:=28) (ann:=iE) (q:=q0) (s:=fo os T₀) (env:=nv p) (d:=fN p i) (rest:=qS p i) (c:=nA p) (ps:=p7) hL hr ⋯ ⋯
  (by rw[hlen];decide) (by rw[hsz];exact hn) (by rw[hsz];exact dy nofun hn)
 have hsl:(dO es ep::subs).length=m:=by
  rw[aP,hsub,hlen,hm];decide
 have e:=e2 (λj=>(dO es ep::subs).getD j default) T ps';rw[<-hsl,<-qz]at e;obtain⟨sf,hf,hv⟩:=Option.map_eq_some_iff.mp e;obtain⟨g1,g2⟩:=hg _ sf hv ⟨es,ep,hE,rfl⟩;refine⟨sf, ?_,g2⟩;unfold yA at hf;have c1:topRun treeTable p w 28 iE M { fo os T₀ with heap:=hp (fo os T₀).heap (dO es ep) subs,toks:=T } (hG (nv p) (fN p i) (qS p i) (.ref (fo os T₀).heap.objs.size) (nA p) ps' q0)=some sf:=by
  rw[hsz];have:hp (fo os T₀).heap (dO es ep) subs=⟨⟨os++(dO es ep::subs)⟩,{}⟩:=by
   unfold hp;rw[yB]
   rfl
  rw[this];exact hf
 rw[hlen,show 650-17=633 from rfl,hC]at hgo;have c2:=go_top hgo c1;have c3:topRun treeTable p w 28 iE (1+(1+C)+M) (fo os T₀) (restOf ((behindTheImports p).drop i) (nv p) (nA p) p7 [topFrame q0])=some sf:=by rw[hst];exact c2
 have c6:=ch _ _ c3;have c7:=topRun_mono (NN-(A+((1+(1+C))+M))) _ _ _ _ c6;rw[show A+(1+(1+C)+M)+(NN-(A+(1+(1+C)+M)))=NN by omega]at c7;have hopen:fencedOpening treeTable p w NN=some z:=qA hN.1 hz;unfold openEnds;rw[hopen];show topFrom treeTable p w NN z=some sf;unfold topFrom;rw[a2,a3,a4];dsimp only;rw[c7];show(match staticsOk (importedModules p.main.body) z.heap sf.heap&&namesBound p sf.heap&&gensDone sf&&laidKept z.heap sf.heap with|true=>some sf|false=>none)=some sf;unfold wk at g1;rw[hs0]at g1;rw[g1]
noncomputable def strip:Value->Value
 | .int i _ => .int i 0
 | .str s _ => .str s 0
 |v=>v
noncomputable def jX(sl:Array (Option Value)):Array (Option Value):=bif Nat.beq sl.toList.length 6 then⟨[sl.toList.getD 4 none]⟩else⟨[]⟩
noncomputable def hH:Obj->Obj
 |⟨c,d, .seq xs _,_⟩=>⟨c,d, .seq ⟨xs.toList.map strip⟩ 0, #[]⟩
 |⟨c,d, .fields xs,_⟩=>⟨c,d, .fields ⟨xs.toList.map strip⟩, #[]⟩
 |⟨c,d, .set es _ t,sl⟩=>⟨c,d, .set ⟨es.toList.map λe=>(e.1,strip e.2)⟩ 0 { t with led:=true },sl⟩
 |⟨c,d, .func f,_⟩=>⟨c,d, .func { f with pyModule := .none,doc := .none }, #[]⟩
 |⟨c,d, .cls k,sl⟩=>⟨c,d, .cls k,jX sl⟩
 |⟨c,d,dt,_⟩=>⟨c,d,dt, #[]⟩
noncomputable abbrev kK:=List (Str×Option Value)
structure sM where
 globals:kK
 builtins:kK
 statics:kK
 nss:List (Addr×kK)
 objs:List (Addr×Obj)
 codes:List (Addr×Str)
noncomputable abbrev Told:Type:=Bool×List (Option Value)×List (Option Value)×List (Option Value)×List (Bool×List (Option Value))×List (Option Obj)×List (Option Value)
noncomputable def uo(o:Obj):Option Value:=match o.data with
 | .fields vs=>(vs[1]?).map strip
 |_=>none
noncomputable def n7(h:Heap)(a:Addr)(l:kK):List (Option Value):=l.map λx=>(h.nsMap a x.1).map strip
noncomputable def lookup(A:sM)(h:Heap):Told:=
 (h.isNs mainGlobals&&h.isNs builtinsNs&&h.isNs cStatics,n7 h mainGlobals A.globals,n7 h builtinsNs A.builtins,n7 h cStatics A.statics,
  A.nss.map λa=>(h.isNs a.1,n7 h a.1 a.2),A.objs.map λa=>(h.get? a.1).map hH,A.codes.map λa=>(h.get? a.1).bind uo)
noncomputable def iI(A:sM):Told:=(true,A.globals.map (·.2),A.builtins.map (·.2),A.statics.map (·.2),A.nss.map λa=>(true,a.2.map (·.2)),A.objs.map λa=>some a.2,A.codes.map λa=>some (.str a.2 0))
noncomputable def n8{γ:Type}(F:Fn)(os:(q:Program)->(loose mods:List Str)->(Xt:Shared->Bool)->(g0:Bool)->Shared->γ)(p q:Program)(loose:List Str)(A:sM)(n:Nat)(w:World)(s:Shared):Bool×γ×Told×Option Obj:=
 (wk F p w s,os q loose (importedModules p.main.body) (λ_=>true) true s,lookup A s.heap,s.heap.objs[n]?)
noncomputable def zZ(p:Program):Program:={ p with main:={ p.main with body:=p.main.body.drop (p.main.body.length-1) } }
noncomputable def wf(b1 b2:Bool)(w:World):World:=(w.withFollow "set-order" b1).withFollow "special-get-raises" b2
noncomputable def iJ(h:Heap)(a:Addr)(l:kK):Prop:=∃m,h.Ns a m/\∀x∈l,(m x.1).map strip=x.2
structure eK(A:sM)(n:Nat)(L:List (Int×Str))(h:Heap):Prop where
 globals:iJ h mainGlobals A.globals
 builtins:iJ h builtinsNs A.builtins
 statics:iJ h cStatics A.statics
 nss:∀x∈A.nss,iJ h x.1 x.2
 objs:∀x∈A.objs,∃o,h.get? x.1=some o/\hH o=x.2
 codes:∀x∈A.codes,h.CodeRec (.ref x.1) x.2
 dict:∃es ep,h.get? n=some (dO es ep)/\cE es L
theorem qT{v:Value}{x:Str}(e:strip v = .str x 0):∃t,v = .str x t:=by
 induction v using Value.casesOn with
 |str s t=>exact⟨t,congrArg (Value.str · t) (Value.str.inj e).1⟩
 |_=>exact aa (congrArg (λv:Value=>Nat.beq v.ctorIdx 6) e)
theorem jY{v u:Value}(n:(Nat.beq u.ctorIdx 4||Nat.beq u.ctorIdx 6)=false)(e:strip v=u):v=u:=by
 induction v using Value.casesOn with
 |int i t=>subst e;exact aa n.symm
 |str s t=>subst e;exact aa n.symm
 |_=>exact e
theorem nC{h:Heap}{a:Addr}{x:Str}(e:(h.get? a).bind uo=some (.str x 0)):h.CodeRec (.ref a) x:=by
 obtain⟨o,h1,h2⟩:=Option.bind_eq_some_iff.mp e;obtain⟨cl,dd,dt,sl⟩:=o
 induction dt using Data.casesOn with
 |fields vs=>
  obtain⟨v,h3,h4⟩:=Option.map_eq_some_iff.mp (show(vs[1]?).map strip=_ from h2);obtain⟨t,rfl⟩:=qT h4;exact⟨a,_,vs,t,rfl,h1,rfl,h3⟩
 |_=>exact aD h2
theorem fF{α β:Type}{f g:α->β}:∀{l:List α},l.map f=l.map g->∀x∈l,f x=g x
 |a::l,h,x,hx=>by
  simp only[aC,List.cons.injEq]at h
  rcases bu hx with rfl|hx
  ·exact h.1
  ·exact fF h.2 x hx
theorem jt{h:Heap}{a:Addr}{l:kK}(x:h.isNs a=true)(e:n7 h a l=l.map (·.2)):iJ h a l:=⟨_, .of_isNs x,fF e⟩
theorem yC{A:sM}{n:Nat}{L:List (Int×Str)}{h:Heap}(e:lookup A h=iI A)(hd:∃es ep,h.get? n=some (dO es ep)/\cE es L):eK A n L h:=by
 unfold lookup iI at e;simp only[Prod.mk.injEq,aK]at e;obtain⟨⟨⟨e1,e2⟩,e3⟩,e4,e5,e6,e7,e8,e9⟩:=e;refine⟨jt e1 e4,jt e2 e5,jt e3 e6,λx hx => ?_,λx hx => ?_,λx hx=>nC (fF e9 x hx),hd⟩
 ·have:=fF e7 x hx
  simp only[Prod.mk.injEq]at this;exact jt this.1 this.2
 ·obtain⟨o,h1,h2⟩:=Option.map_eq_some_iff.mp (fF e8 x hx)
  exact⟨o,h1,h2⟩
theorem iJ.keeps{h h':Heap}{a:Addr}{l:kK}(x:iJ h a l)(k:∀b o,h.get? b=some o->h'.get? b=some o):iJ h' a l:=by
 obtain⟨m,⟨o,es,ep,ho,r⟩,hl⟩:=x;exact⟨m,⟨o,es,ep,k _ _ ho,r⟩,hl⟩
theorem eK.keeps{A:sM}{n:Nat}{L:List (Int×Str)}{h h':Heap}(x:eK A n L h)(k:∀b o,h.get? b=some o->h'.get? b=some o):eK A n L h':=
 ⟨x.globals.keeps k,x.builtins.keeps k,x.statics.keeps k,λy hy=>(x.nss y hy).keeps k,λy hy=>(x.objs y hy).imp λo h=>h.imp_left (k _ _),λy hy=>Exists.imp (λc h=>Exists.imp (λoc h=>Exists.imp (λvs h=>Exists.imp (λt h=>And.imp_right (And.imp_left (k _ _)) h) h) h) h) (x.codes y hy),x.dict.imp λes h=>h.imp λep h=>h.imp_left (k _ _)⟩
theorem Cw{n:Nat}{h:Heap}{o:Obj}{L:List (Int×Str)}(e:h.objs[n]? = some o)(hd:∃es ep,cE es L/\o=dO es ep):∃es ep,h.get? n=some (dO es ep)/\cE es L:=by
 obtain⟨es,ep,a,rfl⟩:=hd;exact⟨es,ep,lY e rfl,a⟩
theorem z0 {p q:Program} {i M n m NN T₀ A₀:Nat} {os:Params->List Obj} {loose:List Str} {A:sM} {L:List (Int×Str)}
 (H:∀w,EG p i M n m w (os w.params) T₀ A₀ (n8 iF openSeen p q loose A n w) λf=>(true,openGood q loose,iI A,some (f 0)))
 (hd:((behindTheImports p).drop i).head?.bind js=some (fN p i)) (hL:fE (fN p i).keys (fN p i).vals=some L) (hr:jW 0 L=true) (hlen:L.length=650) (hm:m=39) (hn:28<=n)
 {C:Nat} (hC:cD 633=C) (hN:2000<=NN/\A₀+((1+(1+C))+M)<=NN):
 LeftO p q loose (λ_=>true) (λs=>eK A n L s.heap) (λ_=>True) NN:=λw=>by
 obtain⟨s,e,h⟩:=EH (NN:=NN) (H w) (g:=λs=>openSeen q loose (importedModules p.main.body) (λ_=>true) true s=openGood q loose/\eK A n L s.heap) hd hL hr hlen hm hn hC hN (λf s hv hf=>by
  unfold n8 at hv;simp only[Prod.mk.injEq]at hv;obtain⟨v1,v2,v3,v4⟩:=hv;exact⟨v1,v2,yC v3 (Cw v4 (by obtain⟨es,ep,a,b⟩:=hf;exact⟨es,ep,a,b⟩))⟩)
 rw[e];show some (openSeen q loose (importedModules p.main.body) (λ_=>true) true s,eK A n L s.heap)=some (openGood q loose,True);rw[h.1];rw[show eK A n L s.heap=True from eq_true h.2]
noncomputable def fastSeen:=PySem.W.Fast.tw4187177175401517315
theorem yD:openSeen=fastSeen:=PySem.W.Fast.te4187177175401517315
set_option maxHeartbeats 2000000 in
theorem EI {l:OpenLaw} {q:Program} {loose:List Str} {A:sM} {n:Nat} {L:List (Int×Str)} {NN:Nat} {d:DefRec} {kwd:List (Str×Expr)} {f:Addr}
 (left:LeftO l.prog q loose (λ_=>true) (λs=>eK A n L s.heap) (λ_=>True) NN)
 (hmost:l.most=some 63) (hbound:l.bound=none) (hwrites:l.writes=false)
 (hdef:defOf q l.name=some (d,kwd)) (hp:l.prog.theDef l.name=some (d.params,d.body,d.scope)) (hk:kwWritten? d.params.kwonlyargs d.params.kw_defaults=some kwd)
 (ok2:(chainsOk q&&opensWell l.prog&&(frees l.row.toRowW&&l.row.within.isEmpty))=true) (hb:l.prog.bare) (hw:l.row.toRowW.promised)
 (hf:(d.name,some (.ref f))∈A.globals)
 (walk:∀(w:World) (s:Shared) (a:Addr) (vs:List Value) (ns:List Int),eK A n L s.heap->s.gens = #[]->s.heap.IsList a vs.toArray->IntsAre vs ns->(PyData.list (ns.map PyData.int)).layable0=true->ns.length<=63 ->
   wpAny (model l.prog w) callerA (call (.ref f) [.ref a]) (λv s'=>v = .bool true/\(∀b o,s.heap.get? b=some o->s'.heap.get? b=some o)/\s'.os=s.os/\s'.gens = #[]) (λ_ _=>False) s) (said:l.row.wellSaid=true):l.row.Holds:=by
 refine holds_open (r:=l.row) left (YP:=λ_ h=>eK A n L h) (λw s e=>of_eq_true e) (λw h h' x k=>x.keeps k) (XP:=λ_ _=>True) (λ_ _=>trivial) (λ_ _ _ _ _=>trivial)
  hdef hp hk (λs _=>recFacts_nil rfl) (by show(!l.writes||true)=true;simp) said ok2 hb hw ?_
 intro w s₀ s₁ mg mb G Y a o pm cd doc dV kV ho hd hcd hD hmg hg args vals as hpre hlay hrd hwl hlo
 wrow_args hpre hlay hrd hwl hlo
 rename_i ns _ _ hlay1 _ _ _ _ la vs _ hI ra _ r0 hi _ h1 h2;rw[hmost]at h1
 w_cond h1
 rename_i hlen;have haf:a=f:=by
  obtain⟨m,hm,hx⟩:=Y.globals;have e:=hx _ hf;have:mg d.name=m d.name:=by
   obtain⟨o1,es1,ep1,a1,a2,_,a3⟩:=G.T.g;obtain⟨o2,es2,ep2,b1,b2,_,b3⟩:=hm;rw[a1]at b1;cases b1;rw[a2]at b2;cases b2;rw[<-a3,<-b3]
  rw[<-this,hmg]at e;exact Value.ref.inj (bR e)
 subst haf;refine bK (walk w s₁ la vs ns Y hg hI hi hlay1 ⋯) (λv s' h => ?_) (λ_ _ h=>h.elim)
 ·obtain⟨rfl,k,ho',hg'⟩:=h
  refine GoodW.toG ⟨.inl ⟨.bool true, .bool true,[],rfl,λ_=>rfl,ReadsW.bool _, ?_,λ_=>⟨.nil,λ_ h=>nomatch h⟩⟩,k,ho',hg'⟩
  wrow_post
end
section
open PySem PySem.W PySem.Calls PyProof.Rows PySem.Challenge
noncomputable def Cp(p:Program)(P:Params):List Obj:=[
 ⟨.type "dict",none, .dict ⟨[dE P "__name__" 1 (.str "builtins" 160),dE P "__doc__" 2 (.builtin "builtins.__doc__:str#opaque"),dE P "__package__" 3 (.builtin "builtins.__package__:str#opaque"),dE P "__loader__" 4 (.builtin "builtins.__loader__:shared#opaque"),dE P "__spec__" 5 (.builtin "builtins.__spec__#opaque"),dE P "__build_class__" 6 (.builtin "__build_class__"),dE P "__import__" 7 (.builtin "__import__"),dE P "abs" 8 (.builtin "abs"),dE P "all" 9 (.builtin "all"),dE P "any" 10 (.builtin "any"),dE P "ascii" 11 (.builtin "ascii"),dE P "bin" 12 (.builtin "bin"),dE P "breakpoint" 13 (.builtin "breakpoint"),dE P "callable" 14 (.builtin "callable"),dE P "chr" 15 (.builtin "chr"),dE P "compile" 16 (.builtin "compile"),dE P "delattr" 17 (.builtin "delattr"),dE P "dir" 18 (.builtin "dir"),dE P "divmod" 19 (.builtin "divmod"),dE P "eval" 20 (.builtin "eval"),dE P "exec" 21 (.builtin "exec"),dE P "format" 22 (.builtin "format"),dE P "getattr" 23 (.builtin "getattr"),dE P "globals" 24 (.builtin "globals"),dE P "hasattr" 25 (.builtin "hasattr"),dE P "hash" 26 (.builtin "hash"),dE P "hex" 27 (.builtin "hex"),dE P "id" 28 (.builtin "id"),dE P "input" 29 (.builtin "input"),dE P "isinstance" 30 (.builtin "isinstance"),dE P "issubclass" 31 (.builtin "issubclass"),dE P "iter" 32 (.builtin "iter"),dE P "aiter" 33 (.builtin "aiter"),dE P "len" 34 (.builtin "len"),dE P "locals" 35 (.builtin "locals"),dE P "max" 36 (.builtin "max"),dE P "min" 37 (.builtin "min"),dE P "next" 38 (.builtin "next"),dE P "anext" 39 (.builtin "anext"),dE P "oct" 40 (.builtin "oct"),dE P "ord" 41 (.builtin "ord"),dE P "pow" 42 (.builtin "pow"),dE P "print" 43 (.builtin "print"),dE P "repr" 44 (.builtin "repr"),dE P "round" 45 (.builtin "round"),dE P "setattr" 46 (.builtin "setattr"),dE P "sorted" 47 (.builtin "sorted"),dE P "sum" 48 (.builtin "sum"),dE P "vars" 49 (.builtin "vars"),dE P "None" 50 .none,dE P "Ellipsis" 51 .ellipsis,dE P "NotImplemented" 52 .notImplemented,dE P "False" 53 (.bool false),dE P "True" 54 (.bool true),dE P "bool" 55 (.type "bool"),dE P "memoryview" 56 (.type "memoryview"),dE P "bytearray" 57 (.type "bytearray"),dE P "bytes" 58 (.type "bytes"),dE P "classmethod" 59 (.type "classmethod"),dE P "complex" 60 (.type "complex"),dE P "dict" 61 (.type "dict"),dE P "enumerate" 62 (.type "enumerate"),dE P "filter" 63 (.type "filter"),dE P "float" 64 (.type "float"),dE P "frozenset" 65 (.type "frozenset"),dE P "property" 66 (.type "property"),dE P "int" 67 (.type "int"),dE P "list" 68 (.type "list"),dE P "map" 69 (.type "map"),dE P "object" 70 (.type "object"),dE P "range" 71 (.type "range"),dE P "reversed" 72 (.type "reversed"),dE P "set" 73 (.type "set"),dE P "slice" 74 (.type "slice"),dE P "staticmethod" 75 (.type "staticmethod"),dE P "str" 76 (.type "str"),dE P "super" 77 (.type "super"),dE P "tuple" 78 (.type "tuple"),dE P "type" 79 (.type "type"),dE P "zip" 80 (.type "zip"),dE P "__debug__" 81 (.bool true),dE P "BaseException" 82 (.type "BaseException"),dE P "BaseExceptionGroup" 83 (.type "BaseExceptionGroup"),dE P "Exception" 84 (.type "Exception"),dE P "GeneratorExit" 85 (.type "GeneratorExit"),dE P "KeyboardInterrupt" 86 (.type "KeyboardInterrupt"),dE P "SystemExit" 87 (.type "SystemExit"),dE P "ArithmeticError" 88 (.type "ArithmeticError"),dE P "AssertionError" 89 (.type "AssertionError"),dE P "AttributeError" 90 (.type "AttributeError"),dE P "BufferError" 91 (.type "BufferError"),dE P "EOFError" 92 (.type "EOFError"),dE P "ImportError" 93 (.type "ImportError"),dE P "LookupError" 94 (.type "LookupError"),dE P "MemoryError" 95 (.type "MemoryError"),dE P "NameError" 96 (.type "NameError"),dE P "OSError" 97 (.type "OSError"),dE P "ReferenceError" 98 (.type "ReferenceError"),dE P "RuntimeError" 99 (.type "RuntimeError"),dE P "StopAsyncIteration" 100 (.type "StopAsyncIteration"),dE P "StopIteration" 101 (.type "StopIteration"),dE P "SyntaxError" 102 (.type "SyntaxError"),dE P "SystemError" 103 (.type "SystemError"),dE P "TypeError" 104 (.type "TypeError"),dE P "ValueError" 105 (.type "ValueError"),dE P "Warning" 106 (.type "Warning"),dE P "FloatingPointError" 107 (.type "FloatingPointError"),dE P "OverflowError" 108 (.type "OverflowError"),dE P "ZeroDivisionError" 109 (.type "ZeroDivisionError"),dE P "BytesWarning" 110 (.type "BytesWarning"),dE P "DeprecationWarning" 111 (.type "DeprecationWarning"),dE P "EncodingWarning" 112 (.type "EncodingWarning"),dE P "FutureWarning" 113 (.type "FutureWarning"),dE P "ImportWarning" 114 (.type "ImportWarning"),dE P "PendingDeprecationWarning" 115 (.type "PendingDeprecationWarning"),dE P "ResourceWarning" 116 (.type "ResourceWarning"),dE P "RuntimeWarning" 117 (.type "RuntimeWarning"),dE P "SyntaxWarning" 118 (.type "SyntaxWarning"),dE P "UnicodeWarning" 119 (.type "UnicodeWarning"),dE P "UserWarning" 120 (.type "UserWarning"),dE P "BlockingIOError" 121 (.type "BlockingIOError"),dE P "ChildProcessError" 122 (.type "ChildProcessError"),dE P "ConnectionError" 123 (.type "ConnectionError"),dE P "FileExistsError" 124 (.type "FileExistsError"),dE P "FileNotFoundError" 125 (.type "FileNotFoundError"),dE P "InterruptedError" 126 (.type "InterruptedError"),dE P "IsADirectoryError" 127 (.type "IsADirectoryError"),dE P "NotADirectoryError" 128 (.type "NotADirectoryError"),dE P "PermissionError" 129 (.type "PermissionError"),dE P "ProcessLookupError" 130 (.type "ProcessLookupError"),dE P "TimeoutError" 131 (.type "TimeoutError"),dE P "IndentationError" 132 (.type "IndentationError"),dE P "_IncompleteInputError" 133 (.type "_IncompleteInputError"),dE P "IndexError" 134 (.type "IndexError"),dE P "KeyError" 135 (.type "KeyError"),dE P "ModuleNotFoundError" 136 (.type "ModuleNotFoundError"),dE P "NotImplementedError" 137 (.type "NotImplementedError"),dE P "PythonFinalizationError" 138 (.type "PythonFinalizationError"),dE P "RecursionError" 139 (.type "RecursionError"),dE P "UnboundLocalError" 140 (.type "UnboundLocalError"),dE P "UnicodeError" 141 (.type "UnicodeError"),dE P "BrokenPipeError" 142 (.type "BrokenPipeError"),dE P "ConnectionAbortedError" 143 (.type "ConnectionAbortedError"),dE P "ConnectionRefusedError" 144 (.type "ConnectionRefusedError"),dE P "ConnectionResetError" 145 (.type "ConnectionResetError"),dE P "TabError" 146 (.type "TabError"),dE P "UnicodeDecodeError" 147 (.type "UnicodeDecodeError"),dE P "UnicodeEncodeError" 148 (.type "UnicodeEncodeError"),dE P "UnicodeTranslateError" 149 (.type "UnicodeTranslateError"),dE P "ExceptionGroup" 150 (.type "ExceptionGroup"),dE P "EnvironmentError" 151 (.type "OSError"),dE P "IOError" 152 (.type "OSError"),dE P "open" 153 (.builtin "open"),dE P "quit" 154 (.builtin "builtins.quit#opaque"),dE P "exit" 155 (.builtin "builtins.exit#opaque"),dE P "copyright" 156 (.builtin "builtins.copyright#opaque"),dE P "credits" 157 (.builtin "builtins.credits#opaque"),dE P "license" 158 (.builtin "builtins.license#opaque"),dE P "help" 159 (.builtin "builtins.help#opaque")]⟩ 159,⟨[]⟩⟩,
 ⟨.type "dict",none, .dict ⟨[dE P "builtins" 162 (.ref 4),dE P "__main__" 163 (.ref 5),dE P "_sre" 244 (.ref 12)]⟩ 3,⟨[]⟩⟩,
 ⟨.none,none, .dict ⟨[dE P "\x69mport.loaded._sre" 183 (.bool true),dE P "class._frozen_importlib.BuiltinImporter" 185 (.ref 14),dE P "watched.\x69mport" 206 (.ref 18),dE P "class._frozen_importlib.ModuleSpec" 216 (.ref 22),dE P "sys.modules.booked-epoch" 245 (.int 3 0),dE P "\x69mport.later-laid._sre" 270 (.bool true),dE P "watched.library" 272 (.ref 27),dE P "watched.library-objects" 0 (.str (⟨⟨[12]⟩⟩:Str) 0),dE P "watched.library-deep._sre" 273 (.str (⟨⟨[4,0,0,11,4,0,0,11,4,0,0,3,4,0,0,11,8,4,100,105,99,116,2]⟩⟩:Str) 0)]⟩ 9,⟨[]⟩⟩,
 ⟨.type "dict",none, .dict ⟨[dE P "__name__" 165 (.str "cpy313.stringprep" 289),dE P "__doc__" 166 .none,dE P "__package__" 167 .none,dE P "__loader__" 168 (.builtin "__main__.__loader__#opaque"),dE P "__spec__" 169 .none,dE P "__annotations__" 170 (.ref 6),dE P "__builtins__" 171 (.ref 4),dE P "__file__" 173 (.str "/claim/cut.py" 172),dE P "__cached__" 174 .none,dE P "_sre" 275 (.ref 12),dE P "_wall" 288 (.ref 38)]⟩ 11,⟨[]⟩⟩,
 ⟨.type "module",(some 0), .plain,⟨[]⟩⟩,
 ⟨.type "module",(some 3), .plain,⟨[]⟩⟩,
 ⟨.type "dict",none, .dict ⟨[]⟩ 0,⟨[]⟩⟩,
 ⟨.type "tuple",none, .seq ⟨[]⟩ 0,⟨[]⟩⟩,
 ⟨.none,none, .fields ⟨[]⟩,⟨[]⟩⟩,
 ⟨.type "code",none, .fields ⟨[.str "<module>" 176, .str "<module>" 177, .str "/claim/cut.py" 178, .int 1 0, .int 0 0, .int 0 0, .int 0 0, .int 0 0, .ref 7, .bool false, .int 175 0, .ref 8, .none, .none, .none, .none, .int 179 0, .int 1 0, .str "/claim/cut.py" 180]⟩,⟨[]⟩⟩,
 ⟨.type "frame",none, .plain,⟨[some (.ref 9),some (.ref 3),some (.ref 3),none,some (.str "__main__" 164),none,some (.ref 0)]⟩⟩,
 ⟨.type "dict",none, .dict ⟨[dE P "__name__" 247 (.str "_sre" 246),dE P "__doc__" 248 .none,dE P "__package__" 250 (.str "" 249),dE P "__loader__" 251 (.builtin "off-the-table:_sre.__loader__:shared#opaque"),dE P "__spec__" 252 (.builtin "off-the-table:_sre.__spec__:shared#opaque"),dE P "compile" 253 (.builtin "_sre.compile"),dE P "template" 254 (.builtin "off-the-table:_sre.template:shared#opaque"),dE P "getcodesize" 255 (.builtin "off-the-table:_sre.getcodesize:shared#opaque"),dE P "ascii_iscased" 256 (.builtin "off-the-table:_sre.ascii_iscased:shared#opaque"),dE P "unicode_iscased" 257 (.builtin "off-the-table:_sre.unicode_iscased:shared#opaque"),dE P "ascii_tolower" 258 (.builtin "off-the-table:_sre.ascii_tolower:shared#opaque"),dE P "unicode_tolower" 259 (.builtin "off-the-table:_sre.unicode_tolower:shared#opaque"),dE P "MAGIC" 261 (.int 20230612 260),dE P "CODESIZE" 263 (.int 4 262),dE P "MAXREPEAT" 265 (.int 4294967295 264),dE P "MAXGROUPS" 267 (.int 1073741823 266),dE P "copyright" 269 (.str " SRE 2.2.2 Copyright (c) 1997-2002 by Secret Labs AB " 268)]⟩ 17,⟨[]⟩⟩,
 ⟨.type "module",(some 11), .plain,⟨[]⟩⟩,
 ⟨.type "dict",none, .dict ⟨[dE P "__module__" 189 (.str "_frozen_importlib" 186),dE P "__firstlineno__" 190 (.int 971 187),dE P "__doc__" 191 (.builtin "_frozen_importlib.BuiltinImporter.__doc__:str#opaque"),dE P "_ORIGIN" 192 (.str "built-in" 188),dE P "find_spec" 193 (.builtin "_frozen_importlib.BuiltinImporter.find_spec#opaque"),dE P "create_module" 194 (.builtin "_frozen_importlib.BuiltinImporter.create_module#opaque"),dE P "exec_module" 195 (.builtin "_frozen_importlib.BuiltinImporter.exec_module#opaque"),dE P "get_code" 196 (.builtin "_frozen_importlib.BuiltinImporter.get_code#opaque"),dE P "get_source" 197 (.builtin "_frozen_importlib.BuiltinImporter.get_source#opaque"),dE P "is_package" 198 (.builtin "_frozen_importlib.BuiltinImporter.is_package#opaque"),dE P "load_module" 199 (.builtin "_frozen_importlib.BuiltinImporter.load_module#opaque"),dE P "__static_attributes__" 200 (.ref 15),dE P "__dict__" 202 (.ref 16),dE P "__weakref__" 204 (.ref 17)]⟩ 14,⟨[]⟩⟩,
 ⟨.type "type",none, .cls { name:="BuiltinImporter",bases:=[.type "object"],mro:=[.ref 14, .type "object"],ns:=13,qualname:="BuiltinImporter",hasDict:=true,slotNames:=[],subclasses:=[],abstract:=false,collection:=none,hasDel:=false },⟨[]⟩⟩,
 ⟨.type "tuple",none, .seq ⟨[]⟩ 0,⟨[]⟩⟩,
 ⟨.type "getset_descriptor",none, .fields ⟨[.str "__dict__" 201, .ref 14, .builtin "function.__dict__", .builtin "function.__dict__#set"]⟩,⟨[]⟩⟩,
 ⟨.type "getset_descriptor",none, .fields ⟨[.str "__weakref__" 203, .ref 14, .builtin "ExceptionGroup.__weakref__", .none]⟩,⟨[]⟩⟩,
 ⟨.none,none, .seq ⟨[.int 13 0, .str (⟨⟨[6,189,10,95,95,109,111,100,117,108,101,95,95,6,186,17,95,102,114,111,122,101,110,95,105,109,112,111,114,116,108,105,98,6,190,15,95,95,102,105,114,115,116,108,105,110,101,110,111,95,95,4,187,0,971,6,191,7,95,95,100,111,99,95,95,9,52,95,102,114,111,122,101,110,95,105,109,112,111,114,116,108,105,98,46,66,117,105,108,116,105,110,73,109,112,111,114,116,101,114,46,95,95,100,111,99,95,95,58,115,116,114,35,111,112,97,113,117,101,6,192,7,95,79,82,73,71,73,78,6,188,8,98,117,105,108,116,45,105,110,6,193,9,102,105,110,100,95,115,112,101,99,9,50,95,102,114,111,122,101,110,95,105,109,112,111,114,116,108,105,98,46,66,117,105,108,116,105,110,73,109,112,111,114,116,101,114,46,102,105,110,100,95,115,112,101,99,35,111,112,97,113,117,101,6,194,13,99,114,101,97,116,101,95,109,111,100,117,108,101,9,54,95,102,114,111,122,101,110,95,105,109,112,111,114,116,108,105,98,46,66,117,105,108,116,105,110,73,109,112,111,114,116,101,114,46,99,114,101,97,116,101,95,109,111,100,117,108,101,35,111,112,97,113,117,101,6,195,11,101,120,101,99,95,109,111,100,117,108,101,9,52,95,102,114,111,122,101,110,95,105,109,112,111,114,116,108,105,98,46,66,117,105,108,116,105,110,73,109,112,111,114,116,101,114,46,101,120,101,99,95,109,111,100,117,108,101,35,111,112,97,113,117,101,6,196,8,103,101,116,95,99,111,100,101,9,49,95,102,114,111,122,101,110,95,105,109,112,111,114,116,108,105,98,46,66,117,105,108,116,105,110,73,109,112,111,114,116,101,114,46,103,101,116,95,99,111,100,101,35,111,112,97,113,117,101,6,197,10,103,101,116,95,115,111,117,114,99,101,9,51,95,102,114,111,122,101,110,95,105,109,112,111,114,116,108,105,98,46,66,117,105,108,116,105,110,73,109,112,111,114,116,101,114,46,103,101,116,95,115,111,117,114,99,101,35,111,112,97,113,117,101,6,198,10,105,115,95,112,97,99,107,97,103,101,9,51,95,102,114,111,122,101,110,95,105,109,112,111,114,116,108,105,98,46,66,117,105,108,116,105,110,73,109,112,111,114,116,101,114,46,105,115,95,112,97,99,107,97,103,101,35,111,112,97,113,117,101,6,199,11,108,111,97,100,95,109,111,100,117,108,101,9,52,95,102,114,111,122,101,110,95,105,109,112,111,114,116,108,105,98,46,66,117,105,108,116,105,110,73,109,112,111,114,116,101,114,46,108,111,97,100,95,109,111,100,117,108,101,35,111,112,97,113,117,101,6,200,21,95,95,115,116,97,116,105,99,95,97,116,116,114,105,98,117,116,101,115,95,95,4,0,0,15,6,202,8,95,95,100,105,99,116,95,95,4,0,0,16,6,204,11,95,95,119,101,97,107,114,101,102,95,95,4,0,0,17]⟩⟩:Str) 0, .bool true, .bool true, .str "" 205, .int 21 0, .str (⟨⟨[6,227,10,95,95,109,111,100,117,108,101,95,95,6,217,17,95,102,114,111,122,101,110,95,105,109,112,111,114,116,108,105,98,6,228,15,95,95,102,105,114,115,116,108,105,110,101,110,111,95,95,4,218,0,562,6,229,7,95,95,100,111,99,95,95,9,47,95,102,114,111,122,101,110,95,105,109,112,111,114,116,108,105,98,46,77,111,100,117,108,101,83,112,101,99,46,95,95,100,111,99,95,95,58,115,116,114,35,111,112,97,113,117,101,6,230,8,95,95,105,110,105,116,95,95,9,44,95,102,114,111,122,101,110,95,105,109,112,111,114,116,108,105,98,46,77,111,100,117,108,101,83,112,101,99,46,95,95,105,110,105,116,95,95,35,111,112,97,113,117,101,6,231,8,95,95,114,101,112,114,95,95,9,44,95,102,114,111,122,101,110,95,105,109,112,111,114,116,108,105,98,46,77,111,100,117,108,101,83,112,101,99,46,95,95,114,101,112,114,95,95,35,111,112,97,113,117,101,6,232,6,95,95,101,113,95,95,9,42,95,102,114,111,122,101,110,95,105,109,112,111,114,116,108,105,98,46,77,111,100,117,108,101,83,112,101,99,46,95,95,101,113,95,95,35,111,112,97,113,117,101,6,233,6,99,97,99,104,101,100,9,42,95,102,114,111,122,101,110,95,105,109,112,111,114,116,108,105,98,46,77,111,100,117,108,101,83,112,101,99,46,99,97,99,104,101,100,35,111,112,97,113,117,101,6,234,6,112,97,114,101,110,116,9,42,95,102,114,111,122,101,110,95,105,109,112,111,114,116,108,105,98,46,77,111,100,117,108,101,83,112,101,99,46,112,97,114,101,110,116,35,111,112,97,113,117,101,6,235,12,104,97,115,95,108,111,99,97,116,105,111,110,9,48,95,102,114,111,122,101,110,95,105,109,112,111,114,116,108,105,98,46,77,111,100,117,108,101,83,112,101,99,46,104,97,115,95,108,111,99,97,116,105,111,110,35,111,112,97,113,117,101,6,236,21,95,95,115,116,97,116,105,99,95,97,116,116,114,105,98,117,116,101,115,95,95,4,0,0,23,6,238,8,95,95,100,105,99,116,95,95,4,0,0,24,6,240,11,95,95,119,101,97,107,114,101,102,95,95,4,0,0,25,6,241,8,95,95,104,97,115,104,95,95,0]⟩⟩:Str) 0, .bool true, .bool true, .str "" 242]⟩ 1,⟨[]⟩⟩,
 ⟨.type "list",none, .seq ⟨[]⟩ 0,⟨[]⟩⟩,
 ⟨.type "dict",none, .dict ⟨[dE P "name" 208 (.str "_sre" 207),dE P "loader" 209 (.ref 14),dE P "origin" 210 (.str "built-in" 184),dE P "loader_state" 211 .none,dE P "submodule_search_locations" 212 .none,dE P "_uninitialized_submodules" 213 (.ref 19),dE P "_set_fileattr" 214 (.bool false),dE P "_cached" 215 .none,dE P "_initializing" 243 (.bool false)]⟩ 9,⟨[]⟩⟩,
 ⟨.type "dict",none, .dict ⟨[dE P "__module__" 227 (.str "_frozen_importlib" 217),dE P "__firstlineno__" 228 (.int 562 218),dE P "__doc__" 229 (.builtin "_frozen_importlib.ModuleSpec.__doc__:str#opaque"),dE P "__init__" 230 (.builtin "_frozen_importlib.ModuleSpec.__init__#opaque"),dE P "__repr__" 231 (.builtin "_frozen_importlib.ModuleSpec.__repr__#opaque"),dE P "__eq__" 232 (.builtin "_frozen_importlib.ModuleSpec.__eq__#opaque"),dE P "cached" 233 (.builtin "_frozen_importlib.ModuleSpec.cached#opaque"),dE P "parent" 234 (.builtin "_frozen_importlib.ModuleSpec.parent#opaque"),dE P "has_location" 235 (.builtin "_frozen_importlib.ModuleSpec.has_location#opaque"),dE P "__static_attributes__" 236 (.ref 23),dE P "__dict__" 238 (.ref 24),dE P "__weakref__" 240 (.ref 25),dE P "__hash__" 241 .none]⟩ 13,⟨[]⟩⟩,
 ⟨.type "type",none, .cls { name:="ModuleSpec",bases:=[.type "object"],mro:=[.ref 22, .type "object"],ns:=21,qualname:="ModuleSpec",hasDict:=true,slotNames:=[],subclasses:=[],abstract:=false,collection:=none,hasDel:=false },⟨[]⟩⟩,
 ⟨.type "tuple",none, .seq ⟨[.str "_cached" 219, .str "_set_fileattr" 220, .str "_uninitialized_submodules" 221, .str "loader" 222, .str "loader_state" 223, .str "name" 224, .str "origin" 225, .str "submodule_search_locations" 226]⟩ 0,⟨[]⟩⟩,
 ⟨.type "getset_descriptor",none, .fields ⟨[.str "__dict__" 237, .ref 22, .builtin "function.__dict__", .builtin "function.__dict__#set"]⟩,⟨[]⟩⟩,
 ⟨.type "getset_descriptor",none, .fields ⟨[.str "__weakref__" 239, .ref 22, .builtin "ExceptionGroup.__weakref__", .none]⟩,⟨[]⟩⟩,
 ⟨.ref 22,(some 20), .plain,⟨[]⟩⟩,
 ⟨.none,none, .seq ⟨[.int 11 0, .str (⟨⟨[6,247,8,95,95,110,97,109,101,95,95,6,246,4,95,115,114,101,6,248,7,95,95,100,111,99,95,95,0,6,250,11,95,95,112,97,99,107,97,103,101,95,95,6,249,0,6,251,10,95,95,108,111,97,100,101,114,95,95,4,0,0,14,6,252,8,95,95,115,112,101,99,95,95,4,0,0,26,6,253,7,99,111,109,112,105,108,101,9,12,95,115,114,101,46,99,111,109,112,105,108,101,6,254,8,116,101,109,112,108,97,116,101,9,13,95,115,114,101,46,116,101,109,112,108,97,116,101,6,255,11,103,101,116,99,111,100,101,115,105,122,101,9,16,95,115,114,101,46,103,101,116,99,111,100,101,115,105,122,101,6,256,13,97,115,99,105,105,95,105,115,99,97,115,101,100,9,18,95,115,114,101,46,97,115,99,105,105,95,105,115,99,97,115,101,100,6,257,15,117,110,105,99,111,100,101,95,105,115,99,97,115,101,100,9,20,95,115,114,101,46,117,110,105,99,111,100,101,95,105,115,99,97,115,101,100,6,258,13,97,115,99,105,105,95,116,111,108,111,119,101,114,9,18,95,115,114,101,46,97,115,99,105,105,95,116,111,108,111,119,101,114,6,259,15,117,110,105,99,111,100,101,95,116,111,108,111,119,101,114,9,20,95,115,114,101,46,117,110,105,99,111,100,101,95,116,111,108,111,119,101,114,6,261,5,77,65,71,73,67,4,260,0,20230612,6,263,8,67,79,68,69,83,73,90,69,4,262,0,4,6,265,9,77,65,88,82,69,80,69,65,84,4,264,0,4294967295,6,267,9,77,65,88,71,82,79,85,80,83,4,266,0,1073741823,6,269,9,99,111,112,121,114,105,103,104,116,6,268,53,32,83,82,69,32,50,46,50,46,50,32,67,111,112,121,114,105,103,104,116,32,40,99,41,32,49,57,57,55,45,50,48,48,50,32,98,121,32,83,101,99,114,101,116,32,76,97,98,115,32,65,66,32]⟩⟩:Str) 0, .bool true, .bool false, .str "_sre" 271]⟩ 0,⟨[]⟩⟩,
 ⟨.type "tuple",none, .seq ⟨[]⟩ 0,⟨[]⟩⟩,
 ⟨.none,none, .fields ⟨[.int 2 0, .int 0 0, .ref 37]⟩,⟨[]⟩⟩,
 ⟨.type "code",none, .fields ⟨[.str "<module>" 277, .str "<module>" 278, .str "/claim/cut.py" 279, .int 1 0, .int 0 0, .int 0 0, .int 0 0, .int 0 0, .ref 28, .bool false, .int 276 0, .ref 29, .none, .none, .none, .none, .int 280 0, .int 1 0, .str "/claim/cut.py" 281]⟩,⟨[]⟩⟩,
 ⟨.type "frame",none, .plain,⟨[some (.ref 30),some (.ref 3),some (.ref 3),none,some (.str "__main__" 164),none,some (.ref 0)]⟩⟩,
 ⟨.type "tuple",none, .seq ⟨[]⟩ 0,⟨[]⟩⟩,
 ⟨.none,none, .fields ⟨[]⟩,⟨[]⟩⟩,
 ⟨.type "tuple",none, .seq ⟨[.str "k" 285]⟩ 0,⟨[]⟩⟩,
 ⟨.type "tuple",none, .seq ⟨[]⟩ 0,⟨[]⟩⟩,
 ⟨.none,none, .func (fD (b0 p 1) "_wall" 0 .none .none 0),⟨[]⟩⟩,
 ⟨.type "code",none, .fields ⟨[.str "_wall" 282, .str "_wall" 283, .str "/claim/cut.py" 284, .int 2 0, .int 1 0, .int 0 0, .int 0 0, .int 3 0, .ref 32, .bool true, .int 276 0, .ref 33, .none, .ref 34, .ref 35, .ref 36, .int 286 0, .int 2 0, .str "/claim/cut.py" 287]⟩,⟨[]⟩⟩,
 ⟨.type "function",none, .func (fD (b0 p 1) "_wall" 3 (.str "__main__" 164) (.ref 37) 0),⟨[]⟩⟩]
noncomputable def Cq(p:Program)(P:Params):List Obj:=((Cp p P).set 3 (⟨.type "dict",none, .dict ⟨[dE P "__name__" 165 (.str "cpy313.stringprep" 289),dE P "__doc__" 166 .none,dE P "__package__" 167 .none,dE P "__loader__" 168 (.builtin "__main__.__loader__#opaque"),dE P "__spec__" 169 .none,dE P "__annotations__" 170 (.ref 6),dE P "__builtins__" 171 (.ref 4),dE P "__file__" 173 (.str "/claim/cut.py" 172),dE P "__cached__" 174 .none,dE P "_sre" 275 (.ref 12),dE P "_wall" 288 (.ref 38),dE P "b1_set" 350 (.ref 46)]⟩ 12,⟨[]⟩⟩))++[
 ⟨.type "list",none, .seq ⟨[.int 173 291, .int 847 292, .int 6150 293, .int 6155 294, .int 6156 295, .int 6157 296, .int 8203 297, .int 8204 298, .int 8205 299, .int 8288 300, .int 65279 301]⟩ 0,⟨[]⟩⟩,
 ⟨.type "range",none, .fields ⟨[.int 65024 302, .int 65040 303, .int 1 304]⟩,⟨[]⟩⟩,
 ⟨.type "list",none, .seq ⟨[.int 65024 307, .int 65025 308, .int 65026 309, .int 65027 310, .int 65028 311, .int 65029 312, .int 65030 313, .int 65031 314, .int 65032 315, .int 65033 316, .int 65034 317, .int 65035 318, .int 65036 319, .int 65037 320, .int 65038 321, .int 65039 322]⟩ 18,⟨[]⟩⟩,
 ⟨.type "range_iterator",none, .fields ⟨[.int 65040 0, .int 0 0, .int 1 0]⟩,⟨[]⟩⟩,
 ⟨.type "tuple",none, .seq ⟨[]⟩ 0,⟨[]⟩⟩,
 ⟨.type "StopIteration",none, .fields ⟨[.ref 43, .none, .none, .none, .bool false, .none]⟩,⟨[]⟩⟩,
 ⟨.type "list",none, .seq ⟨[.int 173 291, .int 847 292, .int 6150 293, .int 6155 294, .int 6156 295, .int 6157 296, .int 8203 297, .int 8204 298, .int 8205 299, .int 8288 300, .int 65279 301, .int 65024 307, .int 65025 308, .int 65026 309, .int 65027 310, .int 65028 311, .int 65029 312, .int 65030 313, .int 65031 314, .int 65032 315, .int 65033 316, .int 65034 317, .int 65035 318, .int 65036 319, .int 65037 320, .int 65038 321, .int 65039 322]⟩ 0,⟨[]⟩⟩,
 ⟨.type "set",none, .set ⟨[(65024, .int 65024 307),(65025, .int 65025 308),(65026, .int 65026 309),(65027, .int 65027 310),(65028, .int 65028 311),(65029, .int 65029 312),(6150, .int 6150 293),(65030, .int 65030 313),(65031, .int 65031 314),(65032, .int 65032 315),(65033, .int 65033 316),(6155, .int 6155 294),(6156, .int 6156 295),(6157, .int 6157 296),(8203, .int 8203 297),(8204, .int 8204 298),(8205, .int 8205 299),(65034, .int 65034 317),(65035, .int 65035 318),(65036, .int 65036 319),(65037, .int 65037 320),(65038, .int 65038 321),(65039, .int 65039 322),(173, .int 173 291),(847, .int 847 292),(8288, .int 8288 300),(65279, .int 65279 301)]⟩ 29 { mask:=127,place:=⟨[0,1,2,3,4,5,6,7,8,9,10,11,12,13,14,15,16,17,18,19,20,21,22,45,79,96,127]⟩,dummies:=⟨[]⟩,finger:=0,led := !(P.followText "set-order"),moves:=2,plain:=true },⟨[]⟩⟩,
 ⟨.type "list_iterator",none, .fields ⟨[.none, .int 27 0]⟩,⟨[]⟩⟩,
 ⟨.type "tuple",none, .seq ⟨[]⟩ 0,⟨[]⟩⟩,
 ⟨.type "StopIteration",none, .fields ⟨[.ref 48, .none, .none, .none, .bool false, .none]⟩,⟨[]⟩⟩]
noncomputable def Gl(p:Program)(P:Params):List Obj:=(((Cq p P).set 3 (⟨.type "dict",none, .dict ⟨[dE P "__name__" 165 (.str "cpy313.stringprep" 289),dE P "__doc__" 166 .none,dE P "__package__" 167 .none,dE P "__loader__" 168 (.builtin "__main__.__loader__#opaque"),dE P "__spec__" 169 .none,dE P "__annotations__" 170 (.ref 6),dE P "__builtins__" 171 (.ref 4),dE P "__file__" 173 (.str "/claim/cut.py" 172),dE P "__cached__" 174 .none,dE P "_sre" 275 (.ref 12),dE P "_wall" 288 (.ref 38),dE P "b1_set" 350 (.ref 46),dE P "in_table_b1" 357 (.ref 56)]⟩ 13,⟨[]⟩⟩)).set 29 (⟨.none,none, .fields ⟨[.int 2 0, .int 0 0, .ref 37, .int 7 0, .int 0 0, .ref 55]⟩,⟨[]⟩⟩))++[
 ⟨.type "tuple",none, .seq ⟨[]⟩ 0,⟨[]⟩⟩,
 ⟨.none,none, .fields ⟨[]⟩,⟨[]⟩⟩,
 ⟨.type "tuple",none, .seq ⟨[.str "code" 354]⟩ 0,⟨[]⟩⟩,
 ⟨.type "tuple",none, .seq ⟨[]⟩ 0,⟨[]⟩⟩,
 ⟨.none,none, .func (fD (b0 p 4) "in_table_b1" 0 .none .none 0),⟨[]⟩⟩,
 ⟨.type "code",none, .fields ⟨[.str "in_table_b1" 351, .str "in_table_b1" 352, .str "/claim/cut.py" 353, .int 7 0, .int 1 0, .int 0 0, .int 0 0, .int 3 0, .ref 50, .bool true, .int 276 0, .ref 51, .none, .ref 52, .ref 53, .ref 54, .int 355 0, .int 7 0, .str "/claim/cut.py" 356]⟩,⟨[]⟩⟩,
 ⟨.type "function",none, .func (fD (b0 p 4) "in_table_b1" 3 (.str "cpy313.stringprep" 289) (.ref 55) 0),⟨[]⟩⟩]
noncomputable def gO(p:Program):sM where
 globals:=[
  (Str.ofString "_sre",some (.ref 12)),
  (Str.ofString "_wall",some (.ref 38)),
  (Str.ofString "b1_set",some (.ref 46)),
  (Str.ofString "in_table_b1",some (.ref 56)),
  (Str.ofString "b3_exceptions",some (.ref 57)),
  (Str.ofString "map_table_b3",some (.ref 102)),
  (Str.ofString "_twin_re_1",some (.ref 107)),
  (Str.ofString "_twin_re_2",some (.ref 112)),
  (Str.ofString "CRLF",some (.str (⟨⟨[13,10]⟩⟩:Str) 0)),
  (Str.ofString "quotedata",some (.ref 119)),
  (Str.ofString "Whitespace",some (.ref 181)),
  (Str.ofString "_MAX_STRING_SIZE",some (.int 40 0)),
  (Str.ofString "_MOVE_COST",some (.int 2 0)),
  (Str.ofString "_CASE_COST",some (.int 1 0)),
  (Str.ofString "_substitution_cost",some (.ref 192)),
  (Str.ofString "_levenshtein_distance",some (.ref 199)),
  (Str.ofString "_law_row",some (.ref 206)),
  (Str.ofString "_law_done",some (.ref 211)),
  (Str.ofString "_law_stands",some (.ref 218)),
  (Str.ofString "_law_told",some (.ref 223)),
  (Str.ofString "law",some (.ref 228)),
  (Str.ofString "len",none),
  (Str.ofString "ord",none),
  (Str.ofString "chr",none),
  (Str.ofString "min",none),
  (Str.ofString "max",none),
  (Str.ofString "sum",none),
  (Str.ofString "all",none),
  (Str.ofString "range",none),
  (Str.ofString "list",none),
  (Str.ofString "tuple",none),
  (Str.ofString "sorted",none),
  (Str.ofString "enumerate",none),
  (Str.ofString "zip",none),
  (Str.ofString "set",none)]
 builtins:=[
  (Str.ofString "len",some (.builtin "len")),
  (Str.ofString "ord",some (.builtin "ord")),
  (Str.ofString "chr",some (.builtin "chr")),
  (Str.ofString "min",some (.builtin "min")),
  (Str.ofString "max",some (.builtin "max")),
  (Str.ofString "sum",some (.builtin "sum")),
  (Str.ofString "all",some (.builtin "all")),
  (Str.ofString "range",some (.type "range")),
  (Str.ofString "list",some (.type "list")),
  (Str.ofString "tuple",some (.type "tuple")),
  (Str.ofString "sorted",some (.builtin "sorted")),
  (Str.ofString "enumerate",some (.type "enumerate")),
  (Str.ofString "zip",some (.type "zip")),
  (Str.ofString "set",some (.type "set"))]
 statics:=[(Str.ofString "sys.recursionlimit",none),(Str.ofString "thirdparty.any",none)]
 nss:=[(180,[
  (Str.ofString "__module__",some (.str "cpy313.tabnanny" 0)),
  (Str.ofString "__firstlineno__",some (.int 22 0)),
  (Str.ofString "S",some (.str " " 0)),
  (Str.ofString "T",some (.str (⟨⟨[9]⟩⟩:Str) 0)),
  (Str.ofString "__init__",some (.ref 136)),
  (Str.ofString "longest_run_of_spaces",some (.ref 143)),
  (Str.ofString "indent_level",some (.ref 150)),
  (Str.ofString "equal",some (.ref 157)),
  (Str.ofString "not_equal_witness",some (.ref 164)),
  (Str.ofString "less",some (.ref 171)),
  (Str.ofString "not_less_witness",some (.ref 178)),
  (Str.ofString "__static_attributes__",some (.ref 179)),
  (Str.ofString "__dict__",some (.ref 182)),
  (Str.ofString "__weakref__",some (.ref 183)),
  (Str.ofString "__doc__",some .none),
  (Str.ofString "__getattribute__",none),
  (Str.ofString "__getattr__",none),
  (Str.ofString "__setattr__",none),
  (Str.ofString "__delattr__",none),
  (Str.ofString "__new__",none),
  (Str.ofString "__call__",none),
  (Str.ofString "__hash__",none),
  (Str.ofString "__eq__",none),
  (Str.ofString "__bool__",none),
  (Str.ofString "__len__",none),
  (Str.ofString "raw",none),
  (Str.ofString "n",none),
  (Str.ofString "nt",none),
  (Str.ofString "norm",none),
  (Str.ofString "is_simple",none)])]
 objs:=[
  (38,⟨.type "function",none, .func (fD (b0 p 1) "_wall" 3 .none (.ref 37) 0),⟨[]⟩⟩),
  (56,⟨.type "function",none, .func (fD (b0 p 4) "in_table_b1" 3 .none (.ref 55) 0),⟨[]⟩⟩),
  (102,⟨.type "function",none, .func (fD (b0 p 6) "map_table_b3" 3 .none (.ref 101) 0),⟨[]⟩⟩),
  (119,⟨.type "function",none, .func (fD (b0 p 11) "quotedata" 3 .none (.ref 118) 0),⟨[]⟩⟩),
  (136,⟨.type "function",none, .func (fD (iH p 13 1) "Whitespace.__init__" 3 .none (.ref 135) 0),⟨[]⟩⟩),
  (143,⟨.type "function",none, .func (fD (iH p 13 2) "Whitespace.longest_run_of_spaces" 3 .none (.ref 142) 0),⟨[]⟩⟩),
  (150,⟨.type "function",none, .func (fD (iH p 13 3) "Whitespace.indent_level" 3 .none (.ref 149) 0),⟨[]⟩⟩),
  (157,⟨.type "function",none, .func (fD (iH p 13 4) "Whitespace.equal" 3 .none (.ref 156) 0),⟨[]⟩⟩),
  (164,⟨.type "function",none, .func (fD (iH p 13 5) "Whitespace.not_equal_witness" 3 .none (.ref 163) 0),⟨[]⟩⟩),
  (171,⟨.type "function",none, .func (fD (iH p 13 6) "Whitespace.less" 3 .none (.ref 170) 0),⟨[]⟩⟩),
  (178,⟨.type "function",none, .func (fD (iH p 13 7) "Whitespace.not_less_witness" 3 .none (.ref 177) 0),⟨[]⟩⟩),
  (192,⟨.type "function",none, .func (fD (b0 p 18) "_substitution_cost" 3 .none (.ref 191) 0),⟨[]⟩⟩),
  (199,⟨.type "function",none, .func (fD (b0 p 19) "_levenshtein_distance" 3 .none (.ref 198) 0),⟨[]⟩⟩),
  (206,⟨.type "function",none, .func (fD (b0 p 21) "_law_row" 3 .none (.ref 205) 0),⟨[]⟩⟩),
  (211,⟨.type "function",none, .func (fD (b0 p 22) "_law_done" 3 .none (.ref 210) 0),⟨[]⟩⟩),
  (218,⟨.type "function",none, .func (fD (b0 p 23) "_law_stands" 3 .none (.ref 217) 0),⟨[]⟩⟩),
  (223,⟨.type "function",none, .func (fD (b0 p 24) "_law_told" 3 .none (.ref 222) 0),⟨[]⟩⟩),
  (228,⟨.type "function",none, .func (fD (b0 p 25) "law" 3 .none (.ref 227) 0),⟨[]⟩⟩),
  (181,⟨.type "type",none, .cls { name:="Whitespace",bases:=[.type "object"],mro:=[.ref 181, .type "object"],ns:=180,qualname:="Whitespace",hasDict:=true,slotNames:=[],subclasses:=[],abstract:=false,collection:=none,hasDel:=false },⟨[some (.builtin "object.__new__")]⟩⟩),
  (107,⟨.type "re.Pattern",none, .fields ⟨[.str (⟨⟨[40,63,109,41,94,92,46]⟩⟩:Str) 0, .int 40 0, .int 0 0, .none, .none, .ref 106, .int 0 0]⟩,⟨[]⟩⟩),
  (112,⟨.type "re.Pattern",none, .fields ⟨[.str (⟨⟨[40,63,58,92,114,92,110,124,92,110,124,92,114,40,63,33,92,110,41,41]⟩⟩:Str) 0, .int 32 0, .int 0 0, .none, .none, .ref 111, .int 0 0]⟩,⟨[]⟩⟩),
  (106,⟨.type "tuple",none, .seq ⟨[.int 14 0, .int 4 0, .int 0 0, .int 1 0, .int 1 0, .int 6 0, .int 1 0, .int 16 0, .int 46 0, .int 1 0]⟩ 0,⟨[]⟩⟩),
  (111,⟨.type "tuple",none, .seq ⟨[.int 14 0, .int 9 0, .int 4 0, .int 1 0, .int 2 0, .int 16 0, .int 10 0, .int 16 0, .int 13 0, .int 0 0, .int 7 0, .int 7 0, .int 16 0, .int 13 0, .int 16 0, .int 10 0, .int 15 0, .int 18 0, .int 5 0, .int 16 0, .int 10 0, .int 15 0, .int 13 0, .int 11 0, .int 16 0, .int 13 0, .int 5 0, .int 5 0, .int 0 0, .int 16 0, .int 10 0, .int 1 0, .int 15 0, .int 2 0, .int 0 0, .int 1 0]⟩ 0,⟨[]⟩⟩),
  (46,⟨.type "set",none, .set ⟨[(65024, .int 65024 0),(65025, .int 65025 0),(65026, .int 65026 0),(65027, .int 65027 0),(65028, .int 65028 0),(65029, .int 65029 0),(6150, .int 6150 0),(65030, .int 65030 0),(65031, .int 65031 0),(65032, .int 65032 0),(65033, .int 65033 0),(6155, .int 6155 0),(6156, .int 6156 0),(6157, .int 6157 0),(8203, .int 8203 0),(8204, .int 8204 0),(8205, .int 8205 0),(65034, .int 65034 0),(65035, .int 65035 0),(65036, .int 65036 0),(65037, .int 65037 0),(65038, .int 65038 0),(65039, .int 65039 0),(173, .int 173 0),(847, .int 847 0),(8288, .int 8288 0),(65279, .int 65279 0)]⟩ 0 { mask:=127,place:=⟨[0,1,2,3,4,5,6,7,8,9,10,11,12,13,14,15,16,17,18,19,20,21,22,45,79,96,127]⟩,dummies:=⟨[]⟩,finger:=0,led:=true,moves:=2,plain:=true },⟨[]⟩⟩)]
 codes:=[(37,"_wall"),(55,"in_table_b1"),(101,"map_table_b3"),(118,"quotedata"),(135,"Whitespace.__init__"),(142,"Whitespace.longest_run_of_spaces"),(149,"Whitespace.indent_level"),(156,"Whitespace.equal"),(163,"Whitespace.not_equal_witness"),(170,"Whitespace.less"),(177,"Whitespace.not_less_witness"),(191,"_substitution_cost"),(198,"_levenshtein_distance"),(205,"_law_row"),(210,"_law_done"),(217,"_law_stands"),(222,"_law_told"),(227,"law")]
noncomputable def qL:Program:=zZ pw_uk0028_01
noncomputable def f0:List Str:=["_sre","_wall","b1_set","in_table_b1","b3_exceptions","map_table_b3","_twin_re_1","_twin_re_2","CRLF","quotedata","Whitespace","_MAX_STRING_SIZE","_MOVE_COST","_CASE_COST","_substitution_cost","_levenshtein_distance","_law_row","_law_done","_law_stands","_law_told"]
theorem kA(w:World):k1 fast pw_uk0028_01 2 700 w=wi fast pw_uk0028_01 ⟨5,0,5,8⟩ (fo (Cp pw_uk0028_01 w.params) 291) w:=∅
theorem HM(w:World):iG fast pw_uk0028_01 2 1 1100 ⟨5,0,5,8⟩ (wf false false w) (fo (Cp pw_uk0028_01 (wf false false w).params) 291)=some (.next,fo (Cq pw_uk0028_01 (wf false false w).params) 351,nA pw_uk0028_01,⟨6,0,6,6⟩):=∅
theorem HN(w:World):iG fast pw_uk0028_01 2 1 1100 ⟨5,0,5,8⟩ (wf false true w) (fo (Cp pw_uk0028_01 (wf false true w).params) 291)=some (.next,fo (Cq pw_uk0028_01 (wf false true w).params) 351,nA pw_uk0028_01,⟨6,0,6,6⟩):=∅
theorem HO(w:World):iG fast pw_uk0028_01 2 1 1100 ⟨5,0,5,8⟩ (wf true false w) (fo (Cp pw_uk0028_01 (wf true false w).params) 291)=some (.next,fo (Cq pw_uk0028_01 (wf true false w).params) 351,nA pw_uk0028_01,⟨6,0,6,6⟩):=∅
theorem HP(w:World):iG fast pw_uk0028_01 2 1 1100 ⟨5,0,5,8⟩ (wf true true w) (fo (Cp pw_uk0028_01 (wf true true w).params) 291)=some (.next,fo (Cq pw_uk0028_01 (wf true true w).params) 351,nA pw_uk0028_01,⟨6,0,6,6⟩):=∅
theorem kD(w:World):iG fast pw_uk0028_01 3 1 60 ⟨6,0,6,6⟩ w (fo (Cq pw_uk0028_01 w.params) 351)=some (.next,fo (Gl pw_uk0028_01 w.params) 358,nA pw_uk0028_01,⟨7,0,8,30⟩):=∅
theorem IB(w:World)(f:Nat->Obj)(T:Nat)(ps:Pos):(yA fast pw_uk0028_01 4 1200 57 (w.withFollow "special-get-raises" false) (Gl pw_uk0028_01 (w.withFollow "special-get-raises" false).params) ((List.range 39).map f) T ps).map (n8 fast fastSeen pw_uk0028_01 qL f0 (gO pw_uk0028_01) 57 (w.withFollow "special-get-raises" false))=some (true,openGood qL f0,iI (gO pw_uk0028_01),some (f 0)):=∅
theorem IC(w:World)(f:Nat->Obj)(T:Nat)(ps:Pos):(yA fast pw_uk0028_01 4 1200 57 (w.withFollow "special-get-raises" true) (Gl pw_uk0028_01 (w.withFollow "special-get-raises" true).params) ((List.range 39).map f) T ps).map (n8 fast fastSeen pw_uk0028_01 qL f0 (gO pw_uk0028_01) 57 (w.withFollow "special-get-raises" true))=some (true,openGood qL f0,iI (gO pw_uk0028_01),some (f 0)):=∅
theorem kC(w:World):iG fast pw_uk0028_01 2 1 1100 ⟨5,0,5,8⟩ w (fo (Cp pw_uk0028_01 w.params) 291)=some (.next,fo (Cq pw_uk0028_01 w.params) 351,nA pw_uk0028_01,⟨6,0,6,6⟩):=
 byRow2 "special-get-raises" (P:=λw=>iG fast pw_uk0028_01 2 1 1100 ⟨5,0,5,8⟩ w (fo (Cp pw_uk0028_01 w.params) 291)=some (.next,fo (Cq pw_uk0028_01 w.params) 351,nA pw_uk0028_01,⟨6,0,6,6⟩))
  (byRow2 "set-order" (P:=λw=>iG fast pw_uk0028_01 2 1 1100 ⟨5,0,5,8⟩ (w.withFollow "special-get-raises" false) (fo (Cp pw_uk0028_01 (w.withFollow "special-get-raises" false).params) 291)=some (.next,fo (Cq pw_uk0028_01 (w.withFollow "special-get-raises" false).params) 351,nA pw_uk0028_01,⟨6,0,6,6⟩)) HM HO)
  (byRow2 "set-order" (P:=λw=>iG fast pw_uk0028_01 2 1 1100 ⟨5,0,5,8⟩ (w.withFollow "special-get-raises" true) (fo (Cp pw_uk0028_01 (w.withFollow "special-get-raises" true).params) 291)=some (.next,fo (Cq pw_uk0028_01 (w.withFollow "special-get-raises" true).params) 351,nA pw_uk0028_01,⟨6,0,6,6⟩)) HN HP) w
theorem kE(w:World)(f:Nat->Obj)(T:Nat)(ps:Pos):(yA fast pw_uk0028_01 4 1200 57 w (Gl pw_uk0028_01 w.params) ((List.range 39).map f) T ps).map (n8 fast fastSeen pw_uk0028_01 qL f0 (gO pw_uk0028_01) 57 w)=some (true,openGood qL f0,iI (gO pw_uk0028_01),some (f 0)):=
 byRow2 "special-get-raises" (P:=λw=>(yA fast pw_uk0028_01 4 1200 57 w (Gl pw_uk0028_01 w.params) ((List.range 39).map f) T ps).map (n8 fast fastSeen pw_uk0028_01 qL f0 (gO pw_uk0028_01) 57 w)=some (true,openGood qL f0,iI (gO pw_uk0028_01),some (f 0)))
  (λw=>IB w f T ps) (λw=>IC w f T ps) w
noncomputable def rowsL:List (Int×Str):=match fE (fN pw_uk0028_01 4).keys (fN pw_uk0028_01 4).vals with|some L=>L|none=>[]
theorem z6:fE (fN pw_uk0028_01 4).keys (fN pw_uk0028_01 4).vals=some rowsL:=by
 have h:(fE (fN pw_uk0028_01 4).keys (fN pw_uk0028_01 4).vals).isSome=true:=∅;obtain⟨L,e⟩:=Option.isSome_iff_exists.mp h;unfold rowsL;rw[e]
theorem HQ(w:World):EG pw_uk0028_01 4 1200 57 39 w (Gl pw_uk0028_01 w.params) 358 (12+(1+(700+(1100+60)))) (n8 iF openSeen pw_uk0028_01 qL f0 (gO pw_uk0028_01) 57 w) λf=>(true,openGood qL f0,iI (gO pw_uk0028_01),some (f 0)):=by
 have hA:=kA w;have hC:=kC w;have hD:=kD w;rw[<-qO]at hA hC hD;obtain⟨z,z1,z2,z3,z4,ch⟩:=zX hA;refine⟨⟨z,⟨7,0,8,30⟩,z1,z2,z3,z4,λN r h => ?_⟩,∅,λf T ps => ?_⟩
 ·have c:=ch _ _ (zY hC (zY (i:=2+1) (k:=1) hD h))
  rw[show 12+(1+(700+(1100+60)))+N=12+(1+(700+(1100+(60+N))))by omega];exact c
 ·have hE:=kE w f T ps
  rw[<-qO,<-yD]at hE;exact hE
theorem left:LeftO pw_uk0028_01 qL f0 (λ_=>true) (λs=>eK (gO pw_uk0028_01) 57 rowsL s.heap) (λ_=>True) 40000:=
 z0 HQ ∅ z6 ∅ ∅ rfl nofun (C:=cD 633) rfl ⟨nofun,by decide +kernel⟩
set_option maxHeartbeats 8000000 in
theorem z7 (walk:∀(w:World) (s:Shared) (a:Addr) (vs:List Value) (ns:List Int),eK (gO pw_uk0028_01) 57 rowsL s.heap->s.gens = #[]->s.heap.IsList a vs.toArray->IntsAre vs ns->(PyData.list (ns.map PyData.int)).layable0=true->ns.length<=63 ->
 wpAny (model pw_uk0028_01 w) callerA (call (.ref 228) [.ref a]) (λv s'=>v = .bool true/\(∀b o,s.heap.get? b=some o->s'.heap.get? b=some o)/\s'.os=s.os/\s'.gens = #[]) (λ_ _=>False) s):rw_uk0028_01.Holds:=by
 refine holds_law (by decide +kernel) λsaid => ?_
 exact EI (f:=228) left rfl rfl rfl (by rfl) (by rfl) (by rfl) (by decide +kernel) ⟨rfl,rfl,rfl,rfl,rfl,by decide +kernel⟩ (by w_witness2) (by decide +kernel) walk (by assumption)
end
local macro_rules | `(tactic|obtain⟨$ps,*⟩ := $t:term)=>do
 let a:=ps.getElems;let f (s:Lean.TSyntax `tactic) (m:Nat):Lean.MacroM (Lean.TSyntax `tactic) := `(tactic|first|(refine $(Lean.mkIdent (.mkSimple s!"ob{m}{a.size - m}")) $t ?_;rintro $[($a:rcasesPatLo)]*)| $s:tactic);let z:Lean.TSyntax `tactic <- `(tactic|rcases $t:term with⟨$ps,*⟩);let r <-List.foldlM f z [4,3,2,1,0]
 return r.raw
section
open PySem PySem.W PySem.Calls PyProof.Rows
noncomputable abbrev Nm:=List Nat
noncomputable def nm(x:Str):Nm:=x.cps.toList
noncomputable def ab:List Nat->List Nat->Bool
 |[],[]=>true
 |x::xs,y::ys=>Nat.beq x y&&ab xs ys
 |_,_=>false
theorem an:∀{x y:List Nat},ab x y=true↔x=y
 |[],[]=>⟨λ_=>rfl,λ_=>rfl⟩
 |[],_::_=>⟨λh=>aa h,λh=>(fZ _ _ h.symm).elim⟩
 |_::_,[]=>⟨λh=>aa h,λh=>(fZ _ _ h).elim⟩
 |a::x,b::y=>⟨λh=>List.cons_eq_cons.mpr ⟨eH (bc h).1,an.mp (bc h).2⟩,
  λh=>Bool.and_eq_true_iff.mpr ⟨(List.cons_eq_cons.mp h).1▸Nat.beq_refl a,an.mpr (List.cons_eq_cons.mp h).2⟩⟩
theorem dB{x y:Str}(h:nm x=nm y):x=y:=by
 obtain⟨x⟩:=x;obtain⟨y⟩:=y;simp only[nm]at h;rw[Array.toList_inj.mp h]
theorem sN{x y:Str}:ab (nm x) (nm y)=(x==y):=by
 cases h:ab (nm x) (nm y)with
 |true=>rw[dB (an.mp h)];simp
 |false=>
  symm;rw[beq_eq_false_iff_ne];intro e;subst e
  rw[an.mpr rfl]at h;injections h
inductive V where
 |none|bool (b:Bool)|int (i:Int)|str (s:List Nat)|list (l:List V)|tup (l:List V)
 |ws (raw:List Nat) (n nt:Int) (cnt:List Int) (b:Int) (sm:Bool)
 |obj (a:Nat) (raw:List Nat)|cls
 |hid (c:Nat)
 |dict (l:List (List Nat×Bool))
inductive Slot where
 |un|val (v:V)|own (l:List V)
noncomputable abbrev Rho:=List (Nm×Slot)
noncomputable def lk:Rho->Nm->Slot
 |[],_ => .un
 |(y,s)::r,x=>bif ab x y then s else lk r x
noncomputable def put:Rho->Nm->Slot->Rho
 |[],_,_=>[]
 |(y,s)::r,x,t=>bif ab x y then(y,t)::r else(y,s)::put r x t
noncomputable def mI(x:Nm):List Nm->Bool
 |[]=>false
 |y::r=>ab x y||mI x r
theorem jZ{y x:Nm}{s:Slot}{r:Rho}:lk ((y,s)::r) x=bif ab x y then s else lk r x:=rfl
theorem z8{y x:Nm}{s t:Slot}{r:Rho}:put ((y,s)::r) x t=bif ab x y then(y,t)::r else(y,s)::put r x t:=rfl
theorem Gz{x y:Nm}{r:List Nm}:mI x (y::r)=(ab x y||mI x r):=rfl
noncomputable def n9:V->Int
 | .int i=>i
 |_=>0
noncomputable def kL:V->List Nat
 | .str s=>s
 |_=>[]
noncomputable def Cx:V->Bool
 | .bool b=>b
 |_=>false
noncomputable def EJ:V->List V
 | .list l=>l
 |_=>[]
noncomputable def Cy:V->List V
 | .tup l=>l
 |_=>[]
noncomputable def xE:V->Bool
 | .int _=>true
 |_=>false
noncomputable def yE:V->Bool
 | .str _=>true
 |_=>false
noncomputable def Gm:V->Bool
 | .bool _=>true
 |_=>false
noncomputable def Gn:V->Bool
 | .list _=>true
 |_=>false
noncomputable def GA:V->Bool
 | .tup _=>true
 |_=>false
noncomputable def wl:V->Bool
 | .none=>true
 |_=>false
theorem og{v:V}(h:xE v=true) : .int (n9 v)=v:=by induction v using V.casesOn<;>first|rfl|injections h
theorem oh{v:V}(h:yE v=true) : .str (kL v)=v:=by induction v using V.casesOn<;>first|rfl|injections h
theorem wm{v:V}(h:Gm v=true) : .bool (Cx v)=v:=by induction v using V.casesOn<;>first|rfl|injections h
theorem z9{v:V}(h:Gn v=true) : .list (EJ v)=v:=by induction v using V.casesOn<;>first|rfl|injections h
theorem wn{v:V}(h:GA v=true) : .tup (Cy v)=v:=by induction v using V.casesOn<;>first|rfl|injections h
theorem EK{v:V}(h:wl v=true) : .none=v:=by induction v using V.casesOn<;>first|rfl|injections h
noncomputable def eM(c:Bool)(a b:V):V:=match a with
 | .none=>bif wl b then .none else bif c then .none else b
 | .bool x=>bif Gm b then .bool (bif c then x else Cx b)else bif c then .bool x else b
 | .int x=>bif xE b then .int (bif c then x else n9 b)else bif c then .int x else b
 | .str x=>bif yE b then .str (bif c then x else kL b)else bif c then .str x else b
 | .list x=>bif Gn b then .list (bif c then x else EJ b)else bif c then .list x else b
 | .tup x=>bif GA b then .tup (bif c then x else Cy b)else bif c then .tup x else b
 |a=>bif c then a else b
theorem fV{t:Bool}{m e:V}(h:t=true->m=e):(bif t then m else e)=e:=by
 induction t using Bool.casesOn with
 |false=>rfl
 |true=>exact h rfl
theorem cH(c:Bool)(a b:V):eM c a b=bif c then a else b:=by
 induction a using V.casesOn with
 |none=>exact fV λh=>by induction c using Bool.casesOn with|true=>rfl|false=>exact EK h
 |bool x=>exact fV λh=>by induction c using Bool.casesOn with|true=>rfl|false=>exact wm h
 |int x=>exact fV λh=>by induction c using Bool.casesOn with|true=>rfl|false=>exact og h
 |str x=>exact fV λh=>by induction c using Bool.casesOn with|true=>rfl|false=>exact oh h
 |list x=>exact fV λh=>by induction c using Bool.casesOn with|true=>rfl|false=>exact z9 h
 |tup x=>exact fV λh=>by induction c using Bool.casesOn with|true=>rfl|false=>exact wn h
 |_=>rfl
noncomputable def oj(c:Bool):Slot->Slot->Slot
 | .val a, .val b => .val (eM c a b)
 | .own a, .own b => .own (bif c then a else b)
 |_,_ => .un
noncomputable def oq:Slot->Slot->Slot
 | .val a,_ => .val a
 | .own a, .own _ => .own a
 | .own a, .val _ => .val (.list a)
 |_,_ => .un
noncomputable def gP(ns:List Nm)(c:Bool):Rho->Rho->Rho
 |(x,s)::r,(_,t)::q=>(x,bif mI x ns then oj c s t else oq s t)::gP ns c r q
 |_,_=>[]
noncomputable def mask:Rho->Rho->Rho
 |(_, .un)::r,(x,_)::q=>(x, .un)::mask r q
 |_::r,y::q=>y::mask r q
 |_,_=>[]
noncomputable def freeze(ns:List Nm):Rho->Rho
 |[]=>[]
 |(x, .own l)::r=>(x,bif mI x ns then .val (.list l)else .own l)::freeze ns r
 |y::r=>y::freeze ns r
noncomputable def unh:V->V
 | .hid c => .str [c]
 |v=>v
noncomputable abbrev R:=Bool×V
noncomputable def bad:R:=(false, .none)
noncomputable def big:Int:=1000000000000000000
noncomputable def small(a:Int):Bool:=decide (-big<=a)&&decide (a<=big)
noncomputable def cap:Nat:=1000000
noncomputable def Go:List Nat->List Nat->Bool:=ab
noncomputable def mJ(f:List Nat->R):V->R
 | .str s=>f s
 |_=>bad
noncomputable def Gp(f:List V->R):V->R
 | .list l=>f l
 |_=>bad
noncomputable def qB(f:Int->R):V->R
 | .int i=>f i
 |_=>bad
noncomputable def ad:V->Bool×Bool
 | .bool b=>(true,b)
 | .int i=>(true, !decide (i=0))
 | .str s=>(decide (s.length<=cap), !s.isEmpty)
 | .hid _=>(true,true)
 |_=>(false,false)
theorem mK(v:V):ad (unh v)=ad v:=by induction v using V.casesOn<;>rfl
noncomputable def jG{α:Type}(l:List α)(n:Int):List α:=(List.replicate n.toNat l).flatten
noncomputable def EL(a b:Int):Operator->R
 | .Add=>(true, .int (a+b))
 | .Sub=>(true, .int (a-b))
 | .Mult=>(small a||small b, .int (a*b))
 | .FloorDiv=>(!decide (b=0)&&small b, .int (a.fdiv b))
 | .Mod=>(!decide (b=0), .int (a.fmod b))
 | .Pow=>(decide (0<=b)&&decide (b<=100)&&(decide (-100<=a)&&decide (a<=100)), .int (a^b.toNat))
 |_=>bad
noncomputable def Aa(n:Int)(k:Nat):Bool:=decide (-1000<=n)&&decide (n<=1000)&&decide (k<=1000)
noncomputable def HR(a:List Nat)(y:V):Operator->R
 | .Add=>mJ (λb=>(decide (a.length+b.length<=cap), .str (a++b))) y
 |_=>bad
noncomputable def HS(a:List V)(y:V):Operator->R
 | .Add=>Gp (λb=>(decide (a.length+b.length<=cap), .list (a++b))) y
 | .Mult=>qB (λn=>(Aa n a.length, .list (jG a n))) y
 |_=>bad
noncomputable def dv(op:Operator)(a b:V):R:=match a with
 | .int a=>qB (λb=>EL a b op) b
 | .str a=>HR a b op
 | .list a=>HS a b op
 |_=>bad
noncomputable def EM:V->V->Bool×Bool
 | .none, .none=>(true,true)
 | .bool a, .bool b=>(true,a==b)
 | .str _, .none=>(true,false)
 |_,_=>(false,false)
noncomputable def EN(i j:Int):CmpOp->Bool×Bool
 | .Lt=>(true,decide (i<j))
 | .LtE=>(true,decide (i<=j))
 | .Gt=>(true,decide (j<i))
 | .GtE=>(true,decide (j<=i))
 | .Eq=>(true,decide (i=j))
 | .NotEq=>(true, !decide (i=j))
 |_=>(false,false)
noncomputable def Cz(ok c:Bool):CmpOp->Bool×Bool
 | .Eq=>(ok,c)
 | .NotEq=>(ok, !c)
 |_=>(false,false)
noncomputable def EO(op:CmpOp)(a b:V):Bool×Bool:=match a with
 | .int i=>match b with
   | .int j=>EN i j op
   |_=>(false,false)
 | .str x=>match b with
   | .str y=>Cz true (Go x y) op
   |_=>(false,false)
 | .bool x=>match b with
   | .bool y=>Cz true (x==y) op
   |_=>(false,false)
 |_=>(false,false)
noncomputable def mL:V->Option (List Nat)
 | .str s=>some s
 |_=>none
noncomputable def HB:V->V->Bool×Bool
 | .str x, .tup l=>(l.all λy=>(mL y).isSome,l.any λy=>Go ((mL y).getD []) x)
 |_,_=>(false,false)
noncomputable def gQ(op:CmpOp)(a b:V):Bool×Bool:=match op with
 | .In=>HB a b
 | .Is=>EM a b
 | .IsNot=>((EM a b).1, !(EM a b).2)
 |op=>EO op a b
noncomputable def place(n:Nat)(i:Int):Nat:=(bif decide (i<0)then i+n else i).toNat
noncomputable def bP(n:Nat)(i:Int):Bool:=decide (-(n:Int)<=i)&&decide (i<n)
noncomputable def uq(l:List V)(k:Nat):V:=
 bif l.all xE then .int (n9 (l.getD k .none))else
 bif l.all yE then .str (kL (l.getD k .none))else
 bif l.all Gm then .bool (Cx (l.getD k .none))else
 bif l.all Gn then .list (EJ (l.getD k .none))else
 bif l.all GA then .tup (Cy (l.getD k .none))else l.getD k .none
noncomputable def GB(ty:Nat)(l:List V)(i:Int):R:=
 bif Nat.beq ty 1 then(bP l.length i&&decide (l.length<=cap)&&xE (l.getD (place l.length i) .none), .int (n9 (l.getD (place l.length i) .none)))
 else bif Nat.beq ty 2 then(bP l.length i&&decide (l.length<=cap)&&yE (l.getD (place l.length i) .none), .str (kL (l.getD (place l.length i) .none)))
 else(bP l.length i&&decide (l.length<=cap),uq l (place l.length i))
noncomputable def zG:List (List Nat×Bool)->List Nat->Option Bool
 |[],_=>none
 |y::r,x=>bif ab x y.1 then some y.2 else zG r x
theorem Ek{y:List Nat×Bool}{r:List (List Nat×Bool)}{x:List Nat}:zG (y::r) x=bif ab x y.1 then some y.2 else zG r x:=rfl
noncomputable def ou:Option Bool->R
 |some b=>(true, .bool b)
 |none=>bad
noncomputable def kM(ty:Nat)(o i:V):R:=match o with
 | .dict d=>mJ (λk=>ou (zG d k)) i
 | .list l=>qB (GB ty l) i
 | .tup l=>qB (GB ty l) i
 | .str s=>qB (λi=>(bP s.length i&&decide (s.length<=cap), .str [s.getD (place s.length i) 0])) i
 |_=>bad
noncomputable def xF(f:Option Int->R):V->R
 | .none=>f none
 | .int i=>f (some i)
 |_=>bad
noncomputable def bound(n:Nat)(i:Int):Nat:=bif decide (i<0)then(i+n).toNat else Nat.min i.toNat n
noncomputable def mM{α:Type}(l:List α)(lo hi:Option Int):List α:=
 let a:=match lo with|none=>0|some i=>bound l.length i
 let b:=match hi with|none=>l.length|some i=>bound l.length i
 (l.drop a).take (b-a)
noncomputable def dC{α:Type}(k a:Int)(l:List α):List α:=(sliceRange (max 0 (min a l.length)) l.length k).filterMap (l[·]?)
noncomputable def eO(o lo hi st:V):R:=match o with
 | .str s=>match st with
   | .none=>xF (λa=>xF (λb=>(decide (s.length<=cap), .str (mM s a b))) hi) lo
   |_=>bad
 | .list l=>match st with
   | .none=>xF (λa=>xF (λb=>(decide (l.length<=cap), .list (mM l a b))) hi) lo
   |st=>qB (λk=>qB (λa=>(wl hi&&(decide (l.length<=cap)&&decide (0<=a)&&decide (1<=k)), .list (dC k a l))) lo) st
 |_=>bad
noncomputable def HC(op:UnaryOp)(a:V):R:=match op with
 | .Not=>((ad a).1, .bool (!(ad a).2))
 | .USub=>qB (λa=>(true, .int (-a))) a
 |_=>bad
noncomputable def ur(l:List V):Int:=(l.map n9).foldl (· + ·) 0
noncomputable def db(sep:List Nat):List (List Nat)->List Nat
 |[]=>[]
 |[x]=>x
 |x::y::l=>x++sep++db sep (y::l)
theorem CA{sep x:List Nat}:db sep [x]=x:=rfl
theorem CB{sep x y:List Nat}{l:List (List Nat)}:db sep (x::y::l)=x++sep++db sep (y::l):=rfl
noncomputable def hJ(a k:Int):Nat->List Int
 |0=>[]
 |n+1=>a::hJ (a+k) k n
theorem iK{a k:Int}{n:Nat}:hJ a k (n+1)=a::hJ (a+k) k n:=rfl
noncomputable def fv(a b k:Int):List Int:=hJ a k (Builtin.Range.rangeSize a b k).toNat
noncomputable def ue(s:List Nat):List V:=s.map λc => .str [c]
noncomputable def tx(s:List Nat):Str:=⟨s.toArray⟩
noncomputable def cu(s:List Nat):List Nat:=(Txt.lower (tx s)).cps.toList
noncomputable def j0(s:List Nat):List Nat:=(Txt.upper (tx s)).cps.toList
noncomputable def aQ(s y:List Nat):List (List Nat):=(Txt.split (tx s) (tx y)).map λx=>x.cps.toList
structure Fns where
 glob:List (Nm×V)
 fn:List (Nm×(List V->R))
 meth:List (Nm×(List V->R))
noncomputable def sO{α:Type}:List (Nm×α)->Nm->Option α
 |[],_=>none
 |(y,s)::r,x=>bif ab x y then some s else sO r x
noncomputable def fO(ev:Expr->R):List Expr->Bool×List V
 |[]=>(true,[])
 |e::es=>
  let x:=ev e;let r:=fO ev es
  (x.1&&r.1,x.2::r.2)
theorem GC{E:Expr->R}{e:Expr}{es:List Expr}:fO E (e::es)=((E e).1&&(fO E es).1,(E e).2::(fO E es).2):=rfl
noncomputable def gI(ev:Expr->R):List Expr->R
 |[]=>bad
 |[e]=>ev e
 |e::es=>
  let x:=ev e;let c:=ad x.2;let r:=gI ev es
  (x.1&&c.1&&(bif c.2 then r.1 else true),eM c.2 r.2 x.2)
noncomputable def qx(ev:Expr->R):List Expr->R
 |[]=>bad
 |[e]=>ev e
 |e::es=>
  let x:=ev e;let c:=ad x.2;let r:=qx ev es
  (x.1&&c.1&&(bif c.2 then true else r.1),eM c.2 x.2 r.2)
noncomputable def kd(κ:List (Str×NameKind))(x:Nm):Option NameKind:=match κ with
 |[]=>none
 |(y,k)::r=>bif ab x (nm y)then some k else kd r x
theorem HT{y:Str}{k:NameKind}{r:List (Str×NameKind)}{x:Nm}:kd ((y,k)::r) x=bif ab x (nm y)then some k else kd r x:=rfl
noncomputable def ag(k:Option NameKind):Bool:=match k with
 |some .local|some .cell|some .free=>true
 |_=>false
noncomputable def ay(k:Option NameKind):Bool:=match k with
 |some .globalImplicit=>true
 |_=>false
noncomputable def j1(k:Option NameKind):Bool:=match k with
 |some .cell|some .free=>true
 |_=>false
noncomputable def iL(f:V->R):List V->R
 |[x]=>f x
 |_=>bad
noncomputable def EP(f:V->V->R):List V->R
 |[x,y]=>f x y
 |_=>bad
noncomputable def HD(f:Nat->R):V->R
 | .str [c]=>f c
 |_=>bad
theorem nL(P:List V->R->Prop){f:V->R}{as:List V}(ok:(iL f as).1=true)(k:∀x,(f x).1=true->P [x] (f x)):P as (iL f as):=by
 induction as using List.casesOn with
 |nil=>exact aa ok
 |cons x as=>induction as using List.casesOn with
  |nil=>exact k x ok
  |cons=>exact aa ok
theorem Ab(P:V->R->Prop){f:List Nat->R}{v:V}(ok:(mJ f v).1=true)(k:∀x,(f x).1=true->P (.str x) (f x)):P v (mJ f v):=by
 induction v using V.casesOn with
 |str x=>exact k x ok
 |_=>exact aa ok
theorem Ac(P:V->R->Prop){f:Nat->R}{v:V}(ok:(HD f v).1=true)(k:∀c,(f c).1=true->P (.str [c]) (f c)):P v (HD f v):=by
 induction v using V.casesOn with
 |str x=>induction x using List.casesOn with
  |nil=>exact aa ok
  |cons c x=>induction x using List.casesOn with
   |nil=>exact k c ok
   |cons=>exact aa ok
 |_=>exact aa ok
noncomputable def GD(s:List Nat):List V->R:=iL (Gp λl=>(l.all yE&&decide (l.length<=cap)&&decide (((l.map kL).map List.length).sum+l.length*s.length<=cap), .str (db s (l.map kL))))
noncomputable def EQ(s:List Nat)(as:List V):R:=(as.isEmpty&&decide (s.length<=cap), .str (cu s))
noncomputable def ER(s:List Nat)(as:List V):R:=(as.isEmpty&&decide (s.length<=cap), .str (j0 s))
noncomputable def ES(s:List Nat):List V->R:=iL (mJ λy=>(decide (s.length<=cap) && !y.isEmpty, .list ((aQ s y).map .str)))
noncomputable def bT(s y:List Nat)(i:Int):Int:=Txt.find3 (tx s) (tx y) i
noncomputable def Ad(s:List Nat):List V->R
 |[x,i]=>mJ (λy=>qB (λi=>(decide (s.length<=cap) && !y.isEmpty&&decide (0<=i)&&small i, .int (bT s y i))) i) x
 |as=>iL (mJ λy=>(decide (s.length<=cap) && !y.isEmpty, .int (bT s y 0))) as
noncomputable def GF:List (Str×(List Nat->List V->R)):=[("join",GD),("lower",EQ),("upper",ER),("split",ES),("find",Ad)]
noncomputable def GG{α:Type}:List (Str×α)->Nm->Option α
 |[],_=>none
 |(y,s)::r,x=>bif ab x (nm y)then some s else GG r x
noncomputable def HU(o:Option (List V->R))(as:List V):R:=match o with
 |some F=>F as
 |none=>bad
noncomputable def yF(m:Nm)(s:List Nat)(as:List V):R:=HU ((GG GF m).map (· s)) as
noncomputable def qC:V->R
 | .str s=>(decide (s.length<=cap), .int s.length)
 | .list l=>(decide (l.length<=cap), .int l.length)
 | .tup l=>(decide (l.length<=cap), .int l.length)
 |_=>bad
noncomputable def HV:List V->R:=iL (mJ λs=>(Nat.beq s.length 1, .int (s.getD 0 0)))
noncomputable def HW:List V->R:=iL (qB λi=>(decide (0<=i)&&decide (i<1114112), .hid i.toNat))
noncomputable def ET(a b:Int):Int:=bif decide (b<a)then b else a
noncomputable def HX:List V->R:=EP λx y=>qB (λa=>qB (λb=>(true, .int (ET a b))) y) x
noncomputable def HY:List V->R:=iL (Gp λl=>(l.all xE&&decide (l.length<=cap), .int (ur l)))
noncomputable def HZ:List V->R:=iL (Gp λl=>(decide (l.length<=cap), .tup l))
noncomputable def Ip:List (Str×(List V->R)):=[("len",iL qC),("ord",HV),("chr",HW),("min",HX),("sum",HY),("tuple",HZ)]
noncomputable def iM(f:Nm)(as:List V):R:=HU (GG Ip f) as
noncomputable def d5(a b k:Int):Bool:=Builtin.Range.small a b k&&decide (Builtin.Range.rangeSize a b k<=10000) && !decide (k=0)&&decide (-1000<=k)&&decide (k<=1000)
noncomputable def sP:List Int->Bool×List V
 |[b]=>(d5 0 b 1,(fv 0 b 1).map .int)
 |[a,b]=>(d5 a b 1,(fv a b 1).map .int)
 |[a,b,k]=>(d5 a b k,(fv a b k).map .int)
 |_=>(false,[])
noncomputable def gJ(as:List V):Bool×List V:=bif as.all xE then sP (as.map n9)else(false,[])
noncomputable def sQ:V->Bool×List V
 | .list l=>(decide (l.length<=cap),l)
 | .str s=>(decide (s.length<=cap),ue s)
 | .tup l=>(decide (l.length<=cap),l)
 |_=>(false,[])
noncomputable def ov(k:Int):List V->List V
 |[]=>[]
 |x::l => .tup [.int k,x]::ov (k+1) l
theorem sR{k:Int}{x:V}{l:List V}:ov k (x::l) = .tup [.int k,x]::ov (k+1) l:=rfl
noncomputable def hU:Expr->Option (Str×List Expr)
 | .Call f as kw _=>match f with
   | .Name f _=>match kw with
     |[]=>some (f,as)
     |_=>none
   |_=>none
 |_=>none
noncomputable def xG(o:Option (Str×List Expr)):Option (List Expr):=match o with
 |some (g,bs)=>bif ab (nm g) (nm "range")then some bs else none
 |none=>none
noncomputable def kN:List Expr->Option (List Expr)
 |[a]=>xG (hU a)
 |_=>none
noncomputable def d6:Expr->Bool
 | .Name _ _=>true
 |_=>false
noncomputable def hV(e:Expr):Bool:=Nat.beq e.ctorIdx 25
noncomputable def mO(κ:List (Str×NameKind))(ev:Expr->R)(t:Expr)(e:Expr):Bool×List V:=
 let x:=ev e;let r:=sQ x.2
 (x.1&&r.1&&(d6 t||(hV t&&Gn x.2)),r.2)
noncomputable def Ae(κ:List (Str×NameKind))(ev:Expr->R)(t:Expr)(f:Nm)(as:List Expr):Bool×List V:=
 let x:=fO ev as;let r:=gJ x.2
 (ay (kd κ f)&&x.1&&r.1&&d6 t,r.2)
noncomputable def Af(κ:List (Str×NameKind))(ev:Expr->R)(t:Expr)(f:Nm)(as:List Expr):Bool×List V:=
 let x:=fO ev as;let l:=Cy (x.2.getD 0 .none)
 (ay (kd κ f)&&x.1&&Nat.beq x.2.length 1&&GA (x.2.getD 0 .none)&&hV t,ov 0 l)
noncomputable def xH(κ:List (Str×NameKind))(ev:Expr->R)(t:Expr)(whole:Expr)(f:Nm)(as:List Expr):Bool×List V:=
 bif ab f (nm "range")then Ae κ ev t f as
 else bif ab f (nm "enumerate")then Af κ ev t f as
 else mO κ ev t whole
noncomputable def ci(κ:List (Str×NameKind))(ev:Expr->R)(t:Expr)(e:Expr):Bool×List V:=match hU e with
 |some (f,as)=>xH κ ev t e (nm f) as
 |none=>mO κ ev t e
noncomputable def f7:List Expr->List V->Rho->Bool×Rho
 |[],[],ρ=>(true,ρ)
 | .Name x _::ts,v::vs,ρ=>f7 ts vs (put ρ (nm x) (.val v))
 |_,_,ρ=>(false,ρ)
noncomputable def bU(t:Expr)(v:V)(ρ:Rho):Bool×Rho:=match t with
 | .Name x _=>(true,put ρ (nm x) (.val v))
 | .Tuple ts _ _=>match v with
   | .tup vs=>f7 ts vs ρ
   |_=>(false,ρ)
 |_=>(false,ρ)
noncomputable def nmT(t:Expr):Option Nm:=match t with
 | .Name x _=>some (nm x)
 |_=>none
theorem oA{x:Str}{p:Pos}{ts:List Expr}:(Expr.Name x p::ts).filterMap nmT=nm x::ts.filterMap nmT:=rfl
theorem EU{t:Expr}{x:Nm}(h:nmT t=some x):∃y:Str,x=nm y:=by
 induction t using Expr.casesOn with
 |Name y p=>exact⟨y,(bR h).symm⟩
 |_=>exact aD h
noncomputable def H0:Option NameKind->Bool
 |some .local|some .cell=>true
 |_=>false
noncomputable def bh:Expr->List Nm
 | .Name x _=>[nm x]
 | .Tuple ts _ _=>ts.filterMap nmT
 |_=>[]
noncomputable def qD(κ:List (Str×NameKind))(t:Expr):Bool:=(bh t).all λx=>H0 (kd κ x)
noncomputable def xI:Slot->Slot
 | .val v => .val v
 |_ => .un
noncomputable def cK(scope:Scope)(ρ:Rho):Rho:=scope.names.map λ(x,k)=>(nm x,match k with| .free=>xI (lk ρ (nm x))|_ => .un)
noncomputable def gK(ev:Expr->R):List Expr->Bool×Bool
 |[]=>(true,true)
 |e::es=>
  let x:=ev e;let c:=ad x.2;let r:=gK ev es
  (x.1&&c.1&&(bif c.2 then r.1 else true),c.2&&r.2)
theorem Ag{E:Expr->R}{e:Expr}{es:List Expr}:gK E (e::es)=((E e).1&&(ad (E e).2).1&&(bif (ad (E e).2).2 then(gK E es).1 else true),(ad (E e).2).2&&(gK E es).2):=rfl
noncomputable def d7:List Nm->Bool
 |[]=>true
 |x::r => !mI x r&&d7 r
theorem Ah{x:Nm}{r:List Nm}:d7 (x::r)=(!mI x r&&d7 r):=rfl
noncomputable def wo:ScopeKind->Bool
 | .function=>true
 |_=>false
noncomputable def fR(κ:List (Str×NameKind))(scope:Scope):Bool:=wo scope.kind&&d7 (scope.names.map λx=>nm x.1)&&scope.names.all (λx => !ab (nm x.1) (nm "__debug__") && !ab (nm x.1) (nm "__classdict__"))&&scope.names.all λ(x,k)=>match k with
 | .free=>j1 (kd κ (nm x))
 | .local| .cell=>true
 | .globalImplicit => !ab (nm x) (nm "chr")
 |_=>false
noncomputable def bD(f:V->Bool×Bool×R):List V->Bool×List V
 |[]=>(true,[])
 |x::xs=>
  let y:=f x;let r:=bD f xs
  (y.1&&(bif y.2.1 then y.2.2.1 else true)&&r.1,bif y.2.1 then y.2.2.2::r.2 else r.2)
theorem CC{f:V->Bool×Bool×R}{x:V}{xs:List V}:bD f (x::xs)=((f x).1&&(bif (f x).2.1 then(f x).2.2.1 else true)&&(bD f xs).1,bif (f x).2.1 then(f x).2.2.2::(bD f xs).2 else(bD f xs).2):=rfl
noncomputable abbrev Tau:=List (Nm×Nat)
noncomputable def GH(τ:Tau)(x:Nm):Nat:=(sO τ x).getD 0
noncomputable def H1:Slot->R
 | .val v=>(true,v)
 |_=>bad
noncomputable def H3:Option V->R
 |some v=>(true,v)
 |none=>bad
noncomputable def ut(k:Bool)(e:R):Slot->R
 | .own l=>(k, .list l)
 |_=>e
noncomputable def rd(κ:List (Str×NameKind))(Φ:Fns)(ρ:Rho)(x:Nm):R:=
 bif ag (kd κ x)then H1 (lk ρ x)else bif ay (kd κ x)then H3 (sO Φ.glob x)else bad
noncomputable def look(κ:List (Str×NameKind))(ρ:Rho)(ev:Expr->R):Expr->R
 | .Name x p=>ut (ag (kd κ (nm x))) (ev (.Name x p)) (lk ρ (nm x))
 |e=>ev e
noncomputable def El(a:Nm):V->R
 | .ws raw n nt cnt b sm=>
   bif ab a (nm "n")then(true, .int n)
   else bif ab a (nm "nt")then(true, .int nt)
   else bif ab a (nm "norm")then(true, .tup [.tup (cnt.map .int), .int b])
   else bif ab a (nm "is_simple")then(true, .bool sm)
   else bad
 | .obj _ raw=>bif ab a (nm "raw")then(true, .str raw)else bad
 | .cls=>bif ab a (nm "S")then(true, .str [32])else bif ab a (nm "T")then(true, .str [9])else bad
 |_=>bad
noncomputable abbrev Ev:=List (Str×NameKind)->Rho->Expr->R
noncomputable def ip(E:Expr->R):Option Expr->R
 |none=>(true, .none)
 |some e=>E e
noncomputable def qU(E:Ev)(κ:List (Str×NameKind))(ρ:Rho)(a:Expr)(op:Operator)(b:Expr):R:=
 let x:=(match op with| .Add=>look κ ρ (E κ ρ) a|_=>E κ ρ a);let y:=E κ ρ b;let r:=dv op (unh x.2) (unh y.2)
 (x.1&&y.1&&r.1,r.2)
noncomputable def CD(E:Expr->R)(op:UnaryOp)(a:Expr):R:=
 let x:=E a;let r:=HC op x.2
 (x.1&&r.1,r.2)
noncomputable def nE(E:Expr->R)(t a b:Expr):R:=
 let z:=E t;let c:=ad z.2;let x:=E a;let y:=E b
 (z.1&&c.1&&(bif c.2 then x.1 else y.1),eM c.2 (unh x.2) (unh y.2))
noncomputable def f8(E:Expr->R)(a:Expr)(op:CmpOp)(b:Expr):R:=
 let x:=E a;let y:=E b;let r:=gQ op (unh x.2) (unh y.2)
 (x.1&&y.1&&r.1, .bool r.2)
noncomputable def j2(E:Expr->R)(a:Expr)(op:CmpOp)(b:Expr)(op':CmpOp)(c:Expr):R:=
 let x:=E a;let y:=E b;let z:=E c;let r:=gQ op (unh x.2) (unh y.2);let q:=gQ op' (unh y.2) (unh z.2)
 (x.1&&y.1&&z.1&&r.1&&q.1, .bool (r.2&&q.2))
noncomputable def xJ(E:Expr->R)(a:Expr)(ops:List CmpOp)(bs:List Expr):R:=match ops with
 |[op]=>match bs with
  |[b]=>f8 E a op b
  |_=>bad
 |[op,op']=>match bs with
  |[b,c]=>j2 E a op b op' c
  |_=>bad
 |_=>bad
noncomputable def nM(E:Expr->R)(o:Expr)(lo hi st:Option Expr):R:=
 let x:=E o;let a:=ip E lo;let b:=ip E hi;let c:=ip E st;let r:=eO x.2 a.2 b.2 c.2
 (x.1&&a.1&&b.1&&c.1&&r.1,r.2)
noncomputable def oC(E:Ev)(τ:Tau)(κ:List (Str×NameKind))(ρ:Rho)(o i:Expr):R:=
 let x:=look κ ρ (E κ ρ) o;let y:=E κ ρ i;let r:=kM (match o with| .Name x _=>GH τ (nm x)|_=>0) x.2 y.2
 (x.1&&y.1&&r.1,r.2)
noncomputable def xK(E:Ev)(τ:Tau)(κ:List (Str×NameKind))(ρ:Rho)(o i:Expr):R:=match i with
 | .Slice lo hi st _=>nM (E κ ρ) o lo hi st
 |i=>oC E τ κ ρ o i
noncomputable def dT:Expr->Bool
 | .Call _ as _ _ => !as.isEmpty
 |_=>true
noncomputable def ju(E:Expr->R)(o:Expr)(a:Nm):R:=
 let x:=E o;let r:=El a x.2
 (x.1&&r.1&&dT o,r.2)
noncomputable def gp(E:Ev)(elt t:Expr)(ifs:List Expr)(scope:Scope)(ρ':Rho)(v:V):Bool×Bool×R:=
 let q:=bU t v ρ';let c:=gK (E scope.names q.2) ifs
 (q.1&&c.1,c.2,E scope.names q.2 elt)
noncomputable def H4(E:Ev)(κ:List (Str×NameKind))(ρ:Rho)(elt:Expr)(scope:Scope)(g:Comprehension):R:=
 let xs:=ci κ (E κ ρ) g.target g.iter;let r:=bD (gp E elt g.target g.ifs scope (cK scope ρ)) xs.2
 (decide (g.is_async=0)&&fR κ scope&&qD scope.names g.target&&xs.1&&r.1&&decide (xs.2.length<=cap), .list r.2)
noncomputable def oD(E:Ev)(κ:List (Str×NameKind))(ρ:Rho)(elt:Expr)(gs:List Comprehension)(scope:Scope):R:=match gs with
 |[g]=>H4 E κ ρ elt scope g
 |_=>bad
noncomputable def jM:V->List Nat×Bool
 | .tup l=>(kL (l.getD 0 .none),Cx (l.getD 1 .none))
 |_=>([],false)
noncomputable def yG(E:Ev)(kx vx t:Expr)(scope:Scope)(ρ':Rho)(v:V):Bool×Bool×R:=
 let q:=bU t v ρ';let k:=E scope.names q.2 kx;let y:=E scope.names q.2 vx
 (q.1,true,(k.1&&y.1&&(yE k.2&&Gm y.2), .tup [k.2,y.2]))
noncomputable def H5(E:Ev)(κ:List (Str×NameKind))(ρ:Rho)(kx vx:Expr)(scope:Scope)(g:Comprehension):R:=
 let xs:=ci κ (E κ ρ) g.target g.iter;let r:=bD (yG E kx vx g.target scope (cK scope ρ)) xs.2;let d:=r.2.map jM
 (decide (g.is_async=0)&&fR κ scope&&qD scope.names g.target&&xs.1&&(g.ifs.isEmpty&&r.1&&d7 (d.map Prod.fst))&&decide (xs.2.length<=cap), .dict d)
noncomputable def oE(E:Ev)(κ:List (Str×NameKind))(ρ:Rho)(kx vx:Expr)(gs:List Comprehension)(scope:Scope):R:=match gs with
 |[g]=>H5 E κ ρ kx vx scope g
 |_=>bad
noncomputable def fP(Φ:Fns)(m:Nm)(x:V)(ys:List V):R:=match x with
 | .str s=>yF m s ys
 |_=>bad
noncomputable def mP(Φ:Fns)(f:Nm)(ys:List V):R:=match sO Φ.fn f with
 |some h=>h ys
 |none=>iM f ys
noncomputable def gq(Φ:Fns)(E:Expr->R)(κ:List (Str×NameKind))(f:Nm)(as:List Expr):R:=
 let ys:=fO E as;let r:=mP Φ f (ys.2.map unh)
 (ay (kd κ f)&&ys.1&&r.1,r.2)
noncomputable def qV(E:Ev)(κ:List (Str×NameKind))(ρ:Rho)(f:Nm)(a:Expr):R:=
 let x:=look κ ρ (E κ ρ) a;let r:=qC x.2
 (ay (kd κ f)&&x.1&&r.1,r.2)
noncomputable def f9(Φ:Fns)(E:Expr->R)(o:Expr)(m:Nm)(as:List Expr):R:=
 let x:=E o;let ys:=fO E as;let r:=fP Φ m (unh x.2) (ys.2.map unh)
 (x.1&&ys.1&&r.1&&dT o,r.2)
noncomputable def H6:Const->Option (List Nat)
 | .str s=>some (nm s)
 |_=>none
noncomputable def eC:Expr->Option (List Nat)
 | .Constant c _ _=>H6 c
 |_=>none
noncomputable def xL(b:Bool):V->Bool×List Nat
 | .hid c=>(b,[c])
 |_=>(false,[])
noncomputable def jN(g:Bool)(v:R):Option (List Nat)->Bool×List Nat
 |some y=>(g,y)
 |none=>xL v.1 v.2
noncomputable def av(s y z:List Nat):List Nat:=(Txt.replace (tx s) (tx y) (tx z)).cps.toList
noncomputable def sS(y z s:List Nat):R:=(!ab y z&&decide (s.length<=cap)&&decide (z.length<=14), .str (av s y z))
noncomputable def xM(E:Expr->R)(g:Bool)(o a:Expr):Option (List Nat)->R
 |some z=>
  let x:=E o;let y:=jN g (E a) (eC a);let r:=mJ (sS y.2 z) (unh x.2)
  (x.1&&y.1&&r.1&&dT o,r.2)
 |none=>bad
noncomputable def oG(E:Expr->R)(g:Bool)(o:Expr)(as:List Expr):R:=match as with
 |[]=>bad
 |a::as=>match as with
  |[]=>bad
  |b::as=>match as with
   |[]=>xM E g o a (eC b)
   |_::_=>bad
noncomputable def cL(E:Expr->R)(κ:List (Str×NameKind))(f g:Nm)(bs:List Expr):R:=
 let xs:=fO E bs;let r:=gJ xs.2
 (ay (kd κ f)&&ay (kd κ g)&&xs.1&&r.1, .list r.2)
noncomputable def nN(o:Option (List Expr))(f:List Expr->R)(g:R):R:=match o with
 |some bs=>f bs
 |none=>g
noncomputable def lZ(Φ:Fns)(E:Ev)(κ:List (Str×NameKind))(ρ:Rho)(f:Expr)(as:List Expr)(pos:Pos):R:=match f with
 | .Attribute o m q=>bif q.endLine==pos.line&&decide (as.length<30)then(bif ab (nm m) (nm "replace")then oG (E κ ρ) (ay (kd κ (nm "chr"))) o as else f9 Φ (E κ ρ) o (nm m) as)else bad
 | .Name f _=>
   bif ab (nm f) (nm "len")then match as with
    |[a]=>qV E κ ρ (nm f) a
    |_=>bad
   else nN (bif ab (nm f) (nm "list")then kN as else none) (cL (E κ ρ) κ (nm f) (nm "range")) (gq Φ (E κ ρ) κ (nm f) as)
 |_=>bad
noncomputable def sT:Const->R
 | .none=>(true, .none)
 | .bool b=>(true, .bool b)
 | .int i=>(true, .int i)
 | .str s=>(true, .str (nm s))
 |_=>bad
noncomputable def l0(xs:Bool×List V):Bool:=xs.1&&decide (xs.2.length<=cap)
noncomputable def ev(Φ:Fns)(τ:Tau):Nat->List (Str×NameKind)->Rho->Expr->R
 |0,_,_,_=>bad
 |n+1,κ,ρ,e=>match e with
  | .Constant c _ _=>sT c
  | .Name x _=>rd κ Φ ρ (nm x)
  | .BinOp a op b _=>qU (ev Φ τ n) κ ρ a op b
  | .BoolOp op es _=>match op with
    | .And=>gI (ev Φ τ n κ ρ) es
    | .Or=>qx (ev Φ τ n κ ρ) es
  | .UnaryOp op a _=>CD (ev Φ τ n κ ρ) op a
  | .IfExp t a b _=>nE (ev Φ τ n κ ρ) t a b
  | .Compare a ops bs _=>xJ (ev Φ τ n κ ρ) a ops bs
  | .Subscript o i _=>xK (ev Φ τ n) τ κ ρ o i
  | .Attribute o a _=>ju (ev Φ τ n κ ρ) o (nm a)
  | .List es _=>let xs:=fO (ev Φ τ n κ ρ) es;(l0 xs, .list xs.2)
  | .Tuple es _ _=>let xs:=fO (ev Φ τ n κ ρ) es;(l0 xs, .tup xs.2)
  | .ListComp elt gs scope _=>oD (ev Φ τ n) κ ρ elt gs scope
  | .DictComp kx vx gs scope _=>oE (ev Φ τ n) κ ρ kx vx gs scope
  | .Call f as kw pos=>match kw with
    |[]=>lZ Φ (ev Φ τ n) κ ρ f as pos
    |_=>bad
  |_=>bad
inductive gm where
 |next (ρ:Rho)|brk (ρ:Rho)|ret (v:V)|bad
noncomputable abbrev Res:=Bool×gm
noncomputable def seq(r:Res)(k:Rho->Res):Res:=match r.2 with
 | .next ρ=>let q:=k ρ;(r.1&&q.1,q.2)
 |o=>(r.1,o)
noncomputable def hW(f:Expr->List Nm):List Expr->List Nm
 |[]=>[]
 |e::es=>f e++hW f es
noncomputable def EV(f:Expr->List Nm):Option Expr->List Nm
 |none=>[]
 |some e=>f e
noncomputable def sU(f:Expr->List Nm):Expr->List Nm
 | .Name _ _=>[]
 |e=>f e
noncomputable def GI:Expr->Bool
 | .Name x _=>ab (nm x) (nm "len")
 |_=>false
noncomputable def xN(scope:Scope):List Nm:=scope.names.filterMap λ(x,k)=>match k with| .free=>some (nm x)|_=>none
noncomputable def bd:Nat->Expr->List Nm
 |0,_=>[]
 |n+1,e=>match e with
  | .Name x _=>[nm x]
  | .BinOp a op b _=>(match op with| .Add=>sU (bd n) a|_=>bd n a)++bd n b
  | .BoolOp _ es _=>hW (bd n) es
  | .UnaryOp _ a _=>bd n a
  | .IfExp t a b _=>bd n t++bd n a++bd n b
  | .Compare a _ bs _=>bd n a++hW (bd n) bs
  | .Subscript o i _=>match i with
    | .Slice lo hi st _=>bd n o++EV (bd n) lo++EV (bd n) hi++EV (bd n) st
    |i=>sU (bd n) o++bd n i
  | .Attribute o _ _=>bd n o
  | .List es _=>hW (bd n) es
  | .Tuple es _ _=>hW (bd n) es
  | .ListComp _ gs scope _=>xN scope++gs.flatMap λg=>bd n g.iter
  | .DictComp _ _ gs scope _=>xN scope++gs.flatMap λg=>bd n g.iter
  | .Call f as _ _=>match f with
    | .Attribute o _ _=>bd n o++hW (bd n) as
    |f=>bif GI f then hW (sU (bd n)) as else hW (bd n) as
  |_=>[]
noncomputable def uu:Expr->Option (Str×Expr)
 | .Call f as kw pos=>match f with
   | .Attribute o m q=>match o with
     | .Name x _=>match as with
       |[]=>none
       |a::as=>bif ab (nm m) (nm "append")&&(q.endLine==pos.line)&&as.isEmpty&&kw.isEmpty then some (x,a)else none
     |_=>none
   |_=>none
 |_=>none
noncomputable def CE(e:Expr):List Nm:=match uu e with
 |some (x,_)=>[nm x]
 |none=>[]
noncomputable def oH:Expr->List Nm
 | .Name x _=>[nm x]
 | .Tuple ts _ _=>ts.filterMap nmT
 | .Subscript (.Name x _) _ _=>[nm x]
 |_=>[]
noncomputable def a0(f:Stmt->List Nm):List Stmt->List Nm
 |[]=>[]
 |s::r=>f s++a0 f r
theorem l6{f:Stmt->List Nm}{s:Stmt}{r:List Stmt}:a0 f (s::r)=f s++a0 f r:=rfl
noncomputable def fw:Nat->Stmt->List Nm
 |0,_=>[]
 |n+1,s=>match s with
  | .Assign ts _ _=>ts.flatMap oH
  | .AugAssign t _ _ _=>oH t
  | .For t _ b _ _=>oH t++a0 (fw n) b
  | .While _ b _ _=>a0 (fw n) b
  | .If _ a b _=>a0 (fw n) a++a0 (fw n) b
  | .Expr e _=>CE e
  |_=>[]
noncomputable def qW(f:Stmt->Bool):List Stmt->Bool
 |[]=>false
 |s::r=>f s||qW f r
noncomputable def Ai:Nat->Stmt->Bool
 |0,_=>true
 |n+1,s=>match s with
  | .Return _ _=>true
  | .Break _=>true
  | .Continue _=>true
  | .For _ _ b _ _=>qW (Ai n) b
  | .While _ b _ _=>qW (Ai n) b
  | .If _ a b _=>qW (Ai n) a||qW (Ai n) b
  |_=>false
noncomputable def aR(f:Stmt->Bool):List Stmt->Bool
 |[]=>true
 |s::r=>f s&&aR f r
theorem xO{f:Stmt->Bool}{s:Stmt}{r:List Stmt}:aR f (s::r)=(f s&&aR f r):=rfl
noncomputable def fits:Nat->Stmt->Bool
 |0,_=>false
 |n+1,s=>match s with
  | .For _ _ b _ _=>aR (fits n) b
  | .While _ b _ _=>aR (fits n) b
  | .If _ a b _=>aR (fits n) a&&aR (fits n) b
  |_=>true
noncomputable def xP(e:Expr):Bool:=Nat.beq e.ctorIdx 24
noncomputable def Aj(o:Option (Str×List Expr)):Bool:=match o with
 |some (f,as)=>ab (nm f) (nm "list")&&(kN as).isSome
 |none=>false
noncomputable def iN(e:Expr):Bool:=match e with
 | .List _ _=>true
 | .BinOp a op _ _=>match op with
   | .Add=>true
   | .Mult=>xP a
   |_=>false
 |e=>Aj (hU e)
noncomputable def iO(μ:List Nm)(x:Nm)(e:Expr)(v:V):Slot:=match v with
 | .list l=>bif mI x μ&&iN e then .own l else .val (.list l)
 |v => .val v
noncomputable def d8(es:List Expr):Bool:=es.all (constantsAlone 8) && !es.all (foldedForSure 8)
noncomputable def uv(v:V):List Expr->Rho->Bool×Rho
 |[],ρ=>(true,ρ)
 | .Name x _::ts,ρ=>uv v ts (put ρ (nm x) (.val v))
 |_,ρ=>(false,ρ)
noncomputable def kO(l:List V)(k:Nat)(v:V):List V:=l.set k v
noncomputable def mQ:Expr->Option (List Expr)
 | .Tuple es _ _=>some es
 |_=>none
noncomputable def iq(κ:List (Str×NameKind))(ns:List Nm):Bool:=ns.all λx=>ag (kd κ x)
noncomputable def EW(ok:Bool)(ρ:Rho)(x:Nm)(l:List V)(v:R):V->Res
 | .int j=>(v.1&&ok&&(decide (0<=j)&&decide (j<l.length)&&decide (l.length<=cap)), .next (put ρ x (.own (kO l j.toNat v.2))))
 |_=>(false, .bad)
noncomputable def CF(ok:Bool)(ρ:Rho)(x:Nm)(k v:R):Slot->Res
 | .own l=>EW (ok&&k.1) ρ x l v k.2
 |_=>(false, .bad)
noncomputable def H7(E:Expr->R)(κ:List (Str×NameKind))(ρ:Rho)(o i e:Expr):Res:=match o with
 | .Name x _=>CF (ag (kd κ (nm x))) ρ (nm x) (E i) (E e) (lk ρ (nm x))
 |_=>(false, .bad)
noncomputable def CG(E:Expr->R)(κ:List (Str×NameKind))(μ:List Nm)(ρ:Rho)(ts:List Expr)(e:Expr):Option (List Expr)->Res
 |some es=>let xs:=fO E es;let q:=f7 ts xs.2 ρ;(l0 xs&&q.1&&((!d8 es)&&d7 (bh (.Tuple ts 0 default))&&iq κ (bh (.Tuple ts 0 default))), .next q.2)
 |none=>let v:=E e;let q:=bU (.Tuple ts 0 default) v.2 ρ;(v.1&&q.1&&iq κ (bh (.Tuple ts 0 default)), .next q.2)
noncomputable def CH(E:Expr->R)(κ:List (Str×NameKind))(μ:List Nm)(ρ:Rho)(t e:Expr):Res:=match t with
 | .Name x _=>let v:=E e;(v.1&&ag (kd κ (nm x)), .next (put ρ (nm x) (iO μ (nm x) e v.2)))
 | .Tuple ts _ _=>CG E κ μ ρ ts e (mQ e)
 | .Subscript o i _=>H7 E κ ρ o i e
 |_=>(false, .bad)
noncomputable def Em(E:Expr->R)(κ:List (Str×NameKind))(ρ:Rho)(ts:List Expr)(e:Expr):Res:=
 let v:=E e;let q:=uv v.2 ts ρ
 (v.1&&q.1&&iq κ (ts.flatMap bh), .next q.2)
noncomputable def gR(E:Expr->R)(κ:List (Str×NameKind))(μ:List Nm)(ρ:Rho)(ts:List Expr)(e:Expr):Res:=match ts with
 |[]=>(false, .bad)
 |t::ts=>match ts with
  |[]=>CH E κ μ ρ t e
  |t2::ts=>match ts with
   |[]=>Em E κ ρ [t,t2] e
   |t3::ts=>match ts with
    |[]=>Em E κ ρ [t,t2,t3] e
    |_::_=>(false, .bad)
noncomputable def EX:Operator->Bool
 | .Add=>true
 | .Sub=>true
 |_=>false
noncomputable def GJ:Operator->Bool
 | .Add=>true
 |_=>false
noncomputable def qX(op:Operator):V->Bool
 | .int _=>EX op
 | .str _=>GJ op
 |_=>false
noncomputable def qY(E:Expr->R)(κ:List (Str×NameKind))(Φ:Fns)(ρ:Rho)(t:Expr)(op:Operator)(e:Expr):Res:=match t with
 | .Name x _=>
   let old:=rd κ Φ ρ (nm x);let v:=E e;let r:=dv op old.2 v.2
   (ag (kd κ (nm x))&&old.1&&v.1&&r.1&&qX op old.2, .next (put ρ (nm x) (.val r.2)))
 |_=>(false, .bad)
noncomputable def CI(ok:Bool)(ρ:Rho)(x:Nm)(v:R):Slot->Res
 | .own l=>(v.1&&ok&&decide (l.length<=cap), .next (put ρ x (.own (l++[v.2]))))
 |_=>(false, .bad)
noncomputable def GK(E:Expr->R)(κ:List (Str×NameKind))(ρ:Rho):Option (Str×Expr)->Res
 |some (x,a)=>CI (ag (kd κ (nm x))) ρ (nm x) (E a) (lk ρ (nm x))
 |none=>(false, .bad)
noncomputable def oJ(E:Expr->R)(κ:List (Str×NameKind))(ρ:Rho)(e:Expr):Res:=GK E κ ρ (uu e)
noncomputable def dc(f:V->Rho->Res)(ρ₀:Rho):List V->Rho->Res
 |[],ρ=>(true, .next ρ)
 |x::xs,ρ=>
  let q:=f x ρ
  match q.2 with
  | .next ρ'=>let r:=dc f ρ₀ xs (mask ρ₀ ρ');(q.1&&r.1,r.2)
  | .brk ρ'=>(q.1, .next (mask ρ₀ ρ'))
  |o=>(q.1,o)
noncomputable def cS(t:Rho->R)(f:Rho->Res):Nat->Rho->Res
 |0,_=>(false, .bad)
 |n+1,ρ=>
  let z:=t ρ;let c:=ad z.2
  bif c.2 then
   let q:=f ρ
   match q.2 with
   | .next ρ'=>let r:=cS t f n ρ';(z.1&&c.1&&q.1&&r.1,r.2)
   | .brk ρ'=>(z.1&&c.1&&q.1, .next ρ')
   |o=>(z.1&&c.1&&q.1,o)
  else(z.1&&c.1, .next ρ)
theorem kP{t:Rho->R}{f:Rho->Res}{n:Nat}{ρ:Rho}:cS t f (n+1) ρ=bif (ad (t ρ).2).2 then gm.casesOn (f ρ).2 (λρ'=>((t ρ).1&&(ad (t ρ).2).1&&(f ρ).1&&(cS t f n ρ').1,(cS t f n ρ').2)) (λρ'=>((t ρ).1&&(ad (t ρ).2).1&&(f ρ).1, .next ρ')) (λv=>((t ρ).1&&(ad (t ρ).2).1&&(f ρ).1, .ret v)) ((t ρ).1&&(ad (t ρ).2).1&&(f ρ).1, .bad)else((t ρ).1&&(ad (t ρ).2).1, .next ρ):=by
 show(bif _ then(match(f ρ).2 with| .next ρ'=>_| .brk ρ'=>_|o=>_)else _)=_;generalize (f ρ).2=o
 induction o using gm.casesOn<;>rfl
theorem iP{f:V->Rho->Res}{ρ₀ ρ:Rho}{x:V}{xs:List V}:dc f ρ₀ (x::xs) ρ=gm.casesOn (f x ρ).2 (λρ'=>((f x ρ).1&&(dc f ρ₀ xs (mask ρ₀ ρ')).1,(dc f ρ₀ xs (mask ρ₀ ρ')).2)) (λρ'=>((f x ρ).1, .next (mask ρ₀ ρ'))) (λv=>((f x ρ).1, .ret v)) ((f x ρ).1, .bad):=by
 show(match(f x ρ).2 with| .next ρ'=>_| .brk ρ'=>_|o=>_)=_;generalize (f x ρ).2=o
 induction o using gm.casesOn<;>rfl
noncomputable def qZ(ns:List Nm)(okc c:Bool)(a b:Res):Res:=match a.2,b.2 with
 | .next ρ, .next ρ'=>(okc&&(bif c then a.1 else b.1), .next (gP ns c ρ ρ'))
 |_,_=>(false, .bad)
noncomputable def kQ(okc c:Bool)(a b:Res):Res:=(okc&&(bif c then a.1 else b.1),bif c then a.2 else b.2)
noncomputable def bJ(s:List Stmt):Bool := !qW (Ai 20) s
noncomputable def ex(Φ:Fns)(τ:Tau)(μ:List Nm)(W:Nat)(κ:List (Str×NameKind)):Nat->List Stmt->Rho->Res
 |0,_,_=>(false, .bad)
 |n+1,ss,ρ=>match ss with
  |[]=>(true, .next ρ)
  |s::rest=>match s with
   | .Assign ts e _=>let ρ:=freeze (bd 40 e) ρ
     seq (gR (ev Φ τ 40 κ ρ) κ μ ρ ts e) (ex Φ τ μ W κ n rest)
   | .AugAssign t op e _=>let ρ:=freeze (bd 40 e) ρ
     seq (qY (ev Φ τ 40 κ ρ) κ Φ ρ t op e) (ex Φ τ μ W κ n rest)
   | .Expr e _=>let ρ:=freeze (match e with| .Call _ as _ _=>hW (bd 40) as|_=>[]) ρ
     seq (oJ (ev Φ τ 40 κ ρ) κ ρ e) (ex Φ τ μ W κ n rest)
   | .Pass _=>ex Φ τ μ W κ n rest ρ
   | .Break _=>(true, .brk ρ)
   | .Return v _=>match v with
     |some e=>let ρ:=freeze (bd 40 e) ρ
      let x:=ev Φ τ 40 κ ρ e
      (x.1, .ret x.2)
     |none=>(true, .ret .none)
   | .If t a b _=>let ρ:=freeze (bd 40 t) ρ
     let c:=ev Φ τ 40 κ ρ t
     bif bJ a&&bJ b&&aR (fits 20) a&&aR (fits 20) b then
      seq (qZ (a0 (fw 20) a++a0 (fw 20) b) (c.1&&(ad c.2).1) (ad c.2).2 (ex Φ τ μ W κ n a ρ) (ex Φ τ μ W κ n b ρ)) (ex Φ τ μ W κ n rest)
     else kQ (c.1&&(ad c.2).1) (ad c.2).2 (ex Φ τ μ W κ n (a++rest) ρ) (ex Φ τ μ W κ n (b++rest) ρ)
   | .For t it b els _=>match els with
     |[]=>let ρ:=freeze (bd 40 it) ρ
      let xs:=ci κ (ev Φ τ 40 κ ρ) t it
      seq (let r:=dc (λv ρ=>let q:=bU t v ρ
       let r:=ex Φ τ μ W κ n b q.2
       (q.1&&r.1,r.2)) ρ xs.2 ρ
       (xs.1&&iq κ (bh t)&&r.1,r.2)) (ex Φ τ μ W κ n rest)
     |_=>(false, .bad)
   | .While t b els _=>match els with
     |[]=>let ρ:=freeze (bd 40 t) ρ
      seq (cS (λρ=>ev Φ τ 40 κ ρ t) (ex Φ τ μ W κ n b) W ρ) (ex Φ τ μ W κ n rest)
     |_=>(false, .bad)
   |_=>(false, .bad)
noncomputable def dD(κ:List (Str×NameKind)):List (Nm×V)->Rho
 |bs=>κ.filterMap λ(x,k)=>bif ag (some k)then some (nm x,match sO bs (nm x)with|some v => .val v|none => .un)else none
noncomputable def kR(r:Res):R:=match r.2 with
 | .ret v=>(r.1,v)
 | .next _=>(r.1, .none)
 |_=>bad
noncomputable def H8:List Expr->List Nm
 |[.Subscript (.Name x _) _ _]=>[nm x]
 |_=>[]
noncomputable def H9:Stmt->List Nm
 | .Assign ts _ _=>H8 ts
 | .Expr e _=>CE e
 |_=>[]
noncomputable def hZ:Nat->Stmt->List Nm
 |0,_=>[]
 |n+1,s=>match s with
  | .For _ _ b _ _=>a0 (hZ n) b
  | .While _ b _ _=>a0 (hZ n) b
  | .If _ a b _=>a0 (hZ n) a++a0 (hZ n) b
  |s=>H9 s
structure Def where
 params:List Nm
 body:List Stmt
 κ:List (Str×NameKind)
noncomputable def nF:List Nm->List V->List (Nm×V)
 |x::l,v::r=>(x,v)::nF l r
 |_,_=>[]
noncomputable def Ak:Option NameKind->Bool
 |some .local=>true
 |_=>false
noncomputable def uw(d:Def):Bool:=match d.params with
 |[] => !ay (kd d.κ (nm "chr"))
 |p::_ => !ay (kd d.κ (nm "chr"))||Ak (kd d.κ p)
noncomputable def dF(Φ:Fns)(τ:Tau)(W:Nat)(d:Def)(as:List V):R:=
 let r:=kR (ex Φ τ (a0 (hZ 20) d.body) W d.κ 200 d.body (dD d.κ (nF d.params as)))
 (Nat.beq d.params.length as.length&&uw d&&r.1,r.2)
theorem l8{M:Model}{Γ:Ctx}{p:Pos}{t:Sem PySem.Fin}{fs:List Frame}{s:Shared}{e:End}{s':Shared}(h:Runs M Γ p t fs s e s'):s.toks<=s'.toks:=by
 induction h with
 |done|raise|yield=>exact aq _
 |fresh _ ih=>exact ah (Nat.le_succ _) ih
 |call _ _ i j|segRet _ _ i j=>exact ah i j
 |resumeFresh _ _ _ _ i j|resumeSuspended _ _ _ _ i j=>exact ah i j
 |segGen _ _ i j=>exact ah i j
 |segSuspGen _ _ _ _ i j=>exact ah i j
 |_=>assumption
theorem bV{α:Type}{M:Model}{Γ:Ctx}{n:Nat}{Q:α->Pos->Shared->Prop}{E:Value->Pos->Shared->Prop}:∀(t:Sem α) (p:Pos) (s:Shared),n<=s.toks->Sem.wp M Γ t Q E p s->Sem.wp M Γ t (λa p' s'=>n<=s'.toks/\Q a p' s') (λe p' s'=>n<=s'.toks/\E e p' s') p s
 | .pure a,p,s,hn,h=>⟨hn,h⟩
 | .raise e,p,s,hn,h=>⟨hn,h⟩
 | .rule _ k,p,s,hn,h=>bV (k ()) p s hn h
 | .at p' k,p,s,hn,h=>bV (k ()) p' s hn h
 | .load a _ k,p,s,hn,h=>let⟨o,e,h⟩:=h;⟨o,e,bV (k o) p s hn h⟩
 | .update a _ f k,p,s,hn,h=>⟨h.1,bV (k ()) p { s with heap:=s.heap.update a f } hn h.2⟩
 | .loadIfAlive a k,p,s,hn,h=>bV (k _) p s hn h
 | .point _ k,p,s,hn,h=>bV (k ()) p s hn h
 | .alloc o k,p,s,hn,h=>bV (k _) p { s with heap:=s.heap.push o } hn h
 | .fresh k,p,s,hn,h=>bV (k _) p { s with toks:=s.toks+1 } (Nat.le_succ_of_le hn) h
 | .ask k,p,s,hn,h=>bV (k _) p s hn h
 | .choose src m k,p,s,hn,h=>⟨h.1,bV (k _) p { s with drawn:=s.drawn.bump src } hn h.2⟩
 | .os q _ k,p,s,hn,h=>bV (k _) p { s with os:=(Os.step s.os q).1 } hn h
 | .call c h' _ _ k,p,s,hn,h=>let⟨r,s',x,y⟩:=h;⟨r,s',x,bV (k r) p s' (ah hn (l8 x)) y⟩
 | .handled own k,p,s,hn,h=>bV (k _) p s hn h
 | .genState g k,p,s,hn,h=>let⟨st,e,h⟩:=h;⟨st,e,bV (k _) p s hn h⟩
 | .newGen c k,p,s,hn,h=>bV (k _) p { s with gens:=s.gens.push (.fresh c) } hn h
 | .resume g r _ k,p,s,hn,h=>by
   obtain⟨res,s',x,y⟩:=h;refine⟨res,s',x,bV (k res) p s' (ah hn ?_) y⟩;unfold Wakes at x
   split at x
   ·exact x.elim
   ·split at x
    ·obtain⟨e,s1,x1,_,_,rfl⟩:=x;exact(l8 x1:(s.setGen g .running).toks<=s1.toks)
    ·rw[x.2];exact aq _
    ·rw[x.2];exact aq _
   ·obtain⟨e,s1,x1,_,_,rfl⟩:=x;exact(l8 x1:(s.setGen g .running).toks<=s1.toks)
   ·rw[x.2];exact aq _
   ·rw[x.2];exact aq _
 | .stack k,p,s,hn,h=>bV (k _) p s hn h
 | .thread k,p,s,hn,h=>bV (k _) p s hn h
 | .unsupported _,_,_,_,h| .finish _,_,_,_,h| .register _ _,_,_,_,h| .yield _ _ _ _,_,_,_,h| .fork _ _,_,_,_,h| .await _ _ _ _ _,_,_,_,h=>h
theorem bA{α:Type}{M:Model}{A:Around}{t:Sem α}{Q:α->Shared->Prop}{E:Value->Shared->Prop}{s:Shared}(h:wpAny M A t (λa s'=>s.toks<=s'.toks->Q a s') E s):wpAny M A t Q E s:=λΓ p hΓ=>
 Sem.wp_mono M Γ t (λ_ _ _ k=>k.2 k.1) (λ_ _ _ k=>k.2) p s (bV t p s (aq _) (h Γ p hΓ))
noncomputable def dm{α:Type}(t:Sem α):Prop:=∀(M:Model) (Γ:Ctx) (Q:α->Pos->Shared->Prop) (E:Value->Pos->Shared->Prop) (p:Pos) (s:Shared),Sem.wp M Γ t Q E p s->Sem.wp M Γ t (λa p' s'=>s.toks<s'.toks/\Q a p' s') E p s
theorem Eo{α:Type}{M:Model}{Γ:Ctx}{n:Nat}{Q:α->Pos->Shared->Prop}{E:Value->Pos->Shared->Prop}{t:Sem α}{p:Pos}{s:Shared}(hn:n<=s.toks)(h:Sem.wp M Γ t Q E p s):Sem.wp M Γ t (λa p' s'=>n<=s'.toks/\Q a p' s') E p s:=
 Sem.wp_mono M Γ t (λ_ _ _ k=>k) (λ_ _ _ k=>k.2) p s (bV t p s hn h)
theorem dm.after{α β:Type}{x:Sem α}{f:α->Sem β}(h:∀a,dm (f a)):dm (x>>=f):=λM Γ Q E p s w=>by
 rw[Sem.wp_bind']at w |-;exact Sem.wp_mono M Γ x (λa p' s' k=>Sem.wp_mono M Γ (f a) (λb p2 s2 k2=>⟨dz k.1 k2.1,k2.2⟩) (λ_ _ _ e=>e) p' s' (h a M Γ Q E p' s' k.2)) (λ_ _ _ e=>e) p s (Eo (aq _) w)
theorem dm.first{α β:Type}{x:Sem α}{f:α->Sem β}(h:dm x):dm (x>>=f):=λM Γ Q E p s w=>by
 rw[Sem.wp_bind']at w |-;exact Sem.wp_mono M Γ x (λa p' s' k=>Eo (n:=s.toks+1) k.1 k.2) (λ_ _ _ e=>e) p s (h M Γ _ E p s w)
theorem uA(x:Str):dm (mkText x):=dm.first (x:=fresh) λM Γ Q E p s w=>⟨Nat.lt_succ_self _,w⟩
theorem wq(a:Addr)(x:Str)(v:Value):dm (nsSet a x v):=dm.after λ_=>dm.first (uA x)
theorem wt{scope:Scope}{globals:Addr}{n:Str}{v:Value}{r:List (Str×Value)}{qual:Str}{func:Option Addr}{code:Value}{builtins:Addr}(hk:scope.kind = .function)(hl:scope.names.lookup n=some .local):
 dm (newFunctionEnv scope globals [] ((n,v)::r) qual func code none builtins):=by
 unfold newFunctionEnv;refine dm.after λloc=>dm.after λcells => ?_
 refine dm.first ?_
 rw[List.forIn_cons];refine dm.first (dm.first ?_)
 rw[storeName_local (env:=_) (by exact hl) (by show((scope.kind == .class)||_)=false;rw[hk];rfl)];exact wq _ _ _
theorem wu{α:Type}{M:Model}{A:Around}{t:Sem α}{Q:α->Shared->Prop}{E:Value->Shared->Prop}{s:Shared}(st:dm t)(h:wpAny M A t (λa s'=>s.toks<s'.toks->Q a s') E s):wpAny M A t Q E s:=λΓ p hΓ=>
 Sem.wp_mono M Γ t (λ_ _ _ k=>k.2 k.1) (λ_ _ _ k=>k) p s (st M Γ _ _ p s (h Γ p hΓ))
structure Cfg where
 p:Program
 w:World
 C:Addr
 h0:Heap
noncomputable abbrev CJ(u:Value)(i:Int):Prop:=∃t,u = .int i t
inductive oK{α β:Type}(F:α->β->Prop):List α->List β->Prop
 |nil:oK F [] []
 |cons {a b l r}:F a b->oK F l r->oK F (a::l) (b::r)
inductive wv(G:Cfg)(X:Addr->Prop)(h:Heap)(a:Addr)(raw:List Nat)(n nt:Int)(cnt:List Int)(b:Int)(sm:Bool):Prop
 |mk (o:Obj) (d:Addr) (m:Str->Option Value) (T T2:Addr) (t:Tok) (vs:Array Value) (_:h.get? a=some o) (_:o.cls = .ref G.C) (_:o.dict=some d) (_:∀c,o.data ≠ .cls c) (_:d≠a) (_:¬X d) (_:h.Ns1 d m)
  (_:∀x:Str,x≠"raw"->x≠"n"->x≠"nt"->x≠"norm"->x≠"is_simple"->m x=none)
  (_:∃t,m "raw"=some (.str (tx raw) t)) (_:∃t,m "n"=some (.int n t)) (_:∃t,m "nt"=some (.int nt t)) (_:m "norm"=some (.ref T)) (_:m "is_simple"=some (.bool sm))
  (_:¬X T) (_:h.IsTuple T #[.ref T2, .int b t]) (_:¬X T2) (_:h.IsTuple T2 vs) (_:oK CJ vs.toList cnt)
inductive xQ(G:Cfg)(X:Addr->Prop)(h:Heap)(a:Addr)(raw:List Nat):Prop
 |mk (o:Obj) (d:Addr) (m:Str->Option Value) (t:Tok) (_:h.get? a=some o) (_:o.cls = .ref G.C) (_:o.dict=some d) (_:∀c,o.data ≠ .cls c) (_:d≠a) (_:¬X d) (_:h.Ns1 d m)
  (_:m "raw"=some (.str (tx raw) t)) (_:∀x:Str,x≠"raw"->m x=none)
mutual
noncomputable def ak(G:Cfg)(X:Addr->Prop)(h:Shared):V->Value->Prop
 | .none,u=>u = .none
 | .bool b,u=>u = .bool b
 | .int i,u=>∃t,u = .int i t
 | .str s,u=>∃t,u = .str (tx s) t
 | .list l,u=>∃a vs,u = .ref a/\¬X a/\h.heap.IsList a vs/\Reps G X h l vs.toList
 | .tup l,u=>∃a vs,u = .ref a/\¬X a/\h.heap.IsTuple a vs/\Reps G X h l vs.toList
 | .ws raw n nt cnt b sm,u=>∃a,u = .ref a/\¬X a/\wv G X h.heap a raw n nt cnt b sm
 | .obj a raw,u=>u = .ref a/\¬X a/\xQ G X h.heap a raw
 | .cls,u=>u = .ref G.C
 | .dict d,u=>∃a,u = .ref a/\¬X a/\h.heap.DictOf (PySem.strKind G.p G.w) a (d.map λx=>(tx x.1,Value.bool x.2))
 | .hid c,u=>∃t,u = .str (tx [c]) t/\0<t/\t<h.toks
noncomputable def Reps(G:Cfg)(X:Addr->Prop)(h:Shared):List V->List Value->Prop
 |[],vs=>vs=[]
 |x::l,vs=>∃v r,vs=v::r/\ak G X h x v/\Reps G X h l r
end
section
variable {G:Cfg} {X X':Addr->Prop} {h h':Shared}
structure On(X X':Addr->Prop)(h h':Shared):Prop where
 keep:∀b o,¬X b->h.heap.get? b=some o->h'.heap.get? b=some o
 off:∀b o,h.heap.get? b=some o->X' b->X b
 tk:h.toks<=h'.toks
theorem On.nx{b:Addr}{o:Obj}(e:On X X' h h')(n:¬X b)(g:h.heap.get? b=some o):¬X' b:=λx=>n (e.off b o g x)
theorem On.list{a:Addr}{vs:Array Value}(e:On X X' h h')(n:¬X a)(x:h.heap.IsList a vs):¬X' a/\h'.heap.IsList a vs:=
 let⟨o,g,r⟩:=x;⟨e.nx n g,o,e.keep a o n g,r⟩
theorem On.tuple{a:Addr}{vs:Array Value}(e:On X X' h h')(n:¬X a)(x:h.heap.IsTuple a vs):¬X' a/\h'.heap.IsTuple a vs:=
 let⟨o,g,r⟩:=x;⟨e.nx n g,o,e.keep a o n g,r⟩
theorem On.ws{a:Addr}{raw n nt cnt b sm}(e:On X X' h h')(q:¬X a)(x:wv G X h.heap a raw n nt cnt b sm):¬X' a/\wv G X' h'.heap a raw n nt cnt b sm:=by
 obtain⟨o,d,m,T,T2,t,vs,g,h1,h2,h3,h4,h5,h6,h60,h7,h8,h9,h10,h11,h12,h13,h14,h15,h16⟩:=x;have t1:=e.tuple h12 h13;have t2:=e.tuple h14 h15;obtain⟨od,es,ep,gd,rd⟩:=h6;exact⟨e.nx q g,⟨o,d,m,T,T2,t,vs,e.keep a o q g,h1,h2,h3,h4,e.nx h5 gd,⟨od,es,ep,e.keep d od h5 gd,rd⟩,h60,h7,h8,h9,h10,h11,t1.1,t1.2,t2.1,t2.2,h16⟩⟩
theorem On.obj{a:Addr}{raw}(e:On X X' h h')(q:¬X a)(x:xQ G X h.heap a raw):¬X' a/\xQ G X' h'.heap a raw:=by
 obtain⟨o,d,m,t,g,h1,h2,h3,h4,h5,h6,h7,h8⟩:=x;obtain⟨od,es,ep,gd,rd⟩:=h6;exact⟨e.nx q g,⟨o,d,m,t,e.keep a o q g,h1,h2,h3,h4,e.nx h5 gd,⟨od,es,ep,e.keep d od h5 gd,rd⟩,h7,h8⟩⟩
theorem ak.none_iff{u}:ak G X h .none u↔u = .none:=Iff.rfl
theorem ak.bool_iff{b u}:ak G X h (.bool b) u↔u = .bool b:=Iff.rfl
theorem ak.int_iff{i u}:ak G X h (.int i) u ↔ ∃t,u = .int i t:=Iff.rfl
theorem ak.str_iff{s u}:ak G X h (.str s) u ↔ ∃t,u = .str (tx s) t:=Iff.rfl
theorem ak.list_iff{l u}:ak G X h (.list l) u ↔ ∃a vs,u = .ref a/\¬X a/\h.heap.IsList a vs/\Reps G X h l vs.toList:=Iff.rfl
theorem ak.tup_iff{l u}:ak G X h (.tup l) u ↔ ∃a vs,u = .ref a/\¬X a/\h.heap.IsTuple a vs/\Reps G X h l vs.toList:=Iff.rfl
theorem ak.ws_iff{raw n nt cnt b sm u}:ak G X h (.ws raw n nt cnt b sm) u ↔ ∃a,u = .ref a/\¬X a/\wv G X h.heap a raw n nt cnt b sm:=Iff.rfl
theorem ak.obj_iff{a raw u}:ak G X h (.obj a raw) u↔u = .ref a/\¬X a/\xQ G X h.heap a raw:=Iff.rfl
theorem ak.dict_iff{d u}:ak G X h (.dict d) u ↔ ∃a,u = .ref a/\¬X a/\h.heap.DictOf (PySem.strKind G.p G.w) a (d.map λx=>(tx x.1,Value.bool x.2)):=Iff.rfl
theorem ak.hid_iff{c u}:ak G X h (.hid c) u ↔ ∃t,u = .str (tx [c]) t/\0<t/\t<h.toks:=Iff.rfl
theorem ak.cls_iff{u}:ak G X h .cls u↔u = .ref G.C:=Iff.rfl
theorem Reps.nil_iff{vs}:Reps G X h [] vs↔vs=[]:=Iff.rfl
theorem Reps.cons_iff{x l vs}:Reps G X h (x::l) vs ↔ ∃v r,vs=v::r/\ak G X h x v/\Reps G X h l r:=Iff.rfl
mutual
theorem ak.on(e:On X X' h h'):∀{v:V} {u:Value},ak G X h v u->ak G X' h' v u
 | .none,u,x=>x
 | .bool b,u,x=>x
 | .int i,u,x=>x
 | .str s,u,x=>x
 | .list l,u,x=>by
   obtain⟨a,vs,e1,n,hl,r⟩:=ak.list_iff.mp x;exact ak.list_iff.mpr ⟨a,vs,e1,(e.list n hl).1,(e.list n hl).2,Reps.on e r⟩
 | .tup l,u,x=>by
   obtain⟨a,vs,e1,n,hl,r⟩:=ak.tup_iff.mp x;exact ak.tup_iff.mpr ⟨a,vs,e1,(e.tuple n hl).1,(e.tuple n hl).2,Reps.on e r⟩
 | .ws raw k nt cnt b sm,u,x=>by
   obtain⟨a,e1,n,y⟩:=ak.ws_iff.mp x;exact ak.ws_iff.mpr ⟨a,e1,e.ws n y⟩
 | .obj a raw,u,x=>ak.obj_iff.mpr ⟨(ak.obj_iff.mp x).1,e.obj (ak.obj_iff.mp x).2.1 (ak.obj_iff.mp x).2.2⟩
 | .cls,u,x=>x
 | .dict d,u,x=>by
   obtain⟨a,e1,n,o,es,ep,ho,r⟩:=ak.dict_iff.mp x;exact ak.dict_iff.mpr ⟨a,e1,e.nx n ho,o,es,ep,e.keep a o n ho,r⟩
 | .hid c,u,x=>by
   obtain⟨t,e1,e2,e3⟩:=ak.hid_iff.mp x;exact ak.hid_iff.mpr ⟨t,e1,e2,dy e3 e.tk⟩
theorem Reps.on(e:On X X' h h'):∀{l:List V} {vs:List Value},Reps G X h l vs->Reps G X' h' l vs
 |[],vs,x=>x
 |y::l,vs,x=>by
  obtain⟨v,r,e1,h1,h2⟩:=Reps.cons_iff.mp x;exact Reps.cons_iff.mpr ⟨v,r,e1,ak.on e h1,Reps.on e h2⟩
end
theorem On.of_keeps(k:∀b o,h.heap.get? b=some o->h'.heap.get? b=some o)(t:h.toks<=h'.toks):On X X h h':=⟨λb o _ g=>k b o g,λ_ _ _ x=>x,t⟩
theorem On.trans{X'':Addr->Prop}{h'':Shared}(a:On X X' h h')(b:On X' X'' h' h''):On X X'' h h'':=
 ⟨λq o n g=>b.keep q o (a.nx n g) (a.keep q o n g),λq o g x=>by
   by_cases n:X q
   ·exact n
   ·exact absurd (b.off q o (a.keep q o n g) x) (a.nx n g),ah a.tk b.tk⟩
theorem ak.unh{v:V}{u:Value}(r:ak G X h v u):ak G X h (unh v) u:=by
 induction v using V.casesOn with
 |hid c=>obtain⟨t,e,_⟩:=ak.hid_iff.mp r;exact ak.str_iff.mpr ⟨t,e⟩
 |_=>exact r
theorem Reps.cons{x:V}{l:List V}{v:Value}{r:List Value}(a:ak G X h x v)(b:Reps G X h l r):Reps G X h (x::l) (v::r):=Reps.cons_iff.mpr ⟨v,r,rfl,a,b⟩
theorem Reps.nil:Reps G X h [] []:=Reps.nil_iff.mpr rfl
theorem Reps.unh:∀{l:List V} {vs:List Value},Reps G X h l vs->Reps G X h (l.map Mine.unh) vs
 |[],vs,x=>x
 |y::l,vs,x=>by
  obtain⟨v,r,rfl,h1,h2⟩:=Reps.cons_iff.mp x;exact Reps.cons h1.unh (Reps.unh h2)
theorem Reps.length:∀{l:List V} {vs:List Value},Reps G X h l vs->l.length=vs.length
 |[],vs,x=>by rw[Reps.nil_iff.mp x];rfl
 |y::l,vs,x=>by
  obtain⟨v,r,rfl,_,h2⟩:=Reps.cons_iff.mp x;simp[Reps.length h2]
theorem Reps.append:∀{l:List V} {vs:List Value} {l':List V} {vs':List Value},Reps G X h l vs->Reps G X h l' vs'->Reps G X h (l++l') (vs++vs')
 |[],vs,l',vs',x,y=>by rw[Reps.nil_iff.mp x];exact y
 |z::l,vs,l',vs',x,y=>by
  obtain⟨v,r,rfl,h1,h2⟩:=Reps.cons_iff.mp x;exact Reps.cons h1 (Reps.append h2 y)
theorem Reps.at:∀{l:List V} {vs:List Value} {k:Nat},Reps G X h l vs->k<l.length->∃u,vs[k]? = some u/\ak G X h (l.getD k .none) u
 |[],vs,k,x,hk=>by simp at hk
 |z::l,vs,k,x,hk=>by
  obtain⟨v,r,rfl,h1,h2⟩:=Reps.cons_iff.mp x
  induction k using Nat.casesOn with
  |zero=>exact⟨v,rfl,h1⟩
  |succ k=>
   obtain⟨u,e,q⟩:=Reps.at (k:=k) h2 (by simpa using hk);exact⟨u,by simpa using e,by simpa using q⟩
theorem Reps.set:∀{l:List V} {vs:List Value} {k:Nat} {x:V} {u:Value},Reps G X h l vs->ak G X h x u->Reps G X h (l.set k x) (vs.set k u)
 |[],vs,k,x,u,q,_=>by rw[Reps.nil_iff.mp q];simpa using Reps.nil
 |z::l,vs,k,x,u,q,p=>by
  obtain⟨v,r,rfl,h1,h2⟩:=Reps.cons_iff.mp q
  induction k using Nat.casesOn with
  |zero=>exact Reps.cons p h2
  |succ k=>exact Reps.cons h1 (Reps.set h2 p)
theorem Reps.drop:∀{l:List V} {vs:List Value} (k:Nat),Reps G X h l vs->Reps G X h (l.drop k) (vs.drop k)
 |l,vs,0,q=>q
 |[],vs,k+1,q=>by rw[Reps.nil_iff.mp q];exact Reps.nil
 |z::l,vs,k+1,q=>by
  obtain⟨v,r,rfl,h1,h2⟩:=Reps.cons_iff.mp q;exact Reps.drop k h2
theorem Reps.take:∀{l:List V} {vs:List Value} (k:Nat),Reps G X h l vs->Reps G X h (l.take k) (vs.take k)
 |l,vs,0,q=>by simpa using Reps.nil
 |[],vs,k+1,q=>by rw[Reps.nil_iff.mp q];exact Reps.nil
 |z::l,vs,k+1,q=>by
  obtain⟨v,r,rfl,h1,h2⟩:=Reps.cons_iff.mp q;exact Reps.cons h1 (Reps.take k h2)
end
end
section
open PySem PySem.W PySem.Calls PyProof.Rows
structure du(env:Env)(h:Heap)(g:Str->Option Value):Prop where
 ns:∃m,h.Ns env.locals m/\∀x,env.kindOf x=some .local->g x=m x
 cell:∀x,j1 (env.kindOf x)=true->∃c,env.cells.lookup x=some c/\h.IsCell c (g x)
 apart:env.cells.Pairwise λx y=>x.2≠y.2
noncomputable def fH(env:Env)(b:Addr):Prop:=b=env.locals\/∃x,(x,b)∈env.cells
noncomputable def am(env:Env)(X:Addr->Prop)(O:Nm->Option Addr)(b:Addr):Prop:=X b\/fH env b\/∃x,O x=some b
theorem du.off{env:Env}{h h':Heap}{g}(F:du env h g)(k:∀b o,fH env b->h.get? b=some o->h'.get? b=some o):du env h' g:=
 ⟨F.ns.imp λm h=>h.imp_left λh=>Exists.imp (λo h=>Exists.imp (λes h=>Exists.imp (λep h=>And.imp_left (k _ _ (.inl rfl)) h) h) h) h,λx hx=>(F.cell x hx).imp λc h=>⟨h.1,Exists.imp (λo e=>And.imp_left (k _ _ (.inr ⟨x,mem_of_lookup h.1⟩)) e) h.2⟩,F.apart⟩
theorem mR{h:Heap}{a:Addr}{m v}(x:h.Ns a m)(y:h.IsCell a v):False:=by
 obtain⟨o,es,ep,g,d,_⟩:=x;obtain⟨o',g',d'⟩:=y;rw[g]at g';cases g';rw[d]at d';cases d'
section
variable {M:Model} {A:Around} {E:Value->Shared->Prop} {s:Shared} {env:Env} {g:Str->Option Value}
theorem oL{k:Option NameKind}(h:ag k=true):k=some .local\/k=some .cell\/k=some .free:=by
 induction k using Option.casesOn with
 |none=>injections h
 |some k=>induction k using NameKind.casesOn<;>first|exact .inl rfl|exact .inr (.inl rfl)|exact .inr (.inr rfl)|injections h
theorem dG {x:Str} {u:Value} {Q:Value->Shared->Prop} (hk:env.scope.kind = .function) (F:du env s.heap g) (hx:ag (env.kindOf x)=true) (hn:(x==("__classdict__":Str))=false)
 (e:g x=some u) (h:Q u s):wpAny M A (loadName env x) Q E s:=by
 rcases oL hx with k|k|k
 ·obtain⟨m,hm,hg⟩:=F.ns
  exact wpAny_loadName_local hk k hm ((hg x k).symm.trans e) h
 ·obtain⟨c,hc,hv⟩:=F.cell x (by rw[k];rfl)
  exact wpAny_loadName_cell hk k hc (e▸hv) h
 ·obtain⟨c,hc,hv⟩:=F.cell x (by rw[k];rfl)
  exact wpAny_loadName_free hk k hc (e▸hv) h hn
theorem oM {name:Str} {c:Addr} {v₀:Option Value} {v:Value} {Q:Unit->Shared->Prop} (hk:env.scope.kind = .function) (hl:env.kindOf name=some .free)
 (hc:env.cells.lookup name=some c) (hv:s.heap.IsCell c v₀)
 (h:∀h',h'.IsCell c (some v)->Heap.SameBut c s.heap h'->Q () { s with heap:=h' }):wpAny M A (storeName env name v) Q E s:=by
 unfold storeName;rw[hl,hk];exact ae (wpAny_cellOf hc (wpAny_cellSet hv h))
noncomputable def gS(env:Env)(x:Str)(c:Addr):Prop:=(c=env.locals/\env.kindOf x=some .local)\/(env.kindOf x≠some .local/\env.cells.lookup x=some c)
theorem gS.own{x:Str}{c:Addr}(p:gS env x c):fH env c:=by
 rcases p with⟨e,_⟩|⟨_,e⟩
 ·exact .inl e
 ·exact .inr ⟨x,mem_of_lookup e⟩
theorem mS {x:Str} {v:Value} {Q:Unit->Shared->Prop} (hk:env.scope.kind = .function) (F:du env s.heap g) (hx:ag (env.kindOf x)=true)
 (h:∀h' tk c,gS env x c->du env h' (λy=>if y=x then some v else g y)->(∀b o,b≠c->s.heap.get? b=some o->h'.get? b=some o)->(∀b o,s.heap.get? b=some o->∃o',h'.get? b=some o') ->
   Q () { s with heap:=h',toks:=tk }):wpAny M A (storeName env x v) Q E s:=by
 obtain⟨m,hm,hg⟩:=F.ns;have cellCase:∀c,env.kindOf x≠some .local->env.cells.lookup x=some c->∀h',h'.IsCell c (some v)->Heap.SameBut c s.heap h'->Q () { s with heap:=h' }:=by
  intro c hnl hc h' hv hs;have hL:env.locals≠c:=λe=>by
   obtain⟨c',hc',hcv⟩:=F.cell x (by rcases oL hx with k|k|k<;>first|exact absurd k hnl|(rw[k];rfl));rw[hc]at hc';cases hc';exact mR (e▸hm) hcv
  refine h h' s.toks c (.inr ⟨hnl,hc⟩) ⟨⟨m,hm.sameBut hs hL,λy hy => ?_⟩,λy hy => ?_,F.apart⟩ (λb o hb e=>(hs.2 b hb).trans e) (λb o e => ?_)
  ·have:y≠x:=λe=>hnl (e▸hy)
   rw[if_neg this];exact hg y hy
  ·obtain⟨c',hc',hcv⟩:=F.cell y hy
   refine⟨c',hc', ?_⟩
   by_cases e:y=x
   ·subst e;rw[hc]at hc';cases hc';rw[if_pos rfl];exact hv
   ·rw[if_neg e]
    exact hcv.sameBut hs λq=>e (name_of_addr F.apart (mem_of_lookup hc') (q▸mem_of_lookup hc))
  ·by_cases q:b=c
   ·subst q;obtain⟨o',e',_⟩:=hv;exact⟨o',e'⟩
   ·exact⟨o,(hs.2 b q).trans e⟩
 rcases oL hx with k|k|k
 ·refine wpAny_storeName_local k hm (λh' hn' hs' => ?_) (by rw[hk];rfl)
  refine h h' _ env.locals (.inl ⟨rfl,k⟩) ⟨⟨_,hn',λy hy => ?_⟩,λy hy => ?_,F.apart⟩ (λb o hb e=>(hs'.2 b hb).trans e) (λb o e => ?_)
  ·by_cases e:y=x
   ·simp[e]
   ·simp only[if_neg e];exact hg y hy
  ·obtain⟨c,hc,hcv⟩:=F.cell y hy
   have e:y≠x:=λe=>by subst e;rw[k]at hy;injections hy
   refine⟨c,hc, ?_⟩;rw[if_neg e];exact hcv.sameBut hs' λq=>mR (q▸hm) hcv
  ·by_cases q:b=env.locals
   ·subst q;obtain⟨o',es,ep,e',_⟩:=hn';exact⟨o',e'⟩
   ·exact⟨o,(hs'.2 b q).trans e⟩
 ·obtain⟨c,hc,hv⟩:=F.cell x (by rw[k];rfl)
  exact wpAny_storeName_cell hk k hc hv (cellCase c (by rw[k];decide) hc)
 ·obtain⟨c,hc,hv⟩:=F.cell x (by rw[k];rfl)
  exact oM hk k hc hv (cellCase c (by rw[k];decide) hc)
end
noncomputable def ir(G:Cfg)(X:Addr->Prop)(h:Shared)(O:Option Addr):Slot->Option Value->Prop
 | .un,_=>True
 | .val v,w=>∃u,w=some u/\ak G X h v u
 | .own l,w=>∃a vs,w=some (.ref a)/\O=some a/\(∃n,h.heap.get? a=some { cls := .type "list",data := .seq vs n })/\Reps G X h l vs.toList
structure aw(env:Env)(κ:List (Str×NameKind)):Prop where
 kind:env.scope.kind = .function
 names:∀x,ag (env.kindOf x)=ag (kd κ (nm x))
 free:∀x,j1 (env.kindOf x)=j1 (kd κ (nm x))
 glob:∀x,ay (env.kindOf x)=ay (kd κ (nm x))
 plain:∀x,(ag (env.kindOf x)||ay (env.kindOf x))=true->(x==("__debug__":Str))=false/\(x==("__classdict__":Str))=false
 globals:env.globals=mainGlobals
 builtins:env.builtins=builtinsNs
structure cY(G:Cfg)(env:Env)(X:Addr->Prop)(O:Nm->Option Addr)(ρ:Rho)(h:Shared):Prop where
 old:∀b o,G.h0.get? b=some o->h.heap.get? b=some o
 new:∀b,am env X O b->G.h0.get? b=none
 alive:∀b,am env X O b->∃o,h.heap.get? b=some o
 look:∃g,du env h.heap g/\∀x,ag (env.kindOf x)=true->ir G (am env X O) h (O (nm x)) (lk ρ (nm x)) (g x)
 inj:∀x y a,O x=some a->O y=some a->x=y
 apart:∀x a,O x=some a->¬X a/\¬fH env a
 pos:ay (env.kindOf "chr")=true->0<h.toks
theorem ir.on{G:Cfg}{X X':Addr->Prop}{h h':Shared}{O:Option Addr}(e:On X X' h h')(k:∀a,O=some a->∀o,h.heap.get? a=some o->h'.heap.get? a=some o):∀{t:Slot} {w:Option Value},ir G X h O t w->ir G X' h' O t w
 | .un,_,_=>trivial
 | .val v,_,⟨u,e1,r⟩=>⟨u,e1,r.on e⟩
 | .own l,_,⟨a,vs,e1,e2,⟨n,e3⟩,r⟩=>⟨a,vs,e1,e2,⟨n,k a e2 _ e3⟩,Reps.on e r⟩
theorem du.keeps{env:Env}{h h':Heap}{g}(F:du env h g)(k:∀b o,h.get? b=some o->h'.get? b=some o):du env h' g:=F.off λb o _=>k b o
noncomputable def aM(s s':Shared):Prop:=∃h' tk,s'={ s with heap:=h',toks:=tk }/\(∀b o,s.heap.get? b=some o->h'.get? b=some o)/\s.toks<=tk
theorem Kp.refl(s:Shared):aM s s:=⟨s.heap,s.toks,rfl,λ_ _ e=>e,aq _⟩
theorem Kp.trans{a b c:Shared}(x:aM a b)(y:aM b c):aM a c:=by
 obtain⟨h,t,rfl,k,l⟩:=x;obtain⟨h',t',rfl,k',l'⟩:=y;exact⟨h',t',rfl,λb o e=>k' b o (k b o e),ah l l'⟩
theorem Kp.keep{a b:Shared}(x:aM a b):∀q o,a.heap.get? q=some o->b.heap.get? q=some o:=by
 obtain⟨h,t,rfl,k,_⟩:=x;exact k
theorem Kp.le{a b:Shared}(x:aM a b):a.toks<=b.toks:=by
 obtain⟨h,t,rfl,_,l⟩:=x;exact l
theorem Kp.toks(s:Shared)(t:Nat)(l:s.toks<=t:=by first|exact aq _|exact Nat.le_succ _|assumption):aM s { s with toks:=t }:=⟨s.heap,t,rfl,λ_ _ e=>e,l⟩
theorem Kp.push(s:Shared)(o:Obj)(t:Nat)(l:s.toks<=t:=by first|exact aq _|exact Nat.le_succ _|assumption):aM s { s with heap:=s.heap.push o,toks:=t }:=⟨_,t,rfl,λ_ _ e=>gG _ e,l⟩
theorem Kp.heap{s:Shared}{h':Heap}(t:Nat)(k:∀b o,s.heap.get? b=some o->h'.get? b=some o)(l:s.toks<=t:=by first|exact aq _|exact Nat.le_succ _|assumption):aM s { s with heap:=h',toks:=t }:=⟨h',t,rfl,k,l⟩
theorem Kp.on{X:Addr->Prop}{a b:Shared}(x:aM a b):On X X a b:=On.of_keeps (Kp.keep x) (Kp.le x)
theorem cY.keeps{G:Cfg}{env:Env}{X O ρ}{h h':Shared}(S:cY G env X O ρ h)(kp:aM h h'):cY G env X O ρ h' where
 old:=λb o e=>Kp.keep kp b o (S.old b o e)
 new:=S.new
 alive:=λb hb=>let⟨o,e⟩:=S.alive b hb;⟨o,Kp.keep kp b o e⟩
 look:=let⟨g,F,r⟩:=S.look;⟨g,F.keeps (Kp.keep kp),λx hx=>(r x hx).on (Kp.on kp) λa _ o e=>Kp.keep kp a o e⟩
 inj:=S.inj
 apart:=S.apart
 pos:=λch=>dy (S.pos ch) (Kp.le kp)
noncomputable def ia(G:Cfg)(A:Around)(env:Env)(X:Addr->Prop)(ρ:Rho)(t:Sem Value)(v:V):Prop:=
 ∀O s,cY G env X O ρ s->∀(E:Value->Shared->Prop) (Q:Value->Shared->Prop),(∀u s',aM s s'->ak G (am env X O) s' v u->Q u s')->wpAny (model G.p G.w) A t Q E s
structure ix(n:Nat)(A:Around):Prop where
 none:A.handled=none
 depth:A.depth+n<recursionLimit
 units:A.units+8*n+200<cLine
end
section
open PySem PySem.W PySem.Calls PyProof.Rows
noncomputable def aS(G:Cfg)(A:Around)(X:Addr->Prop)(t:Sem Value)(v:V)(s:Shared):Prop:=
 ∀(E:Value->Shared->Prop) (Q:Value->Shared->Prop),(∀u s',aM s s'->ak G X s' v u->Q u s')->wpAny (model G.p G.w) A t Q E s
noncomputable def bB(X:Addr->Prop)(h:Heap):Prop:=∀b,X b->∃o,h.get? b=some o
theorem bB.fresh{X:Addr->Prop}{h:Heap}(a:bB X h):¬X h.objs.size:=λx=>by
 obtain⟨o,e⟩:=a _ x;exact dl _ (Heap.lt_size e)
theorem bB.keeps{X:Addr->Prop}{h h':Heap}(a:bB X h)(k:∀b o,h.get? b=some o->h'.get? b=some o):bB X h':=λb x=>let⟨o,e⟩:=a b x;⟨o,k b o e⟩
theorem yH(h:Heap)(o:Obj):∀b o',h.get? b=some o'->(h.push o).get? b=some o':=λ_ _ e=>gG _ e
section
variable {G:Cfg} {A:Around} {X:Addr->Prop} {s:Shared}
theorem dg{l:List V}{vs:List Value}{tk:Nat}(a:bB X s.heap)(r:Reps G X s l vs)(hl:s.toks<=tk:=by first|exact aq _|exact Nat.le_succ _|assumption):
 ak G X { s with heap:=s.heap.push { cls := .type "list",data := .seq vs.toArray },toks:=tk } (.list l) (.ref s.heap.objs.size):=
 ak.list_iff.mpr ⟨_,vs.toArray,rfl,a.fresh,⟨_,di _ rfl,rfl,_,rfl⟩,by simpa using Reps.on (Kp.on (Kp.push s _ tk hl)) r⟩
theorem kS{l:List V}{vs:List Value}{tk:Nat}(a:bB X s.heap)(r:Reps G X s l vs)(hl:s.toks<=tk:=by first|exact aq _|exact Nat.le_succ _|assumption):
 ak G X { s with heap:=s.heap.push { cls := .type "tuple",data := .seq vs.toArray },toks:=tk } (.tup l) (.ref s.heap.objs.size):=
 ak.tup_iff.mpr ⟨_,vs.toArray,rfl,a.fresh,⟨_,di _ rfl,rfl,_,rfl⟩,by simpa using Reps.on (Kp.on (Kp.push s _ tk hl)) r⟩
theorem aV(s:List Nat):(tx s).length=s.length:=by simp[tx,Str.length]
theorem q8(a b:List Nat):tx (a++b)=tx a++tx b:=by
 unfold tx;show Str.mk _=Str.mk (a.toArray++b.toArray);simp
theorem Am{a b:List Nat}(h:tx a=tx b):a=b:=by
 simp only[tx,Str.mk.injEq]at h
 simpa using congrArg Array.toList h
theorem sV(a b:List Nat):(tx a==tx b)=Go a b:=by
 cases h:Go a b with
 |true=>rw[an.mp h];simp
 |false=>
  rw[beq_eq_false_iff_ne];intro e;rw[Am e]at h;rw[show Go b b=true from an.mpr rfl]at h;injections h
theorem xR(x:Str):tx (nm x)=x:=by cases x;simp[tx,nm]
theorem d9{n:Nat}(h:n<=cap):n<=sizeLine:=by rw[sizeLine_eq];unfold cap at h;omega
theorem bx{t:Sem Value}{i:Int}(h:∀(E:Value->Shared->Prop) (Q:Value->Shared->Prop),(∀k tk,Q (.int i k) { s with toks:=tk })->wpAny (model G.p G.w) A t Q E s):aS G A X t (.int i) s:=
 λE Q q=>bA (h E _ λk tk hle=>q _ _ (Kp.toks s tk hle) (ak.int_iff.mpr ⟨k,rfl⟩))
theorem fx{t:Sem Value}{x:List Nat}(h:∀(E:Value->Shared->Prop) (Q:Value->Shared->Prop),(∀k tk,Q (.str (tx x) k) { s with toks:=tk })->wpAny (model G.p G.w) A t Q E s):aS G A X t (.str x) s:=
 λE Q q=>bA (h E _ λk tk hle=>q _ _ (Kp.toks s tk hle) (ak.str_iff.mpr ⟨k,rfl⟩))
theorem uB{t:Sem Value}{b:Bool}(h:∀(E:Value->Shared->Prop) (Q:Value->Shared->Prop),(∀tk,Q (.bool b) { s with toks:=tk })->wpAny (model G.p G.w) A t Q E s):aS G A X t (.bool b) s:=
 λE Q q=>bA (h E _ λtk hle=>q _ _ (Kp.toks s tk hle) (ak.bool_iff.mpr rfl))
noncomputable def Seen(G:Cfg)(X:Addr->Prop)(h:Shared):V->Value->Prop
 | .list l,u=>∃a vs,u = .ref a/\h.heap.IsList a vs/\Reps G X h l vs.toList
 |v,u=>ak G X h v u
theorem Seen.of{h:Shared}{v:V}{u:Value}(r:ak G X h v u):Seen G X h v u:=by
 induction v using V.casesOn with
 |list l=>obtain⟨a,vs,e,_,hl,rr⟩:=ak.list_iff.mp r;exact⟨a,vs,e,hl,rr⟩
 |_=>exact r
theorem Seen.keeps{h h':Shared}{v:V}{u:Value}(k:aM h h')(r:Seen G X h v u):Seen G X h' v u:=by
 induction v using V.casesOn with
 |list l=>obtain⟨a,vs,e,⟨o,ho,hr⟩,rr⟩:=r;exact⟨a,vs,e,⟨o,Kp.keep k _ _ ho,hr⟩,Reps.on (Kp.on k) rr⟩
 |_=>exact ak.on (Kp.on k) r
theorem Seen.int{h:Shared}{i:Int}{u:Value}(r:Seen G X h (.int i) u):∃t,u = .int i t:=ak.int_iff.mp (show ak G X h (.int i) u from r)
theorem Seen.str{h:Shared}{x:List Nat}{u:Value}(r:Seen G X h (.str x) u):∃t,u = .str (tx x) t:=ak.str_iff.mp (show ak G X h (.str x) u from r)
theorem oN {l l':List V} {u u':Value} (h1:Seen G X s (.list l) u) (h2:ak G X s (.list l') u') (hs:l.length+l'.length<=cap)
 (E:Value->Shared->Prop) (Q:Value->Shared->Prop) (q':∀vs tk,Reps G X s (l++l') vs->Q (.ref s.heap.objs.size) { s with heap:=s.heap.push { cls := .type "list",data := .seq vs.toArray },toks:=tk }):
 wpAny (model G.p G.w) A (binaryOp .Add u u') Q E s:=by
 obtain⟨p,vs,rfl,hl,r1⟩:=h1;obtain⟨q,ws,rfl,n2,hb,r2⟩:=ak.list_iff.mp h2;have k:=q' _ s.toks (Reps.append r1 r2);obtain⟨⟨cls,dd,data,sl⟩,ho,hc,n,hd⟩:=hl;obtain⟨⟨cls2,dd2,data2,sl2⟩,ho2,hc2,n2,hd2⟩:=hb;simp only at hc hd hc2 hd2;subst hc hd hc2 hd2;have e:vs++ws=(vs.toList++ws.toList).toArray:=by simp
 refine concat_meets ⟨_,ho,rfl⟩ ⟨_,ho2,rfl⟩ noFill_list_add seq_list_add PySem.F.slot_list_add PySem.F.entry_list_add (PySem.F.args_list_add_2 _ _) (list_addW p q vs ws n n2 dd dd2 sl sl2 ?_) ⟨ho,ho2, ?_⟩
 ·have:=r1.length;have:=r2.length
  rw[<-c0,<-c0];exact d9 ⋯
 ·rw[e]
  exact k
theorem ww{l l':List V}{u u':Value}(a:bB X s.heap)(h1:Seen G X s (.list l) u)(h2:ak G X s (.list l') u')(hs:l.length+l'.length<=cap):
 aS G A X (binaryOp .Add u u') (.list (l++l')) s:=λE Q q=>bA (oN h1 h2 hs E _ λvs tk r hle=>q _ _ (Kp.push s _ tk hle) (dg a r hle))
theorem uC{l:List V}{vs:List Value}(r:Reps G X s l vs):∀k:Nat,Reps G X s (List.replicate k l).flatten (List.replicate k vs).flatten
 |0=>by simpa using Reps.nil
 |k+1=>by
  rw[List.replicate_succ,List.replicate_succ,List.flatten_cons,List.flatten_cons];exact Reps.append r (uC r k)
theorem oO {l:List V} {u:Value} {x:Int} {t:Tok} (h1:Seen G X s (.list l) u) (hx:x<=1000) (hlo : -(2^63:Int)<=x) (hs:l.length<=1000)
 (E:Value->Shared->Prop) (Q:Value->Shared->Prop) (q':∀vs tk,Reps G X s (jG l x) vs->Q (.ref s.heap.objs.size) { s with heap:=s.heap.push { cls := .type "list",data := .seq vs.toArray },toks:=tk }):
 wpAny (model G.p G.w) A (binaryOp .Mult u (.int x t)) Q E s:=by
 obtain⟨p,vs,rfl,hl,r1⟩:=h1;have q:=λtk=>q' _ tk (uC r1 x.toNat)
 obtain⟨⟨cls,d,data,sl⟩,ho,hcl,k,hd⟩:=hl;simp only at hcl hd;subst hcl hd;have hv:vs.size<=1000:=by rw[<-c0,<-Reps.length r1];exact hs
 have hsz':vs.size*x.toNat<=2^24:=ah (Nat.mul_le_mul hv (show x.toNat<=1000 by omega)) nofun;refine wpAny_binaryOp_repeat_ref (T:="list") (U:="int") nofun ⟨_,ho,rfl⟩ (λs'=>typeIs_int s' x t) noFill_list_mul PySem.F.fills_int_mul PySem.F.slot_int_rmul repeat_list PySem.F.slot_int_index.lookup
  (call_meets PySem.F.slot_int_rmul (typeIs_int s x t) PySem.F.entry_int_rmul (PySem.F.args_int_rmul_2 _ _) (lm_int_rmul_list_any x t p vs k d sl)
    ⟨ho,rfl,⟨_,ho,rfl⟩,call_meets PySem.F.slot_list_mul ⟨_,ho,rfl⟩ PySem.F.entry_list_mul (PySem.F.args_list_mul_2 _ _)
      (lm_list_mul_any p vs k d sl x t (by simp[Builtin.List.listFitsIndex];omega) ⋯ (by simp[Builtin.List.listTooLong,sizeLine];omega))
      ⟨ho, ?_⟩⟩)
 rw[listMul_foldl_if];exact q s.toks
theorem wx{l:List V}{u:Value}{x:Int}{t:Tok}(a:bB X s.heap)(h1:Seen G X s (.list l) u)(hx:x<=1000)(hlo : -(2^63:Int)<=x)(hs:l.length<=1000):
 aS G A X (binaryOp .Mult u (.int x t)) (.list (jG l x)) s:=λE Q q=>
 bA (oO h1 hx hlo hs E _ λvs tk r hle=>q _ _ (Kp.push s _ tk hle) (dg a r hle))
theorem oP{n:Nat}(h:n<=1000000000000000000):n.log2<60:=by
 by_cases e:n=0
 ·subst e;decide
 ·exact(Nat.log2_lt e).mpr ⋯
theorem j3{a:Int}(h:small a=true):Builtin.Int.intBits a<=64:=by
 unfold small big at h;simp only[aK,decide_eq_true_eq]at h;unfold Builtin.Int.intBits
 split
 ·omega
 ·have:=oP (n:=a.natAbs) ⋯
  omega
theorem uD{a b c:Prop}[Decidable a][Decidable b][Decidable c](h:(decide a&&decide b&&decide c)=true):a/\b/\c:=by
 simpa[and_assoc]using h
theorem j4{a:Prop}[Decidable a](h:(!decide a)=true):¬a:=by simpa using h
theorem j5{f:List Nat->R}{v:V}{u:Value}{c:Value->Sem Value}{h:Shared}(r:ak G X h v u)(ok:(mJ f v).1=true)(k:∀x t,(f x).1=true->aS G A X (c (.str (tx x) t)) (f x).2 s):aS G A X (c u) (mJ f v).2 s:=by
 induction v using V.casesOn with
 |str x=>obtain⟨t,rfl⟩:=ak.str_iff.mp r;exact k x t ok
 |_=>exact aa ok
theorem iQ{f:Int->R}{v:V}{u:Value}{c:Value->Sem Value}{h:Shared}(r:ak G X h v u)(ok:(qB f v).1=true)(k:∀x t,(f x).1=true->aS G A X (c (.int x t)) (f x).2 s):aS G A X (c u) (qB f v).2 s:=by
 induction v using V.casesOn with
 |int x=>obtain⟨t,rfl⟩:=ak.int_iff.mp r;exact k x t ok
 |_=>exact aa ok
theorem sW{f:List V->R}{v:V}{u:Value}{c:Value->Sem Value}{h:Shared}(r:ak G X h v u)(ok:(Gp f v).1=true)(k:∀x,ak G X h (.list x) u->(f x).1=true->aS G A X (c u) (f x).2 s):aS G A X (c u) (Gp f v).2 s:=by
 induction v using V.casesOn with
 |list x=>exact k x r ok
 |_=>exact aa ok
theorem kT{n:Int}{k:Nat}(h:Aa n k=true) : -1000<=n/\n<=1000/\k<=1000:=uD h
theorem sX{b:Int}(h:small b=true) : -big<=b/\b<=big:=by
 unfold small at h;rw[aK,decide_eq_true_eq,decide_eq_true_eq]at h;exact h
theorem CK{op:Operator}{a b:Int}{t t':Tok}(ok:(EL a b op).1=true):aS G A X (binaryOp op (.int a t) (.int b t')) (EL a b op).2 s:=by
 induction op using Operator.casesOn with
 |Add=>exact bx λE Q q=>add_int (q _ _)
 |Sub=>exact bx λE Q q=>sub_int (q _ _)
 |Mult=>exact bx λE Q q=>mul_int (q _ _) ((Bool.or_eq_true_iff.mp ok).elim (λk=>IntMulOk.of_left (j3 k)) λk=>IntMulOk.of_right (j3 k))
 |FloorDiv=>
  have ok':=bc ok;refine bx λE Q q=>floordiv_int (j4 ok'.1) (q _ _) (.inl ?_)
  have hb:=sX ok'.2;unfold big at hb;have hl:=oP (n:=b.natAbs) ⋯;unfold Builtin.divisionGoesByPylong;refine Bool.and_eq_false_iff.mpr (.inl (bg ?_));show ¬(if(b==0)=true then 0 else b.natAbs.log2/30+1)>300
  split<;>omega
 |Mod=>exact bx λE Q q=>mod_int' (j4 ok) (q _ _)
 |Pow=>
  have ok1:=bc ok;have h1:=bc ok1.1;have h2:=bc ok1.2;have g1:=aY h1.1;have g2:=aY h1.2;have g3:=aY h2.1;have g4:=aY h2.2;refine bx λE Q q=>pow_int g1 ?_ (q _ _)
  have hb:Builtin.Int.intBits a<=64:=j3 (by
   unfold small big;rw[ai ⋯,ai ⋯];rfl)
  have:(Builtin.Int.intBits a:Int)*b<=64*100:=Int.mul_le_mul ⋯ g2 g1 ⋯
  omega
 |_=>exact aa ok
theorem EY(a:bB X s.heap){op:Operator}{x y:V}{u v:Value}(ok:(dv op x y).1=true)(h1:Seen G X s x u)(h2:ak G X s y v):
 aS G A X (binaryOp op u v) (dv op x y).2 s:=by
 induction x using V.casesOn with
 |int i=>
  obtain⟨t,rfl⟩:=h1.int;exact iQ (c:=λv=>binaryOp op (.int i t) v) h2 ok λj t' ok=>CK ok
 |str x=>
  obtain⟨t,rfl⟩:=h1.str
  induction op using Operator.casesOn with
  |Add=>
   refine j5 (c:=λv=>binaryOp .Add (.str (tx x) t) v) h2 ok λy t' ok=>fx λE Q q=>add_str (λt' tk => ?_) (by rw[aV,aV];exact d9 (aY ok))
   rw[<-q8];exact q _ _
  |_=>exact aa ok
 |list x=>
  induction op using Operator.casesOn with
  |Add=>exact sW (c:=λv=>binaryOp .Add u v) h2 ok λy h2 ok=>ww a h1 h2 (aY ok)
  |Mult=>exact iQ (c:=λv=>binaryOp .Mult u v) h2 ok λj t' ok=>wx a h1 (kT ok).2.1 (Int.le_trans nofun (kT ok).1) (kT ok).2.2
  |_=>exact aa ok
 |_=>exact aa ok
theorem Ep{x y:V}{u v:Value}(ok:(EM x y).1=true)(h1:ak G X s x u)(h2:ak G X s y v):plainIs u v=true/\(u==v)=(EM x y).2:=by
 induction x using V.casesOn with
 |none=>induction y using V.casesOn with
  |none=>rw[ak.none_iff.mp h1,ak.none_iff.mp h2];exact⟨rfl,rfl⟩
  |_=>exact aa ok
 |bool c=>induction y using V.casesOn with
  |bool d=>
   rw[ak.bool_iff.mp h1,ak.bool_iff.mp h2];refine⟨rfl, ?_⟩
   induction c using Bool.casesOn<;>induction d using Bool.casesOn<;>rfl
  |_=>exact aa ok
 |str x=>induction y using V.casesOn with
  |none=>obtain⟨t,rfl⟩:=ak.str_iff.mp h1;rw[ak.none_iff.mp h2];exact⟨rfl,rfl⟩
  |_=>exact aa ok
 |_=>exact aa ok
theorem CL{op:CmpOp}{i j:Int}{t t':Tok}(ok:(EN i j op).1=true)(E:Value->Shared->Prop)(Q:Value->Shared->Prop)(q:Q (.bool (EN i j op).2) s):wpAny (model G.p G.w) A (compareOp op (.int i t) (.int j t')) Q E s:=by
 induction op using CmpOp.casesOn with
 |Lt=>exact lt_int q
 |LtE=>exact le_int q
 |Gt=>exact gt_int q
 |GtE=>exact ge_int q
 |Eq=>exact eq_int q
 |NotEq=>exact ne_int q
 |_=>exact aa ok
theorem xS {op:CmpOp} {b c:Bool} {u v:Value} (ok:(Cz b c op).1=true) (h1:b=true->∀(E:Value->Shared->Prop) (Q:Value->Shared->Prop),Q (.bool c) s->wpAny (model G.p G.w) A (compareOp .Eq u v) Q E s)
 (h2:b=true->∀(E:Value->Shared->Prop) (Q:Value->Shared->Prop),Q (.bool (!c)) s->wpAny (model G.p G.w) A (compareOp .NotEq u v) Q E s) (E:Value->Shared->Prop) (Q:Value->Shared->Prop) (q:Q (.bool (Cz b c op).2) s):wpAny (model G.p G.w) A (compareOp op u v) Q E s:=by
 induction op using CmpOp.casesOn with
 |Eq=>exact h1 ok E Q q
 |NotEq=>exact h2 ok E Q q
 |_=>exact aa ok
theorem CM(hu:A.units+200<cLine){op:CmpOp}{x y:V}{u v:Value}(ok:(EO op x y).1=true)(h1:ak G X s x u)(h2:ak G X s y v):
 ∀(E:Value->Shared->Prop) (Q:Value->Shared->Prop),Q (.bool (EO op x y).2) s->wpAny (model G.p G.w) A (compareOp op u v) Q E s:=by
 induction x using V.casesOn with
 |int i=>induction y using V.casesOn with
  |int j=>obtain⟨t,rfl⟩:=ak.int_iff.mp h1;obtain⟨t',rfl⟩:=ak.int_iff.mp h2;exact CL ok
  |_=>exact aa ok
 |str i=>induction y using V.casesOn with
  |str j=>
   obtain⟨t,rfl⟩:=ak.str_iff.mp h1;obtain⟨t',rfl⟩:=ak.str_iff.mp h2;exact xS ok (λ_ E Q q=>eq_str (by rw[sV];exact q)) λ_ E Q q=>ne_str (by unfold bne;rw[sV];exact q)
  |_=>exact aa ok
 |bool i=>induction y using V.casesOn with
  |bool j=>rw[ak.bool_iff.mp h1,ak.bool_iff.mp h2];exact xS ok (λ_ E Q q=>eq_bool q) λ_ E Q q=>ne_bool q
  |_=>exact aa ok
 |_=>exact aa ok
theorem xT{h:Shared}:∀{l:List V} {vs:List Value},(l.all λy=>(mL y).isSome)=true->Reps G X h l vs->StrsAre vs (l.map λy=>tx ((mL y).getD []))
 |[],vs,_,r=>by rw[Reps.nil_iff.mp r];exact .nil
 |x::l,vs,a,r=>by
  obtain⟨v,r',rfl,h1,h2⟩:=Reps.cons_iff.mp r;have a:=bc (show((mL x).isSome&&l.all λy=>(mL y).isSome)=true from a)
  induction x using V.casesOn with
  |str s=>obtain⟨t,rfl⟩:=ak.str_iff.mp h1;exact .cons _ t (xT a.2 h2)
  |_=>exact aa a.1
theorem uE(x:List Nat):∀l:List V,(l.map λy=>tx ((mL y).getD [])).any (· == tx x)=l.any λy=>Go ((mL y).getD []) x
 |[]=>rfl
 |y::l=>by rw[aC,List.any_cons,List.any_cons,uE x l,sV]
theorem GM{x y:V}{u v:Value}(ok:(HB x y).1=true)(h1:ak G X s x u)(h2:ak G X s y v)(E:Value->Shared->Prop)(Q:Value->Shared->Prop)(q:Q (.bool (HB x y).2) s):wpAny (model G.p G.w) A (compareOp .In u v) Q E s:=by
 induction x using V.casesOn with
 |str x=>induction y using V.casesOn with
  |tup l=>
   obtain⟨t,rfl⟩:=ak.str_iff.mp h1;obtain⟨a,vs,rfl,_,hl,r⟩:=ak.tup_iff.mp h2;refine in_tuple_strs hl (xT ok r) ?_;rw[uE];exact q
  |_=>exact aa ok
 |_=>exact aa ok
theorem l9(hu:A.units+200<cLine){op:CmpOp}{x y:V}{u v:Value}(ok:(gQ op x y).1=true)(h1:ak G X s x u)(h2:ak G X s y v):
 ∀(E:Value->Shared->Prop) (Q:Value->Shared->Prop),Q (.bool (gQ op x y).2) s->wpAny (model G.p G.w) A (compareOp op u v) Q E s:=by
 induction op using CmpOp.casesOn with
 |Is=>
  have:=Ep (show(EM x y).1=true from ok) h1 h2;exact λE Q q=>wpAny_is_plain this.1 (this.2▸q)
 |IsNot=>
  have:=Ep (show(EM x y).1=true from ok) h1 h2;exact λE Q q=>wpAny_isNot_plain this.1 (by rw[this.2];exact q)
 |In=>exact GM ok h1 h2
 |_=>exact CM hu ok h1 h2
end
end
section
open PySem PySem.W PySem.Calls PyProof.Rows
section
variable {prog:Program} {w:World} {A:Around} {E:Value->Shared->Prop} {s:Shared} {env:Env}
theorem kU(slice:Expr)(o i:Value)(M:Model){A:Around}{E s}{Q:Value->Shared->Prop}(h:wpAny M A (getItem o i) Q E s):wpAny M A (subscripted slice false o i) Q E s:=by
 induction slice using Expr.casesOn with
 |Slice lo hi st p=>induction st using Option.casesOn with
  |_=>exact wpAny_operating h
 |_=>exact wpAny_operating h
theorem xU {value slice:Expr} {pos:Pos} {Q:Value->Shared->Prop}
 (h:wpAny (model prog w) A (eval value env) (λo s₁=>wpAny (model prog w) A (eval slice env) (λi s₂=>ItemOn (model prog w) A E o i Q s₂) E s₁) E s):
 wpAny (model prog w) A (eval (.Subscript value slice pos) env) Q E s:=by
 rw[eval_Subscript];refine ae (bK h (λo s₁ h₁=>ae (bQ (bK h₁ (λi s₂ h₂=>ae (dw ?_)) λ_ _ x=>x)))
  λ_ _ x=>x)
 obtain⟨T,id,hl,hT,hg⟩:=h₂;refine ae ?_;rw[getitemInPython_of_ne hT.not_modules];refine ae (wpAny_specialOf hT hl ?_);have fin:wpAny (model prog w) A (subscripted slice false o i) (λr s₃=>wpAny (model prog w) A (letTemporaryGo value o r>>=λ_=>pure r) Q E s₃) E s₂:=
  kU slice o i _ (bK hg (λr s₃ h₃=>ae (wpAny_letTemporaryGo (ar h₃))) λ_ _ x=>x)
 first
  |exact ar (ae fin)
  |exact ae (ar (ae fin))
  |exact ae fin
end
section
variable {G:Cfg} {A:Around} {X:Addr->Prop} {s:Shared}
theorem q9{x:V}{u:Value}(ok:(ad x).1=true)(h1:ak G X s x u):
 ∀(E:Value->Shared->Prop) (Q:Bool->Shared->Prop),(∀tk,Q (ad x).2 { s with toks:=tk })->wpAny (model G.p G.w) A (truthy u) Q E s:=by
 intro E Q q
 induction x using V.casesOn with
 |bool b=>rw[ak.bool_iff.mp h1];exact wpAny_truthy_bool (q s.toks)
 |int i=>
  obtain⟨t,rfl⟩:=ak.int_iff.mp h1;exact PyProof.Rows.truthy_int (q s.toks)
 |str x=>
  obtain⟨t,rfl⟩:=ak.str_iff.mp h1;have ok':x.length<=cap:=aY ok;unfold cap at ok';refine PySem.P.truthy_str (by rw[aV];omega) ?_;have e:(((tx x).length:Int)!=0)=(ad (.str x)).2:=by
   rw[aV]
   induction x using List.casesOn with
   |nil=>rfl
   |cons c x=>exact bne_iff_ne.mpr λe=>Nat.succ_ne_zero _ (Int.ofNat.inj e)
  rw[e];exact q _
 |hid c=>
  obtain⟨t,rfl,_⟩:=ak.hid_iff.mp h1;refine PySem.P.truthy_str (by rw[aV,show[c].length=1 from rfl];omega) ?_;exact q _
 |_=>injections ok
theorem GN{op:UnaryOp}{x:V}{u:Value}(ok:(HC op x).1=true)(h1:ak G X s x u):aS G A X (unaryOp op u) (HC op x).2 s:=by
 induction op using UnaryOp.casesOn with
 |Not=>exact uB λE Q q=>not_of (q9 ok h1 E _ λtk=>q tk)
 |USub=>exact iQ (c:=λu=>unaryOp .USub u) h1 ok λi t ok=>bx λE Q q=>PyProof.Rows.neg_int (q _ _)
 |_=>exact aa ok
noncomputable def aH(G:Cfg)(A:Around)(X:Addr->Prop)(o i:Value)(v:V)(s:Shared):Prop:=
 ∀(E:Value->Shared->Prop) (Q:Value->Shared->Prop),(∀u s',aM s s'->ak G X s' v u->Q u s')->ItemOn (model G.p G.w) A E o i Q s
theorem iR{p:V->Bool}{l:List V}{k:Nat}(h:k<l.length)(a:l.all p=true):p (l.getD k .none)=true:=by
 rw[List.all_eq_true]at a;have e:l.getD k .none=l[k]:=by simp[h]
 rw[e];exact a _ (List.getElem_mem _)
theorem oQ{l:List V}{k:Nat}(h:k<l.length):uq l k=l.getD k .none:=by
 unfold uq;cases h1:l.all xE with
 |true=>exact og (iR h h1)
 |false=>
  cases h2:l.all yE with
  |true=>exact oh (iR h h2)
  |false=>
   cases h3:l.all Gm with
   |true=>exact wm (iR h h3)
   |false=>
    cases h4:l.all Gn with
    |true=>exact z9 (iR h h4)
    |false=>
     cases h5:l.all GA with
     |true=>exact wn (iR h h5)
     |false=>rfl
theorem dH{n:Nat}{i:Int}(h:bP n i=true) : -(n:Int)<=i/\i<n:=
 have h:=bc h
 ⟨aY h.1,aY h.2⟩
theorem iS{n:Nat}{i:Int}(h:bP n i=true):place n i<n/\((0<=i/\place n i=i.toNat)\/(i<0/\place n i=(i+n).toNat)):=by
 have h:=dH h;unfold place
 by_cases hi:i<0
 ·rw[ai hi];exact⟨by show(i+(n:Int)).toNat<n;omega, .inr ⟨hi,rfl⟩⟩
 ·rw[bg hi];exact⟨by show i.toNat<n;omega, .inl ⟨⋯,rfl⟩⟩
theorem mT{n:Nat}{i:Int}(h:bP n i=true):seqIndex? i n=some (place n i):=by
 obtain⟨hp,hc⟩:=iS h;have h:=dH h;show(if(decide (0<=(if i<0 then i+(n:Int)else i))&&decide ((if i<0 then i+(n:Int)else i)<n))=true then some (if i<0 then i+(n:Int)else i).toNat else none)=_
 rcases hc with⟨h0,hc⟩|⟨h0,hc⟩
 ·rw[show(if i<0 then i+(n:Int)else i)=i from if_neg ⋯,if_pos (by rw[ai h0,ai h.2];rfl),hc]
 ·rw[show(if i<0 then i+(n:Int)else i)=i+n from if_pos h0,if_pos (by rw[ai ⋯,ai ⋯];rfl),hc]
theorem yI{l:List V}{u:Value}{i:Int}{t:Tok}(hn:l.length<=cap)(h:bP l.length i=true)(h1:Seen G X s (.list l) u):aH G A X u (.int i t) (l.getD (place l.length i) .none) s:=by
 intro E Q q;obtain⟨a,vs,rfl,hl,r⟩:=h1;have hsz:vs.size=l.length:=by rw[<-c0,<-Reps.length r]
 obtain⟨hp,hc⟩:=iS h;obtain⟨x,e,hx⟩:=Reps.at r hp;rw[Array.getElem?_toList]at e;unfold cap at hn;refine⟨"list",_,PySem.F.slot_list_getitem.lookup,hl.typeIs, ?_⟩;have q':=q x s (Kp.refl s) hx;have hb:=dH h
 rcases hc with⟨h0,hc⟩|⟨h0,hc⟩
 ·exact wpAny_getItem_list hl h0 ⋯ (by rw[<-hc];exact e) q'
 ·exact wpAny_getItem_list_neg hl h0 (by rw[hsz];exact hb.1) ⋯ (by rw[hsz,<-hc];exact e) q'
theorem An{l:List V}{u:Value}{i:Int}{t:Tok}(hn:l.length<=cap)(h:bP l.length i=true)(h1:ak G X s (.tup l) u):aH G A X u (.int i t) (l.getD (place l.length i) .none) s:=by
 intro E Q q;obtain⟨a,vs,rfl,n,hl,r⟩:=ak.tup_iff.mp h1;have hsz:vs.size=l.length:=by rw[<-c0,<-Reps.length r]
 obtain⟨x,e,hx⟩:=Reps.at r (iS h).1;rw[Array.getElem?_toList]at e;have hb:=dH h;unfold cap at hn;exact⟨"tuple",_,PySem.F.slot_tuple_getitem.lookup,hl.typeIs,getItem_tuple hl ⋯ ⋯ (by rw[hsz];exact mT h) e (q x s (Kp.refl s) hx)⟩
theorem Ao{x:List Nat}{i:Int}{t t':Tok}(hn:x.length<=cap)(h:bP x.length i=true):aH G A X (.str (tx x) t) (.int i t') (.str [x.getD (place x.length i) 0]) s:=by
 intro E Q q;obtain⟨hp,hc⟩:=iS h;have hb:=dH h;unfold cap at hn;refine⟨"str",_,PySem.F.slot_str_getitem.lookup,typeIs_str _ _ _,getItem_str (c:=x.getD (place x.length i) 0) ?_ ?_ (q _ _ (Kp.toks s _) (ak.str_iff.mpr ⟨s.toks,rfl⟩))⟩
 ·rw[bg ⋯,bg ⋯];rfl
 ·rw[aV,mT h]
  show(tx x).cps[place x.length i]? = _;simp[tx,hp]
end
end
section
open PySem PySem.W PySem.Calls PyProof.Rows
open Builtin.Str (strSliceIndices)
section
variable {α:Type}
theorem rh(l:List α):∀k a:Nat,((List.range k).map λj=>a+j).filterMap (l[·]?)=(l.drop a).take k
 |0,a=>by simp
 |k+1,a=>by
  have ih:=rh l k (a+1);rw[List.range_succ_eq_map,aC,dQ];have e:((λj=>a+j)∘Nat.succ)=λj=>a+1+j:=by funext j;simp only[Function.comp];omega
  rw[e,List.filterMap_cons,ih]
  by_cases h:a<l.length
  ·rw[List.drop_eq_getElem_cons h,List.take_succ_cons]
   simp[h]
  ·rw[ft (by omega:l.length<=a),ft (by omega:l.length<=a+1)]
   simp[List.getElem?_eq_none (by omega:l.length<=a)]
theorem oR(a b:Nat):sliceRange a b 1=(List.range (b-a)).map λj=>a+j:=by
 unfold sliceRange;rw[if_pos nofun];have e:(if(a:Int)<b then((b:Int)-a+1-1)/1 else 0).toNat=b-a:=by
  split
  ·rw[Int.ediv_one];omega
  ·omega
 simp only[e];apply List.map_congr_left;intro k _
 omega
noncomputable def ga(n:Nat)(lo:Option Int)(d:Nat):Nat:=match lo with|none=>d|some i=>bound n i
theorem oS(n:Nat)(i:Int):max 0 (min (if i<0 then i+n else i) (n:Int))=(bound n i:Int):=by
 unfold bound
 by_cases h:i<0
 ·rw[if_pos h,ai h]
  show _=((i+(n:Int)).toNat:Int);rw[Int.min_eq_left ⋯,Int.max_comm,Int.ofNat_toNat]
 ·rw[if_neg h,bg h]
  obtain⟨k,rfl⟩:=Int.eq_ofNat_of_zero_le (Int.not_lt.mp h);show _=((min k n:Nat):Int)
  rcases Nat.le_total k n with e|e
  ·rw[Nat.min_eq_left e,Int.min_eq_left (Int.ofNat_le.mpr e)];exact Int.max_eq_right (Int.natCast_nonneg _)
  ·rw[Nat.min_eq_right e,Int.min_eq_right (Int.ofNat_le.mpr e)];exact Int.max_eq_right (Int.natCast_nonneg _)
theorem oU(l:List α)(lo hi:Option Int):mM l lo hi=(l.drop (ga l.length lo 0)).take (ga l.length hi l.length-ga l.length lo 0):=by
 unfold mM ga;induction lo using Option.casesOn<;>injections hi<;>rfl
theorem ri(n:Nat)(lo hi:Option Int):strSliceIndices lo hi 1 n=(List.range (ga n hi n-ga n lo 0)).map λj=>ga n lo 0+j:=by
 rw[<-oR];unfold strSliceIndices ga
 induction lo using Option.casesOn<;>injections hi<;>simp only[show(1:Int)>0 by decide,if_true,oS]<;>rfl
theorem rj(l:List α)(lo hi:Option Int):(strSliceIndices lo hi 1 l.length).filterMap (l[·]?)=mM l lo hi:=by
 rw[ri,rh,oU]
theorem rk(n:Nat)(lo:Option Int){d:Nat}(h:d<=n):ga n lo d<=n:=by
 induction lo using Option.casesOn with
 |none=>exact h
 |some i=>
  show bound n i<=n;have:=oS n i
  omega
theorem yJ(l:List α)(lo hi:Option Int)(h:(strSliceIndices lo hi 1 l.length).length=l.length):mM l lo hi=l:=by
 rw[ri,aW,List.length_range]at h;have h1:=rk l.length lo (bw _);have h2:=rk l.length hi (aq _);rw[oU]
 by_cases e:l.length=0
 ·rw[List.eq_nil_of_length_eq_zero e];simp
 ·rw[show ga l.length lo 0=0 by omega,show ga l.length hi l.length=l.length by omega];simp
theorem nG(lo hi:Option Int)(n:Nat):sliceRange (sliceBounds lo hi none n).1 (sliceBounds lo hi none n).2.1 (sliceBounds lo hi none n).2.2=strSliceIndices lo hi 1 n:=by
 unfold sliceBounds strSliceIndices
 induction lo using Option.casesOn<;>injections hi<;>rfl
theorem qE(vs:Array Value)(lo hi:Option Int):slicePick vs lo hi none=(mM vs.toList lo hi).toArray:=by
 unfold slicePick;rw[nG,<-rj];simp
theorem nH(vs:Array Value)(a k:Int)(h0:0<=a)(h1:1<=k):slicePick vs (some a) none (some k)=(dC k a vs.toList).toArray:=by
 unfold slicePick dC sliceBounds;have hk:k>0:=⋯;have ha:¬a<0:=⋯;simp only[Option.getD_some,hk,if_true,if_neg ha];simp
theorem Ap{h:Shared}{l:List V}{vs:List Value}(r:Reps G X h l vs)(k:Nat):(l[k]? = none/\vs[k]? = none)\/∃x u,l[k]? = some x/\vs[k]? = some u/\ak G X h x u:=by
 have hl:=r.length
 by_cases hk:k<l.length
 ·obtain⟨u,e,q⟩:=Reps.at r hk
  refine .inr ⟨l[k],u,by simp[hk],e, ?_⟩;have e2:l.getD k .none=l[k]:=by simp[hk]
  rw[<-e2];exact q
 ·exact .inl ⟨List.getElem?_eq_none ⋯,List.getElem?_eq_none ⋯⟩
theorem rm{h:Shared}{l:List V}{vs:List Value}(r:Reps G X h l vs):∀ks:List Nat,Reps G X h (ks.filterMap (l[·]?)) (ks.filterMap (vs[·]?))
 |[]=>Reps.nil
 |k::ks=>by
  have ih:=rm r ks;rw[List.filterMap_cons,List.filterMap_cons]
  rcases Ap r k with⟨e1,e2⟩|⟨x,u,e1,e2,q⟩
  ·rw[e1,e2];exact ih
  ·rw[e1,e2];exact Reps.cons q ih
theorem Aq{f:Option Int->R}{v:V}{u:Value}{P:R->Prop}(r:ak G X s v u)(ok:(xF f v).1=true)(k:∀k,(f k).1=true->IsPart u k->(∃l:Option (Int×Tok),u=partValue l/\l.map (·.1)=k)->P (f k)):P (xF f v):=by
 induction v using V.casesOn with
 |none=>rw[ak.none_iff.mp r]at k;exact k _ ok .none ⟨none,rfl,rfl⟩
 |int i=>obtain⟨t,rfl⟩:=ak.int_iff.mp r;exact k _ ok (.int i t) ⟨some (i,t),rfl,rfl⟩
 |_=>exact aa ok
theorem EZ{v:V}{u:Value}(h:wl v=true)(r:ak G X s v u):u = .none:=by
 induction v using V.casesOn with
 |none=>exact ak.none_iff.mp r
 |_=>exact aa h
theorem oV{f:Int->R}{v:V}{u:Value}{P:R->Prop}(r:ak G X s v u)(ok:(qB f v).1=true)(k:∀i t,u = .int i t->(f i).1=true->P (f i)):P (qB f v):=by
 induction v using V.casesOn with
 |int i=>obtain⟨t,e⟩:=ak.int_iff.mp r;exact k i t e ok
 |_=>exact aa ok
theorem yK {x:List Nat} {t:Tok} {va vb vc:Value} {lo hi:Option Int} {sl:Addr} (hl:s.heap.IsSliceOf sl va vb vc) (hn:x.length<=cap)
 (pa:∃l:Option (Int×Tok),va=partValue l/\l.map (·.1)=lo) (pb:∃l:Option (Int×Tok),vb=partValue l/\l.map (·.1)=hi) (pc:vc = .none):
 aH G A X (.str (tx x) t) (.ref sl) (.str (mM x lo hi)) s:=by
 intro E Q q;obtain⟨l,rfl,e1⟩:=pa;obtain⟨u,rfl,e2⟩:=pb;subst pc;have hs:s.heap.IsSlice sl l u none:=hl;refine⟨"str",_,PySem.F.slot_str_getitem.lookup,typeIs_str _ _ _,wpAny_getItem_str_slice hs rfl ?_⟩;unfold sliceMade slicePicked;have e3:((Option.map (λx=>x.fst) (none:Option (Int×Tok))).getD 1)=(1:Int):=rfl;rw[e1,e2,e3,aV]
 split
 ·rename_i h
  rw[aK]at h;have e:=yJ x lo hi (by simpa using h.2);exact q _ _ (Kp.refl _) (ak.str_iff.mpr ⟨t,by rw[e]⟩)
 ·have e:(⟨((strSliceIndices lo hi 1 x.length).filterMap ((tx x).cps[·]?)).toArray⟩:Str)=tx (mM x lo hi):=by
   rw[<-rj];unfold tx;simp
  rw[e];refine⟨?_,q _ _ (Kp.toks s (s.toks+1)) (ak.str_iff.mpr ⟨s.toks,rfl⟩)⟩;have hle:(mM x lo hi).length<=x.length:=by rw[oU,cR,dj];omega
  rw[aV];exact d9 ⋯
theorem oW {l:List V} {u va vb vc:Value} {lo hi st:Option Int} {sl:Addr} {r:List V} (al:bB X s.heap) (hl:s.heap.IsSliceOf sl va vb vc) (hn:l.length<=cap)
 (h1:ak G X s (.list l) u) (pa:IsPart va lo) (pb:IsPart vb hi) (pc:IsPart vc st) (h0:st≠some 0)
 (hr:∀vs:Array Value,Reps G X s l vs.toList->Reps G X s r (slicePick vs lo hi st).toList):
 aH G A X u (.ref sl) (.list r) s:=by
 intro E Q q;obtain⟨a,vs,rfl,n,hls,rr⟩:=ak.list_iff.mp h1;have hsz:vs.size=l.length:=by rw[<-c0,<-Reps.length rr]
 refine⟨"list",_,PySem.F.slot_list_getitem.lookup,hls.typeIs,wpAny_getItem_list_slice hls hl pa pb pc h0 ?_ (by rw[hsz];exact d9 hn)⟩;have:=dg al (hr vs rr);exact q _ _ (Kp.push s _ s.toks) this
theorem oX {a b:V} {u va vb:Value} {sl:Addr} {f:Option Int->Option Int->R} (h2:ak G X s a va) (h3:ak G X s b vb) (ok:(xF (λa=>xF (λb=>f a b) b) a).1=true)
 (k:∀x y,(f x y).1=true->IsPart va x->IsPart vb y->(∃l:Option (Int×Tok),va=partValue l/\l.map (·.1)=x)->(∃l:Option (Int×Tok),vb=partValue l/\l.map (·.1)=y)->aH G A X u (.ref sl) (f x y).2 s):
 aH G A X u (.ref sl) (xF (λa=>xF (λb=>f a b) b) a).2 s:=
 Aq (P:=λr=>aH G A X u (.ref sl) r.2 s) h2 ok λx ok p p'=>Aq (P:=λr=>aH G A X u (.ref sl) r.2 s) h3 ok λy ok q q'=>k x y ok p q p' q'
theorem wy {l:List V} {a b c:V} {u va vb vc:Value} {sl:Addr} (al:bB X s.heap) (ok:(qB (λk=>qB (λa=>(wl b&&(decide (l.length<=cap)&&decide (0<=a)&&decide (1<=k)), .list (dC k a l))) a) c).1=true) (hl:s.heap.IsSliceOf sl va vb vc)
 (h1:ak G X s (.list l) u) (h2:ak G X s a va) (h3:ak G X s b vb) (h4:ak G X s c vc):aH G A X u (.ref sl) (qB (λk=>qB (λa=>(wl b&&(decide (l.length<=cap)&&decide (0<=a)&&decide (1<=k)), .list (dC k a l))) a) c).2 s:=
 oV (P:=λr=>aH G A X u (.ref sl) r.2 s) h4 ok λk t e ok=>oV (P:=λr=>aH G A X u (.ref sl) r.2 s) h2 ok λi t' e' ok=>by
  have ok:=bc ok;have o2:=uD ok.2;rw[EZ ok.1 h3,e,e']at hl;refine oW al hl o2.1 h1 (.int _ _) .none (.int _ _) (by intro e;injections e;exact absurd o2.2.2 nofun) λvs rr => ?_
  rw[nH vs _ _ o2.2.1 o2.2.2];unfold dC;rw[<-Reps.length rr];exact rm rr _
theorem wz {l:List V} {a b:V} {u va vb:Value} {sl:Addr} (al:bB X s.heap) (ok:(xF (λa=>xF (λb=>(decide (l.length<=cap), .list (mM l a b))) b) a).1=true) (hl:s.heap.IsSliceOf sl va vb .none)
 (h1:ak G X s (.list l) u) (h2:ak G X s a va) (h3:ak G X s b vb):aH G A X u (.ref sl) (xF (λa=>xF (λb=>(decide (l.length<=cap), .list (mM l a b))) b) a).2 s:=
 oX h2 h3 ok λx y ok p q _ _=>oW al hl (aY ok) h1 p q .none nofun λvs rr=>by
  rw[qE,oU,oU,<-Reps.length rr];exact Reps.take _ (Reps.drop _ rr)
theorem Ar {o a b c:V} {u va vb vc:Value} {sl:Addr} (al:bB X s.heap) (ok:(eO o a b c).1=true) (hl:s.heap.IsSliceOf sl va vb vc)
 (h1:ak G X s o u) (h2:ak G X s a va) (h3:ak G X s b vb) (h4:ak G X s c vc):aH G A X u (.ref sl) (eO o a b c).2 s:=by
 induction o using V.casesOn with
 |str x=>
  obtain⟨t,rfl⟩:=ak.str_iff.mp h1
  induction c using V.casesOn with
  |none=>exact oX h2 h3 ok λx y ok _ _ p q=>yK hl (aY ok) p q (ak.none_iff.mp h4)
  |_=>exact aa ok
 |list l=>
  induction c using V.casesOn with
  |none=>rw[ak.none_iff.mp h4]at hl;exact wz al ok hl h1 h2 h3
  |int k=>exact wy (c := .int k) al ok hl h1 h2 h3 h4
  |_=>exact aa ok
 |_=>exact aa ok
theorem As{ty:Nat}{l:List V}{i:Int}{u v:Value}(ok:(GB ty l i).1=true)(h:l.length<=cap->bP l.length i=true->aH G A X u v (l.getD (place l.length i) .none) s):aH G A X u v (GB ty l i).2 s:=by
 unfold GB at ok |-;generalize Nat.beq ty 1=b at ok |-
 induction b using Bool.casesOn with
 |true=>
  have ok:=bc ok;have o1:=bc ok.1;have:=h (aY o1.2) o1.1;rw[<-og ok.2]at this;exact this
 |false=>
  generalize Nat.beq ty 2=b at ok |-
  induction b using Bool.casesOn with
  |true=>
   have ok:=bc ok;have o1:=bc ok.1;have:=h (aY o1.2) o1.1;rw[<-oh ok.2]at this;exact this
  |false=>
   have ok:=bc ok;have:=h (aY ok.2) ok.1;rw[<-oQ (iS ok.1).1]at this;exact this
theorem oY(k:List Nat):∀d:List (List Nat×Bool),valueAt (d.map λx=>(tx x.1,Value.bool x.2)) (tx k)=(zG d k).map Value.bool
 |[]=>rfl
 |y::r=>by
  have ih:=oY k r;have e:decide (tx y.1=tx k)=ab k y.1:=by
   generalize h:ab k y.1=b
   induction b using Bool.casesOn with
   |true=>rw[an.mp h];exact ai rfl
   |false=>exact bg λe=>by rw[Am e,an.mpr rfl]at h;exact aa h.symm
  unfold valueAt at ih |-;rw[aC,List.find?_cons,Ek];dsimp only;rw[e];cases ab k y.1 with
  |true=>rfl
  |false=>exact ih
theorem yL{d:List (List Nat×Bool)}{k:List Nat}{b:Bool}{u:Value}{t:Tok}(r:ak G X s (.dict d) u)(h:zG d k=some b):aH G A X u (.str (tx k) t) (.bool b) s:=by
 obtain⟨a,rfl,_,hd⟩:=ak.dict_iff.mp r;intro E Q q;refine⟨"dict",_,slot_dict_getitem.lookup,hd.typeIs,wpAny_getItem_of (knd:=PySem.strKind G.p G.w) (key := .str (tx k) t) (k:=tx k) (v := .bool b) (by show Value.isStrOf (tx k) (.str (tx k) t)=true;simp[Value.isStrOf]) hd.mapOf (by rw[oY,h];rfl) ?_⟩;exact q _ _ (Kp.toks s _) (ak.bool_iff.mpr rfl)
theorem CN{d:List (List Nat×Bool)}{i:V}{u v:Value}(ok:(mJ (λk=>ou (zG d k)) i).1=true)(h1:ak G X s (.dict d) u)(h2:ak G X s i v):aH G A X u v (mJ (λk=>ou (zG d k)) i).2 s:=by
 induction i using V.casesOn with
 |str k=>
  obtain⟨t,rfl⟩:=ak.str_iff.mp h2;have ok:(ou (zG d k)).1=true:=ok;show aH G A X u (.str (tx k) t) (ou (zG d k)).2 s;generalize h:zG d k=o at ok |-
  induction o using Option.casesOn with
  |none=>exact aa ok
  |some b=>exact yL h1 h
 |_=>exact aa ok
theorem E0{ty:Nat}{o i:V}{u v:Value}(ok:(kM ty o i).1=true)(h1:Seen G X s o u)(h2:ak G X s i v):aH G A X u v (kM ty o i).2 s:=by
 induction o using V.casesOn with
 |list l=>exact oV (P:=λr=>aH G A X u v r.2 s) h2 ok λi t e ok=>As ok λo1 o2=>by rw[e];exact yI o1 o2 h1
 |tup l=>exact oV (P:=λr=>aH G A X u v r.2 s) h2 ok λi t e ok=>As ok λo1 o2=>by rw[e];exact An o1 o2 (show ak G X s (.tup _) u from h1)
 |str x=>
  obtain⟨t',rfl⟩:=h1.str;exact oV (P:=λr=>aH G A X (.str (tx x) t') v r.2 s) h2 ok λi t e ok=>by
   have ok:=bc ok;rw[e];exact Ao (aY ok.2) ok.1
 |dict d=>exact CN ok (show ak G X s (.dict d) u from h1) h2
 |_=>exact aa ok
end
end
section
open PySem PySem.W PySem.Calls PyProof.Rows
noncomputable def xV(v:Value):Prop:=(∃id,v = .builtin id)\/∃id,v = .type id
section
variable {G:Cfg} {A:Around} {X:Addr->Prop} {s:Shared}
theorem iT{t:Sem Value}{v:V}(h:∀(E:Value->Shared->Prop) (Q:Value->Shared->Prop),(∀u h' tk,(∀b o,s.heap.get? b=some o->h'.get? b=some o)->(s.toks<=tk->ak G X { s with heap:=h',toks:=tk } v u)->Q u { s with heap:=h',toks:=tk })->wpAny (model G.p G.w) A t Q E s):aS G A X t v s:=
 λE Q q=>bA (h E _ λu h' tk k r hle=>q u _ (Kp.heap tk k) (r hle))
theorem xW{h:Shared}:∀{l:List V} {vs:List Value},l.all xE=true->Reps G X h l vs->(∀v,v∈vs->∃a t,v = .int a t)/\numsOf vs=l.map n9
 |[],vs,_,r=>by rw[Reps.nil_iff.mp r];exact⟨λv hv=>absurd hv (by simp),rfl⟩
 |x::l,vs,a,r=>by
  obtain⟨v,r',rfl,h1,h2⟩:=Reps.cons_iff.mp r;rw[List.all_cons,aK]at a;have ih:=xW a.2 h2;rw[<-og a.1]at h1;obtain⟨t,rfl⟩:=ak.int_iff.mp h1;exact⟨λw hw=>by
   rcases bu hw with rfl|hw
   ·exact⟨_,_,rfl⟩
   ·exact ih.1 w hw,by rw[numsOf,ih.2];rfl⟩
theorem ro:∀(l:List Int) (a:Int),l.foldl (· + ·) a=a+l.sum
 |[],a=>by simp
 |x::l,a=>by rw[List.foldl_cons,ro l,List.sum_cons];omega
theorem CO(l:List V):ur l=(l.map n9).sum:=by unfold ur;rw[ro];omega
theorem GO{l:List V}{u:Value}(hh:A.handled=none)(ok:l.all xE=true)(r:ak G X s (.list l) u):aS G A X (call (.builtin "sum") [u]) (.int (ur l)) s:=by
 obtain⟨a,vs,rfl,n,hl,rr⟩:=ak.list_iff.mp r;obtain⟨h1,h2⟩:=xW ok rr;obtain⟨xs,rfl⟩:=AllInts.items (vs:=vs) λv hv=>h1 v (Array.mem_toList_iff.mpr hv)
 refine iT λE Q q=>sum_intListG hh hl λh' tk t' hk => ?_
 rw[preSum_eq,gE (by simp)];rw[nums_intItems]at h2;refine q _ h' tk hk λ_=>(ak.int_iff.mpr ⟨t', ?_⟩)
 rw[CO,<-h2]
theorem CP{l:List V}{u:Value}(al:bB X s.heap)(hn:l.length<=cap)(r:ak G X s (.list l) u):aS G A X (call (.type "tuple") [u]) (.tup l) s:=by
 obtain⟨a,vs,rfl,n,hl,rr⟩:=ak.list_iff.mp r;have hsz:vs.size=l.length:=by rw[<-c0,<-Reps.length rr]
 refine iT λE Q q=>call_tuple_list hl (λh' hk => ?_) (by rw[hsz];exact d9 hn)
 have:=kS (s:={ s with heap:=h' }) (bB.keeps al hk) (Reps.on (Kp.on (Kp.heap s.toks hk)) rr) (aq s.toks);exact q _ _ s.toks (λb o g=>gG _ (hk b o g)) λ_=>(by simpa using this)
theorem iU{f c:Str}(h:ab (nm f) (nm c)=true):f=c:=dB (an.mp h)
theorem uF{x:V}{u:Value}(ok:(qC x).1=true)(h1:Seen G X s x u):aS G A X (call (.builtin "len") [u]) (qC x).2 s:=by
 induction x using V.casesOn with
 |str x=>
  obtain⟨t,rfl⟩:=h1.str;have ok':x.length<=1000000:=aY ok;refine bx λE Q q=>PySem.P.len_str (by rw[aV];omega) ?_
  rw[aV];exact q _ _
 |list l=>
  obtain⟨a,vs,rfl,hl,rr⟩:=h1;have hsz:l.length=vs.size:=rr.length.trans c0;have ok':l.length<=1000000:=aY ok;refine bx λE Q q=>len_list hl ⋯ ?_
  rw[<-hsz];exact q _ _
 |tup l=>
  obtain⟨a,vs,rfl,n,hl,rr⟩:=ak.tup_iff.mp (show ak G X s (.tup l) u from h1);have hsz:l.length=vs.size:=rr.length.trans c0;have ok':l.length<=1000000:=aY ok;refine bx λE Q q=>PyProof.Rows.len_tuple hl ⋯ ?_
  rw[<-hsz];exact q _ _
 |_=>exact aa ok
theorem fS{f:V->R}{as:List V}{us:List Value}{c:List Value->Sem Value}{h:Shared}(r:Reps G X h as us)(ok:(iL f as).1=true)(k:∀x u,ak G X h x u->(f x).1=true->aS G A X (c [u]) (f x).2 s):aS G A X (c us) (iL f as).2 s:=by
 induction as using List.casesOn with
 |nil=>exact aa ok
 |cons x as=>induction as using List.casesOn with
  |nil=>
   obtain⟨v,r',rfl,h1,h2⟩:=Reps.cons_iff.mp r;rw[Reps.nil_iff.mp h2];exact k x v h1 ok
  |cons _ _=>exact aa ok
theorem xX{f:V->V->R}{as:List V}{us:List Value}{c:List Value->Sem Value}{h:Shared}(r:Reps G X h as us)(ok:(EP f as).1=true)(k:∀x y u v,ak G X h x u->ak G X h y v->(f x y).1=true->aS G A X (c [u,v]) (f x y).2 s):aS G A X (c us) (EP f as).2 s:=by
 induction as using List.casesOn with
 |nil=>exact aa ok
 |cons x as=>
  obtain⟨v,r',rfl,h1,h2⟩:=Reps.cons_iff.mp r
  induction as using List.casesOn with
  |nil=>exact aa ok
  |cons y as=>induction as using List.casesOn with
   |nil=>
    obtain⟨w,r2,rfl,h3,h4⟩:=Reps.cons_iff.mp h2;rw[Reps.nil_iff.mp h4];exact k x y v w h1 h3 ok
   |cons _ _=>exact aa ok
end
noncomputable abbrev E1(f:Str):Prop:=f∈(["len","ord","chr","min","sum","list","tuple","range","enumerate"]:List Str)
noncomputable def GP(G:Cfg)(A:Around)(x:Str×(List V->R)):Prop:=
 E1 x.1/\∃v,xV v/\bootBuiltins x.1=some v/\∀(X:Addr->Prop) (s:Shared) (as:List V) (us:List Value),(x.2 as).1=true->(x.1="chr"->0<s.toks)->bB X s.heap->Reps G X s as us->aS G A X (call v us) (x.2 as).2 s
section
variable {G:Cfg} {A:Around}
theorem uG{f:Str}{F:List V->R}{id:String}(hn:E1 f)(hb:bootBuiltins f=some (.builtin id))(h:∀(X:Addr->Prop) (s:Shared) (as:List V) (us:List Value),(F as).1=true->(f="chr"->0<s.toks)->bB X s.heap->Reps G X s as us->aS G A X (call (.builtin id) us) (F as).2 s):GP G A (f,F):=
 ⟨hn,_, .inl ⟨_,rfl⟩,hb,h⟩
theorem E2(hh:A.handled=none):∀x∈Ip,GP G A x:=
 cJ ⟨uG nofun boot_len λX s as us ok ps al r=>fS (c:=λus=>call (.builtin "len") us) r ok λx u h ok=>uF ok (Seen.of h),
 cJ ⟨uG nofun boot_ord λX s as us ok ps al r=>fS (c:=λus=>call (.builtin "ord") us) r ok λx u h ok=>j5 (c:=λu=>call (.builtin "ord") [u]) h ok λx t ok=>bx λE Q q=>ord_of_one (by rw[aV];exact eH ok) (by
     have e:(tx x).cps.getD 0 0=x.getD 0 0:=by simp[tx]
     rw[e];exact q _ _),
 cJ ⟨uG nofun boot_chr λX s as us ok ps al r=>fS (c:=λus=>call (.builtin "chr") us) r ok λx u h ok=>iQ (c:=λu=>call (.builtin "chr") [u]) h ok λi t ok=>
     have ok:=bc ok
     λE Q q=>chr_of_range (aY ok.1) (by have:=aY ok.2;omega) (q _ _ (Kp.toks s _) (ak.hid_iff.mpr ⟨_,rfl,ps rfl,Nat.lt_succ_self _⟩)),
 cJ ⟨uG nofun boot_min λX s as us ok ps al r=>xX (c:=λus=>call (.builtin "min") us) r ok λx y u v r1 r2 ok=>iQ (c:=λu=>call (.builtin "min") [u,v]) r1 ok λi t ok=>iQ (c:=λv=>call (.builtin "min") [.int i t,v]) r2 ok λj t' _=>iT λE Q q=>min_two_ints hh λh' tk hk=>by
     by_cases h:j<i
     ·rw[if_pos h];exact q _ h' tk hk λ_=>(ak.int_iff.mpr ⟨t',by unfold ET;rw[ai h];rfl⟩)
     ·rw[if_neg h];exact q _ h' tk hk λ_=>(ak.int_iff.mpr ⟨t,by unfold ET;rw[bg h];rfl⟩),
 cJ ⟨uG nofun boot_sum λX s as us ok ps al r=>fS (c:=λus=>call (.builtin "sum") us) r ok λx u h ok=>sW (c:=λu=>call (.builtin "sum") [u]) h ok λl h ok=>GO hh (bc ok).1 h,
 cJ ⟨⟨nofun,_, .inr ⟨_,rfl⟩,PyProof.Rows.boot_tuple,λX s as us ok ps al r=>fS (c:=λus=>call (.type "tuple") us) r ok λx u h ok=>sW (c:=λu=>call (.type "tuple") [u]) h ok λl h ok=>CP al (aY ok) h⟩,
 λ_ h=>nomatch h⟩⟩⟩⟩⟩⟩
theorem sY{α:Type}{x:Str}{v:α}:∀{l:List (Str×α)},GG l (nm x)=some v->(x,v)∈l
 |[],h=>aD h
 |(y,w)::r,h=>by
  have h':(bif ab (nm x) (nm y)then some w else GG r (nm x))=some v:=h;generalize c:ab (nm x) (nm y)=b at h'
  induction b using Bool.casesOn with
  |true=>rw[iU c,bR h'];exact aO ..
  |false=>exact aG _ (sY h')
theorem Au{o:Option (List V->R)}{as:List V}(ok:(HU o as).1=true):∃F,o=some F/\(F as).1=true:=by
 induction o using Option.casesOn with
 |none=>exact aa ok
 |some F=>exact⟨F,rfl,ok⟩
theorem GQ(hh:A.handled=none){f:Str}{as:List V}(ok:(iM (nm f) as).1=true):
 E1 f/\∃v,xV v/\bootBuiltins f=some v/\∀(X:Addr->Prop) (s:Shared) (us:List Value),(f="chr"->0<s.toks)->bB X s.heap->Reps G X s as us->aS G A X (call v us) (iM (nm f) as).2 s:=by
 obtain⟨F,e,o⟩:=Au ok;obtain⟨hn,v,hp,hb,hy⟩:=E2 (G:=G) hh _ (sY e);refine⟨hn,v,hp,hb,λX s us ps al r => ?_⟩;unfold iM;rw[e];exact hy X s as us o ps al r
end
end
section
open PySem PySem.W PySem.Calls PyProof.Rows
noncomputable def uf(G:Cfg)(h:Heap):Prop:=∀b o,G.h0.get? b=some o->h.get? b=some o
noncomputable def Av(G:Cfg)(X:Addr->Prop):Prop:=∀b,X b->G.h0.get? b=none
noncomputable def CQ(G:Cfg)(A:Around)(v:Value):Prop:=∀(pos:Pos) (trees:List (Bool×Sem Value)) (s:Shared) (E:Value->Shared->Prop) (Q:Value->Shared->Prop),trees.any (·.1)=false ->
 wpAny (model G.p G.w) A (evalArgs v true trees []) (λa s₁=>uf G s₁.heap/\wpAny (model G.p G.w) A (call v a.pos a.kw) Q E s₁) E s->wpAny (model G.p G.w) A (callWith pos v [] trees []) Q E s
structure aU(G:Cfg)(A:Around)(Φ:Fns):Prop where
 none:A.handled=none
 units:A.units+200<cLine
 names:∃mg mb,G.h0.Ns mainGlobals mg/\G.h0.Ns builtinsNs mb /\
  (∀x v,sO Φ.glob (nm x)=some v->∃u,mg x=some u/\∀X (s:Shared),uf G s.heap->Av G X->ak G X s v u) /\
  (∀f F,sO Φ.fn (nm f)=some F->∃a,mg f=some (.ref a)/\CQ G A (.ref a) /\
    ∀X s as us,uf G s.heap->Av G X->bB X s.heap->Reps G X s as us->(F as).1=true->aS G A X (call (.ref a) us) (F as).2 s) /\
  ∀f v,E1 f->bootBuiltins f=some v->mg f=Option.none/\mb f=some v
 attr:∀X s (x:V) (u:Value) (name:Str) (v:V),uf G s.heap->ak G X s x u->El (nm name) x=(true,v)->aS G A X (getAttr u name true) v s
section
variable {G:Cfg} {A:Around} {env:Env} {X:Addr->Prop} {κ:List (Str×NameKind)} {ρ:Rho} {Φ:Fns}
noncomputable def HE(G:Cfg)(A:Around)(env:Env)(X:Addr->Prop)(ρ:Rho)(t:Sem Value)(v:V):Prop:=
 ∀O s,cY G env X O ρ s->∀(E:Value->Shared->Prop) (Q:Value->Shared->Prop),(∀u s',aM s s'->Seen G (am env X O) s' v u->Q u s')->wpAny (model G.p G.w) A t Q E s
theorem ia.seen{t:Sem Value}{v:V}(h:ia G A env X ρ t v):HE G A env X ρ t v:=λO s S E Q q=>h O s S E Q λu s' k r=>q u s' k (Seen.of r)
theorem cY.full{O}{h:Shared}(S:cY G env X O ρ h):bB (am env X O) h.heap:=S.alive
theorem cY.off{O}{h:Shared}(S:cY G env X O ρ h):Av G (am env X O):=S.new
structure aL(G:Cfg)(A:Around)(env:Env)(X:Addr->Prop)(ρ:Rho)(E:Expr->R):Prop where
 ok:∀e,(E e).1=true->ia G A env X ρ (eval e env) (E e).2
 noSet:∀es k p,(E (.Set es k p)).1=false
 noStar:∀e p,(E (.Starred e p)).1=false
theorem Seen.unh{P:Addr->Prop}{h:Shared}{v:V}{u:Value}(r:Seen G P h v u):Seen G P h (unh v) u:=by
 induction v using V.casesOn with
 |hid c=>exact(show ak G P h (.hid c) u from r).unh
 |_=>exact r
theorem GR(Fa:aU G A Φ)(En:aw env κ){x:Str}{pos:Pos}(ok:(rd κ Φ ρ (nm x)).1=true):ia G A env X ρ (eval (.Name x pos) env) (rd κ Φ ρ (nm x)).2:=by
 intro O s S E Q q;unfold rd at ok q;cases c1:ag (kd κ (nm x))with
 |true=>
  rw[c1]at ok q;simp only[cond_true]at ok q;have hx:ag (env.kindOf x)=true:=(En.names x).trans c1;obtain⟨g,F,hg⟩:=S.look;have hs:=hg x hx;have pl:=En.plain x (by rw[hx];rfl);cases e:lk ρ (nm x)with
  |val v=>
   rw[e]at q hs;obtain⟨u,e1,r⟩:=hs;exact wpAny_Name (dG En.kind F hx pl.2 e1 (q u s (Kp.refl s) r)) pl.1
  |_=>rw[e]at ok;exact aa ok
 |false=>
  rw[c1]at ok q;simp only[cond_false]at ok q;cases c2:ay (kd κ (nm x))with
  |true=>
   rw[c2]at ok q;simp only[cond_true]at ok q;have hx:ay (env.kindOf x)=true:=(En.glob x).trans c2;have pl:=En.plain x (by rw[hx,cC]);obtain⟨mg,mb,h1,h2,h3,_⟩:=Fa.names;cases e:sO Φ.glob (nm x)with
   |none=>rw[e]at ok;exact aa ok
   |some v=>
    rw[e]at q;obtain⟨u,e1,r⟩:=h3 x v e;have hk:env.kindOf x=some .globalImplicit:=by
     cases k:env.kindOf x with
     |none=>rw[k]at hx;injections hx
     |some k'=>induction k' using NameKind.casesOn<;>first|rfl|(rw[k]at hx;injections hx)
    refine Name_function_global En.kind hk (loadGlobal_global (mg:=mg) ?_ e1 (q u s (Kp.refl s) (r _ _ S.old S.new))) pl.1;rw[En.globals];exact h1.keeps S.old
  |false=>rw[c2]at ok;injections ok
theorem uH{E:Expr->R}{e:Expr}(he:d6 e=false):look κ ρ E e=E e:=by
 induction e using Expr.casesOn with
 |Name x p=>exact aa he.symm
 |_=>rfl
theorem CR{e:Expr}(he:d6 e=true):∃x p,e = .Name x p:=by
 induction e using Expr.casesOn with
 |Name x p=>exact⟨x,p,rfl⟩
 |_=>exact aa he
theorem nO(Fa:aU G A Φ)(En:aw env κ){E:Expr->R}(GE:aL G A env X ρ E){e:Expr}(ok:(look κ ρ E e).1=true):HE G A env X ρ (eval e env) (look κ ρ E e).2:=by
 cases c:d6 e with
 |false=>rw[uH c]at ok |-;exact(GE.ok _ ok).seen
 |true=>
  obtain⟨x,p,rfl⟩:=CR c;have ok:(ut (ag (kd κ (nm x))) (E (.Name x p)) (lk ρ (nm x))).1=true:=ok;show HE G A env X ρ _ (ut (ag (kd κ (nm x))) (E (.Name x p)) (lk ρ (nm x))).2;cases e:lk ρ (nm x)with
  |own l=>
   rw[e]at ok;intro O s S E' Q q;have hx:ag (env.kindOf x)=true:=(En.names x).trans ok;have pl:=En.plain x (by rw[hx];rfl);obtain⟨g,F,hg⟩:=S.look;have hs:=hg x hx;rw[e]at hs;obtain⟨a,vs,e1,e2,⟨n,e3⟩,r⟩:=hs;refine wpAny_Name (dG En.kind F hx pl.2 e1 (q _ s (Kp.refl s) ?_)) pl.1;show ∃a' vs,_;exact⟨a,vs,rfl,⟨_,e3,rfl,_,rfl⟩,r⟩
  |_=>rw[e]at ok;exact(GE.ok _ ok).seen
theorem Aw{c:Const}{k:Nat}{pos:Pos}(ok:(sT c).1=true):ia G A env X ρ (eval (.Constant c k pos) env) (sT c).2:=by
 intro O s S E Q q
 induction c using Const.casesOn with
 |none=>exact λΓ p hΓ=>q .none s (Kp.refl s) (ak.none_iff.mpr rfl)
 |bool b=>exact λΓ p hΓ=>q (.bool b) s (Kp.refl s) (ak.bool_iff.mpr rfl)
 |int i=>exact wpAny_Constant_int (q _ _ (Kp.toks s _) (ak.int_iff.mpr ⟨_,rfl⟩))
 |str x=>exact Constant_str (q _ _ (Kp.toks s _) (ak.str_iff.mpr ⟨_,by rw[xR]⟩))
 |_=>injections ok
theorem Ax(Fa:aU G A Φ)(En:aw env κ){E:Ev}(GE:aL G A env X ρ (E κ ρ)){a b:Expr}{op:Operator}{pos:Pos}(ok:(qU E κ ρ a op b).1=true):
 ia G A env X ρ (eval (.BinOp a op b pos) env) (qU E κ ρ a op b).2:=by
 have key:∀x:R,(x.1=true->HE G A env X ρ (eval a env) x.2)->((x.1&&(E κ ρ b).1&&(dv op (unh x.2) (unh (E κ ρ b).2)).1,(dv op (unh x.2) (unh (E κ ρ b).2)).2):R).1=true ->
  ia G A env X ρ (eval (.BinOp a op b pos) env) (dv op (unh x.2) (unh (E κ ρ b).2)).2:=by
  intro x hx ok;simp only[aK]at ok;obtain⟨⟨o1,o2⟩,o3⟩:=ok;intro O s S E' Q q;exact wpAny_BinOp (hx o1 O s S _ _ λu s1 k1 r1=>GE.ok b o2 O s1 (S.keeps k1) _ _ λv s2 k2 r2=>
   EY ((S.keeps k1).keeps k2).full o3 (r1.keeps k2).unh r2.unh _ _ λw s3 k3 r3=>q w s3 (Kp.trans k1 (Kp.trans k2 k3)) r3)
 unfold qU at ok |-
 induction op using Operator.casesOn with
 |Add=>exact key (look κ ρ (E κ ρ) a) (λh=>nO Fa En GE h) ok
 |_=>exact key (E κ ρ a) (λh=>(GE.ok a h).seen) ok
theorem CS{E:Expr->R}(GE:aL G A env X ρ E){a:Expr}{op:UnaryOp}{pos:Pos}(ok:(CD E op a).1=true):ia G A env X ρ (eval (.UnaryOp op a pos) env) (CD E op a).2:=by
 unfold CD at ok |-;simp only[aK]at ok;intro O s S E' Q q;exact wpAny_UnaryOp (GE.ok a ok.1 O s S _ _ λu s1 k1 r1=>GN ok.2 r1 _ _ λw s2 k2 r2=>q w s2 (Kp.trans k1 k2) r2)
theorem wA{E:Expr->R}(GE:aL G A env X ρ E){e:Expr}(ok:(E e).1=true)(op:CmpOp):behindInMarks op e=false:=by
 induction e using Expr.casesOn with
 |Set es k p=>rw[GE.noSet]at ok;injections ok
 |_=>rfl
theorem gr{E:Expr->R}(GE:aL G A env X ρ E){e:Expr}(ok:(E e).1=true)(rest:List Expr):starEach (e::rest) env=(false,eval e env)::starEach rest env:=by
 induction e using Expr.casesOn with
 |Starred e p=>rw[GE.noStar]at ok;injections ok
 |_=>rfl
theorem uI{E:Expr->R}{e:Expr}{es:List Expr}(ok:(fO E (e::es)).1=true):(E e).1=true/\(fO E es).1=true:=by
 exact bc ok
theorem eP{E:Expr->R}(GE:aL G A env X ρ E)(pos:Pos):∀{es:List Expr},(fO E es).1=true->∀O s,cY G env X O ρ s->∀(E':Value->Shared->Prop) (Q:List Value->Shared->Prop),
 (∀us s',aM s s'->Reps G (am env X O) s' (fO E es).2 us->Q us s')->wpAny (model G.p G.w) A (spliced (backTo pos (starEach es env))) Q E' s
 |[],_,O,s,S,E',Q,q=>spliced_nil (q [] s (Kp.refl s) Reps.nil)
 |e::es,ok,O,s,S,E',Q,q=>by
  obtain⟨o1,o2⟩:=uI ok;rw[gr GE o1];show wpAny _ A (spliced ((false,eval e env)::backTo pos (starEach es env))) Q E' s;exact spliced_cons (GE.ok e o1 O s S _ _ λu s1 k1 r1=>eP GE pos o2 O s1 (S.keeps k1) _ _ λus s2 k2 r2=>
   q (u::us) s2 (Kp.trans k1 k2) (Reps.cons (r1.on (Kp.on k2)) r2))
theorem eD{E:Expr->R}(GE:aL G A env X ρ E)(pos:Pos):∀{es:List Expr},(fO E es).1=true->(backTo pos (starEach es env)).any (·.1)=false/\(backTo pos (starEach es env)).length=es.length
 |[],_=>⟨rfl,rfl⟩
 |e::es,ok=>by
  obtain⟨o1,o2⟩:=uI ok;rw[gr GE o1];have ih:=eD GE pos o2;show(((false,eval e env)::backTo pos (starEach es env)).any (·.1))=false/\((false,eval e env)::backTo pos (starEach es env)).length=_;rw[List.any_cons,ih.1,aP,ih.2];exact⟨rfl,rfl⟩
theorem CT{E:Expr->R}(GE:aL G A env X ρ E){es:List Expr}{pos:Pos}(ok:l0 (fO E es)=true):ia G A env X ρ (eval (.List es pos) env) (.list (fO E es).2):=by
 unfold l0 at ok;simp only[aK,decide_eq_true_eq]at ok;intro O s S E' Q q;refine wpAny_List_spliced (eP GE pos ok.1 O s S _ _ λus s1 k1 r1=>⟨by rw[<-r1.length];exact d9 ok.2, ?_⟩);exact q _ _ (Kp.trans k1 (Kp.push s1 _ s1.toks)) (dg (S.keeps k1).full r1)
theorem E3{E:Expr->R}(GE:aL G A env X ρ E){es:List Expr}{k:Nat}{pos:Pos}(ok:l0 (fO E es)=true):ia G A env X ρ (eval (.Tuple es k pos) env) (.tup (fO E es).2):=by
 unfold l0 at ok;simp only[aK,decide_eq_true_eq]at ok;intro O s S E' Q q;refine wpAny_Tuple_spliced (eP GE pos ok.1 O s S _ _ λus s1 k1 r1=>⟨by rw[<-r1.length];exact d9 ok.2, ?_⟩);exact q _ _ (Kp.trans k1 (Kp.push s1 _ s1.toks)) (kS (S.keeps k1).full r1)
noncomputable def Er(G:Cfg)(A:Around)(env:Env)(X:Addr->Prop)(ρ:Rho)(t:Sem Bool)(b:Bool):Prop:=
 ∀O s,cY G env X O ρ s->∀(E:Value->Shared->Prop) (Q:Bool->Shared->Prop),(∀s',aM s s'->Q b s')->wpAny (model G.p G.w) A t Q E s
structure mU(G:Cfg)(A:Around)(env:Env)(X:Addr->Prop)(ρ:Rho)(E:Expr->R):Prop where
 ok:∀e,(E e).1=true->(ad (E e).2).1=true->Er G A env X ρ (isTrue e env (eval e env)) (ad (E e).2).2
theorem CU{E:Expr->R}(GE:aL G A env X ρ E)(GT:mU G A env X ρ E){t a b:Expr}{pos:Pos}(ok:(nE E t a b).1=true):ia G A env X ρ (eval (.IfExp t a b pos) env) (nE E t a b).2:=by
 unfold nE at ok |-;simp only[aK]at ok;obtain⟨⟨o1,o2⟩,o3⟩:=ok;intro O s S E' Q q;refine wpAny_IfExp (GT.ok t o1 o2 O s S _ _ λs1 k1 => ?_);simp only[cH]at q;cases c:(ad (E t).2).2 with
 |true=>
  rw[c]at o3 q;simp only[cond_true]at o3 q;exact GE.ok a o3 O s1 (S.keeps k1) _ _ λu s2 k2 r2=>q u s2 (Kp.trans k1 k2) r2.unh
 |false=>
  rw[c]at o3 q;simp only[cond_false]at o3 q;exact GE.ok b o3 O s1 (S.keeps k1) _ _ λu s2 k2 r2=>q u s2 (Kp.trans k1 k2) r2.unh
theorem md {v:V} {u:Value} {O} {s:Shared} (ok:(ad v).1=true) (r:ak G (am env X O) s v u) {E:Value->Shared->Prop} {Q:Bool->Shared->Prop}
 (q:∀s',aM s s'->Q (ad v).2 s'):wpAny (model G.p G.w) A (truthy u) Q E s:=bA (q9 ok r E _ λtk hle=>q _ (Kp.toks s tk hle))
theorem Ay{E:Expr->R}(GE:aL G A env X ρ E)(pos:Pos):∀{es:List Expr},(gI E es).1=true->ia G A env X ρ (boolOp pos .And (evalEach es env)) (gI E es).2
 |[],ok=>by injections ok
 |[e],ok=>GE.ok e ok
 |e::f::es,ok=>by
  have ok':(E e).1=true/\(ad (E e).2).1=true/\(bif (ad (E e).2).2 then(gI E (f::es)).1 else true)=true:=by
   exact⟨(bc (bc ok).1).1,(bc (bc ok).1).2,(bc ok).2⟩
  obtain⟨o1,o2,o3⟩:=ok';have ev:(gI E (e::f::es)).2=eM (ad (E e).2).2 (gI E (f::es)).2 (E e).2:=rfl;rw[ev,cH];intro O s S E' Q q;show wpAny _ A (boolOp pos .And (eval e env::evalEach (f::es) env)) Q E' s;have un:boolOp pos .And (eval e env::evalEach (f::es) env)=(do
   let v <-eval e env
   standAt pos
   let t <-holding [v] (truthy v)
   match BoolOp.And,t with
   | .And,false| .Or,true=>pure v
   |_,_=>boolOp pos .And (evalEach (f::es) env)):=rfl
  rw[un];refine ae (GE.ok e o1 O s S _ _ λu s1 k1 r1=>ae (dw (ae (bQ (md o2 r1 λs2 k2 => ?_)))));cases c:(ad (E e).2).2 with
  |true=>
   rw[c]at o3 q;simp only[cond_true]at o3 q;exact Ay GE pos o3 O s2 ((S.keeps k1).keeps k2) _ _ λw s3 k3 r3=>q w s3 (Kp.trans k1 (Kp.trans k2 k3)) r3
  |false=>
   rw[c]at q;simp only[cond_false]at q;exact ar (q u s2 (Kp.trans k1 k2) (r1.on (Kp.on k2)))
theorem Es{E:Expr->R}(GE:aL G A env X ρ E)(pos:Pos):∀{es:List Expr},(qx E es).1=true->ia G A env X ρ (boolOp pos .Or (evalEach es env)) (qx E es).2
 |[],ok=>by injections ok
 |[e],ok=>GE.ok e ok
 |e::f::es,ok=>by
  have ok':(E e).1=true/\(ad (E e).2).1=true/\(bif (ad (E e).2).2 then true else(qx E (f::es)).1)=true:=by
   exact⟨(bc (bc ok).1).1,(bc (bc ok).1).2,(bc ok).2⟩
  obtain⟨o1,o2,o3⟩:=ok';have ev:(qx E (e::f::es)).2=eM (ad (E e).2).2 (E e).2 (qx E (f::es)).2:=rfl;rw[ev,cH];intro O s S E' Q q;have un:boolOp pos .Or (evalEach (e::f::es) env)=(do
   let v <-eval e env
   standAt pos
   let t <-holding [v] (truthy v)
   match BoolOp.Or,t with
   | .And,false| .Or,true=>pure v
   |_,_=>boolOp pos .Or (evalEach (f::es) env)):=rfl
  rw[un];refine ae (GE.ok e o1 O s S _ _ λu s1 k1 r1=>ae (dw (ae (bQ (md o2 r1 λs2 k2 => ?_)))));cases c:(ad (E e).2).2 with
  |false=>
   rw[c]at o3 q;simp only[cond_false]at o3 q;exact Es GE pos o3 O s2 ((S.keeps k1).keeps k2) _ _ λw s3 k3 r3=>q w s3 (Kp.trans k1 (Kp.trans k2 k3)) r3
  |true=>
   rw[c]at q;simp only[cond_true]at q;exact ar (q u s2 (Kp.trans k1 k2) (r1.on (Kp.on k2)))
theorem xY{E:Expr->R}(GT:mU G A env X ρ E):∀{es:List Expr},(gI E es).1=true->(ad (gI E es).2).1=true->Er G A env X ρ (allTrue .And es env) (ad (gI E es).2).2
 |[],ok,_=>by injections ok
 |[e],ok,tr=>λO s S E' Q q=>by
  rw[arm_allTrue_cons];refine ae (GT.ok e ok tr O s S _ _ λs1 k1 => ?_);have:=q s1 k1
  change Q (ad (E e).2).2 s1 at this
  cases c:(ad (E e).2).2 with
  |true=>rw[c]at this;exact ar this
  |false=>rw[c]at this;exact ar this
 |e::f::es,ok,tr=>by
  have ok':(E e).1=true/\(ad (E e).2).1=true/\(bif (ad (E e).2).2 then(gI E (f::es)).1 else true)=true:=by
   exact⟨(bc (bc ok).1).1,(bc (bc ok).1).2,(bc ok).2⟩
  obtain⟨o1,o2,o3⟩:=ok';have ev:(gI E (e::f::es)).2=eM (ad (E e).2).2 (gI E (f::es)).2 (E e).2:=rfl;rw[ev,cH]at tr |-;intro O s S E' Q q;rw[arm_allTrue_cons];refine ae (GT.ok e o1 o2 O s S _ _ λs1 k1 => ?_);cases c:(ad (E e).2).2 with
  |true=>
   rw[c]at o3 q tr;simp only[cond_true]at o3 q tr;exact xY GT o3 tr O s1 (S.keeps k1) _ _ λs2 k2=>q s2 (Kp.trans k1 k2)
  |false=>
   rw[c]at q;simp only[cond_false]at q;have:=q s1 k1;rw[c]at this;exact ar this
theorem Az{E:Expr->R}(GT:mU G A env X ρ E):∀{es:List Expr},(qx E es).1=true->(ad (qx E es).2).1=true->Er G A env X ρ (allTrue .Or es env) (ad (qx E es).2).2
 |[],ok,_=>by injections ok
 |[e],ok,tr=>λO s S E' Q q=>by
  rw[arm_allTrue_cons];refine ae (GT.ok e ok tr O s S _ _ λs1 k1 => ?_);have:=q s1 k1
  change Q (ad (E e).2).2 s1 at this
  cases c:(ad (E e).2).2 with
  |true=>rw[c]at this;exact ar this
  |false=>rw[c]at this;exact ar this
 |e::f::es,ok,tr=>by
  have ok':(E e).1=true/\(ad (E e).2).1=true/\(bif (ad (E e).2).2 then true else(qx E (f::es)).1)=true:=by
   exact⟨(bc (bc ok).1).1,(bc (bc ok).1).2,(bc ok).2⟩
  obtain⟨o1,o2,o3⟩:=ok';have ev:(qx E (e::f::es)).2=eM (ad (E e).2).2 (E e).2 (qx E (f::es)).2:=rfl;rw[ev,cH]at tr |-;intro O s S E' Q q;rw[arm_allTrue_cons];refine ae (GT.ok e o1 o2 O s S _ _ λs1 k1 => ?_);cases c:(ad (E e).2).2 with
  |false=>
   rw[c]at o3 q tr;simp only[cond_false]at o3 q tr;exact Az GT o3 tr O s1 (S.keeps k1) _ _ λs2 k2=>q s2 (Kp.trans k1 k2)
  |true=>
   rw[c]at q;simp only[cond_true]at q;have:=q s1 k1;rw[c]at this;exact ar this
end
end
section
open PySem PySem.W PySem.Calls PyProof.Rows
open PySem.Builtin PySem.Builtin.Str
section
variable {G:Cfg} {A:Around} {env:Env} {X:Addr->Prop} {κ:List (Str×NameKind)} {ρ:Rho} {Φ:Fns} {s:Shared}
theorem xZ{h:Shared}:∀{l:List V} {vs:List Value},l.all yE=true->Reps G X h l vs->StrsAre vs ((l.map kL).map tx)
 |[],vs,_,r=>by rw[Reps.nil_iff.mp r];exact .nil
 |x::l,vs,a,r=>by
  obtain⟨v,r',rfl,h1,h2⟩:=Reps.cons_iff.mp r;rw[List.all_cons,aK]at a;rw[<-oh a.1]at h1;obtain⟨t,rfl⟩:=ak.str_iff.mp h1;exact .cons _ t (xZ a.2 h2)
theorem rq{h:Shared}:∀{ys:List Str} {n:Nat},Reps G X h ((ys.map λx=>x.cps.toList).map .str) (strsFrom n ys)
 |[],n=>Reps.nil
 |y::ys,n=>Reps.cons (ak.str_iff.mpr ⟨n,by cases y;simp[tx]⟩) rq
theorem oZ(sep:List Nat):∀(l:List (List Nat)) (acc:List Nat),(l.map tx).foldl (λ(a:Array Nat) (p:Str)=>a++(tx sep).cps++p.cps) acc.toArray=(acc++l.flatMap λx=>sep++x).toArray
 |[],acc=>by simp
 |x::l,acc=>by
  rw[aC,List.foldl_cons];have e:acc.toArray++(tx sep).cps++(tx x).cps=(acc++sep++x).toArray:=by simp[tx]
  rw[e,oZ sep l];simp
theorem j6(sep x:List Nat):∀l:List (List Nat),db sep (x::l)=x++l.flatMap λy=>sep++y
 |[]=>(bY x).symm
 |y::l=>by rw[CB,j6 sep y l];simp
theorem CV(sep:List Nat)(l:List (List Nat)):Txt.join (tx sep) (l.map tx)=tx (db sep l):=by
 unfold Txt.join glued
 induction l using List.casesOn with
 |nil=>rfl
 |cons x l=>
  rw[j6];simp only[aC,List.drop_succ_cons,List.drop_zero,List.headD_cons];have:=oZ sep l x;have e:(tx x).cps=x.toArray:=rfl;rw[e,this];rfl
theorem yM(l:List (List Nat)):((l.map tx).map (·.length)).sum=(l.map List.length).sum:=by
 congr 1
 rw[dQ];apply List.map_congr_left;intro x _;exact aV x
theorem yN(x:Str)(cuts:List Nat)(w:Nat):(partsBetween x cuts w).length=cuts.length+1:=by
 unfold partsBetween;simp
theorem me(x:Str):tx x.cps.toList=x:=by cases x;simp[tx]
theorem x0{n:Nat}(h:n<=3*cap):tooLong n=false:=by
 unfold tooLong sizeLine;unfold cap at h;exact bg ⋯
theorem pd(x:Str)(f:Nat->Nat->List Nat)(h:∀i c,(f i c).length<=3):(placed x f).size<=3*x.length:=by
 unfold placed;refine ah (StrLaws.flatten_le3 _ λa ha => ?_) (by simp[Str.length]);obtain⟨i,hi,e⟩:=Array.getElem_of_mem ha;rw[<-e,Array.getElem_mapIdx]
 simpa using h _ _
theorem CW{x:List Nat}{t:Tok}(h:x.length<=cap):aS G A X (call (.builtin "str.lower") [.str (tx x) t]) (.str (cu x)) s:=
 fx λE Q q=>SC.lower (by
  have:=pd (tx x) (λi _=>Unicode.lowerAt (tx x).cps i) λi _=>StrLaws.lowerAt_le3 _ _
  rw[aV]at this;exact x0 (n:=(Txt.lower (tx x)).length) (by show(placed (tx x) _).size<=_;omega)) (by
   have e:tx (cu x)=Txt.lower (tx x):=me _;rw[<-e];exact q _ _)
theorem CX{x:List Nat}{t:Tok}(h:x.length<=cap):aS G A X (call (.builtin "str.upper") [.str (tx x) t]) (.str (j0 x)) s:=
 fx λE Q q=>SC.upper (by
  have:=pd (tx x) (λ_ c=>Unicode.upperOf c) λ_ c=>StrLaws.upperOf_le3 _
  rw[aV]at this;exact x0 (n:=(Txt.upper (tx x)).length) (by show(placed (tx x) _).size<=_;omega)) (by
   have e:tx (j0 x)=Txt.upper (tx x):=me _;rw[<-e];exact q _ _)
theorem AA{x:List Nat}{t:Tok}{l:List V}{u:Value}(h1:l.all yE=true)(h2:((l.map kL).map List.length).sum+l.length*x.length<=cap)(r:ak G X s (.list l) u):
 aS G A X (call (.builtin "str.join") [.str (tx x) t,u]) (.str (db x (l.map kL))) s:=by
 obtain⟨a,vs,rfl,n,hl,rr⟩:=ak.list_iff.mp r;refine fx λE Q q=>join_list hl (xZ h1 rr) ?_ λt' k => ?_
 ·rw[yM,aW,aW,aV];unfold cap at h2;omega
 ·rw[CV];exact q _ _
theorem CY{x y:List Nat}{t u:Tok}(al:bB X s.heap)(h1:x.length<=cap)(h2:y.isEmpty=false):
 aS G A X (call (.builtin "str.split") [.str (tx x) t, .str (tx y) u]) (.list ((aQ x y).map .str)) s:=by
 intro E Q q;have hy:((tx y).length==0)=false:=by
  rw[aV];induction y using List.casesOn with
  |nil=>injections h2
  |cons c y=>rfl
 have one:∀{Q:Value->Shared->Prop},aQ x y=[x]->(∀u s',aM s s'->ak G X s' (.list ((aQ x y).map .str)) u->Q u s') ->
  Q (.ref s.heap.objs.size) { s with heap:=s.heap.push { cls := .type "list",data := .seq #[.str (tx x) t] } }:=λ{Q} e q=>
  q _ _ (Kp.push s _ s.toks) (by rw[e];exact dg al (Reps.cons (ak.str_iff.mpr ⟨t,rfl⟩) Reps.nil))
 have single:Txt.split (tx x) (tx y)=[tx x]->aQ x y=[x]:=λe=>by unfold aQ;rw[e];simp[tx]
 have hx:(tx x).length<=sizeLine:=by rw[aV];exact d9 h1
 cases h1:(decide ((tx x).length<(tx y).length)||decide (Builtin.Str.strKind (tx x)<Builtin.Str.strKind (tx y)))
 ·cases hf:(occurrences (tx x) (tx y) 0 (tx x).length ((tx x).length+1)).isEmpty
  ·have hn:(partsBetween (tx x) (occurrences (tx x) (tx y) 0 (tx x).length ((tx x).length+1)) (tx y).length).length<=sizeLine:=by
    rw[yN];have:=StrLaws.occ_length_le (tx x) (tx y) 0 (tx x).length ((tx x).length+1);rename_i h1';rw[aV]at this |-;unfold cap at h1';rw[sizeLine_eq];omega
   refine bA (call_meets F.slot_str_split (typeIs_str _ _ _) F.entry_str_split (F.args_str_split_2 _ _) (meets_str_split_sep (tx x) (tx y) t u h1 hy hf hx hn) ?_);intro hle;refine q _ _ (Kp.push s _ _ hle) ?_;have e:aQ x y=(partsBetween (tx x) (occurrences (tx x) (tx y) 0 (tx x).length ((tx x).length+1)) (tx y).length).map λx=>x.cps.toList:=by
    unfold aQ Txt.split;rw[h1,hf];rfl
   rw[e];exact dg al rq hle
  ·exact call_meets F.slot_str_split (typeIs_str _ _ _) F.entry_str_split (F.args_str_split_2 _ _) (meets_str_split_not_found (tx x) (tx y) t u h1 hy hf)
    (one (single ((if_neg (ne_true_of_eq_false h1)).trans (if_pos hf))) q)
 ·exact call_meets F.slot_str_split (typeIs_str _ _ _) F.entry_str_split (F.args_str_split_2 _ _) (meets_str_split_cannot_occur (tx x) (tx y) t u h1)
   (one (single (if_pos h1)) q)
noncomputable def GS(G:Cfg)(A:Around)(x:Str×(List Nat->List V->R)):Prop:=
 ∃id,PySem.Slot "str" x.1 id/\typeOf (.builtin id)=pure (.type "method_descriptor")/\∀(X:Addr->Prop) (s:Shared) (y:List Nat) (t:Tok) (as:List V) (us:List Value),(x.2 y as).1=true->bB X s.heap->Reps G X s as us ->
    aS G A X (call (.builtin id) (.str (tx y) t::us)) (x.2 y as).2 s
theorem x2{y:List Nat}{as:List V}{us:List Value}{v:V}{c:List Value->Sem Value}{h:Shared}(r:Reps G X h as us)(ok:(as.isEmpty&&decide (y.length<=cap))=true)(k:y.length<=cap->aS G A X (c []) v s):aS G A X (c us) v s:=by
 have ok:=bc ok
 induction as using List.casesOn with
 |nil=>rw[Reps.nil_iff.mp r];exact k (aY ok.2)
 |cons _ _=>exact aa ok.1
theorem CZ(a b:Str):Txt.find3 a b 0=Txt.find a b:=by
 unfold Txt.find3 Txt.find;have:fromIndex a.length 0=0:=by simp[fromIndex]
 rw[this];cases occurrences a b 0 a.length 1<;>rfl
theorem C0{y:List Nat}{t:Tok}{as:List V}{us:List Value}(r:Reps G X s as us)(ok:(Ad y as).1=true):aS G A X (call (.builtin "str.find") (.str (tx y) t::us)) (Ad y as).2 s:=by
 induction as using List.casesOn with
 |nil=>exact aa ok
 |cons x as=>induction as using List.casesOn with
  |nil=>
   refine fS (f:=mJ λz=>(decide (y.length<=cap) && !z.isEmpty, .int (bT y z 0))) (c:=λus=>call (.builtin "str.find") (.str (tx y) t::us)) r ok λx u h ok=>j5 (c:=λu=>call (.builtin "str.find") [.str (tx y) t,u]) h ok λz t' ok=>bx λE Q q=>SC.find ?_
   unfold bT at q;rw[CZ]at q;exact q _ _
  |cons i as=>induction as using List.casesOn with
   |nil=>exact xX (f:=λx i=>mJ (λz=>qB (λi=>(decide (y.length<=cap) && !z.isEmpty&&decide (0<=i)&&small i, .int (bT y z i))) i) x) (c:=λus=>call (.builtin "str.find") (.str (tx y) t::us)) r ok λx i u v h1 h2 ok=>j5 (c:=λu=>call (.builtin "str.find") [.str (tx y) t,u,v]) h1 ok λz t' ok=>iQ (c:=λv=>call (.builtin "str.find") [.str (tx y) t, .str (tx z) t',v]) h2 ok λi t'' ok=>bx λE Q q=>SC.find3 (q _ _)
   |cons _ _=>exact aa ok
theorem C1:∀x∈GF,GS G A x:=
 cJ ⟨⟨_,F.slot_str_join,F.type_str_join,λX s y t as us ok al r=>fS (c:=λus=>call (.builtin "str.join") (.str (tx y) t::us)) r ok λx u h ok=>sW (c:=λu=>call (.builtin "str.join") [.str (tx y) t,u]) h ok λl h ok=>
     have ok:=bc ok
     AA (bc ok.1).1 (aY ok.2) h⟩,
 cJ ⟨⟨_,F.slot_str_lower,F.type_str_lower,λX s y t as us ok al r=>x2 (c:=λus=>call (.builtin "str.lower") (.str (tx y) t::us)) r ok CW⟩,
 cJ ⟨⟨_,F.slot_str_upper,F.type_str_upper,λX s y t as us ok al r=>x2 (c:=λus=>call (.builtin "str.upper") (.str (tx y) t::us)) r ok CX⟩,
 cJ ⟨⟨_,F.slot_str_split,F.type_str_split,λX s y t as us ok al r=>fS (c:=λus=>call (.builtin "str.split") (.str (tx y) t::us)) r ok λx u h ok=>j5 (c:=λu=>call (.builtin "str.split") [.str (tx y) t,u]) h ok λx t' ok=>
     have ok:=bc ok
     CY al (aY ok.1) ((Bool.not_eq_true' _).mp ok.2)⟩,
 cJ ⟨⟨_,F.slot_str_find,F.type_str_find,λX s y t as us ok al r=>C0 r ok⟩,
 λ_ h=>nomatch h⟩⟩⟩⟩⟩
theorem C2{m:Str}{x:List Nat}{as:List V}(ok:(yF (nm m) x as).1=true):
 ∃id,PySem.Slot "str" m id/\typeOf (.builtin id)=pure (.type "method_descriptor")/\∀(X:Addr->Prop) (s:Shared) (t:Tok) (us:List Value),bB X s.heap->Reps G X s as us ->
  aS G A X (call (.builtin id) (.str (tx x) t::us)) (yF (nm m) x as).2 s:=by
 obtain⟨F,e,o⟩:=Au ok;obtain⟨f,e1,e2⟩:=Option.map_eq_some_iff.mp e;obtain⟨id,h1,h2,hy⟩:=C1 (G:=G) (A:=A) _ (sY e1);refine⟨id,h1,h2,λX s t us al r => ?_⟩;unfold yF;rw[e1];subst e2;exact hy X s x t as us o al r
end
end
section
open PySem PySem.W PySem.Calls PyProof.Rows
section
variable {G:Cfg} {A:Around} {env:Env} {X:Addr->Prop} {κ:List (Str×NameKind)} {ρ:Rho} {Φ:Fns}
theorem C3(Fa:aU G A Φ){E:Expr->R}(GE:aL G A env X ρ E){a b:Expr}{op:CmpOp}{pos:Pos}(ok:(f8 E a op b).1=true):
 ia G A env X ρ (eval (.Compare a [op] [b] pos) env) (f8 E a op b).2:=by
 unfold f8 at ok |-;simp only[aK]at ok;obtain⟨⟨o1,o2⟩,o3⟩:=ok;intro O s S E' Q q;refine wpAny_Compare1 (GE.ok a o1 O s S _ _ λu s1 k1 r1=>GE.ok b o2 O s1 (S.keeps k1) _ _ λv s2 k2 r2 => ?_) (wA GE o2 op);exact l9 Fa.units o3 (r1.on (Kp.on k2)).unh r2.unh _ _ (q _ s2 (Kp.trans k1 k2) (ak.bool_iff.mpr rfl))
theorem wC{E:Expr->R}(GE:aL G A env X ρ E){b:Expr}(o:(E b).1=true)(op:CmpOp):markedEach [op] [b] (evalEach [b] env)=[eval b env]:=by
 show[markedBehindIn op b (eval b env)]=_;rw[markedBehindIn_of_false (wA GE o op)]
theorem yO(Fa:aU G A Φ){E:Expr->R}(GE:aL G A env X ρ E){a b:Expr}{op:CmpOp}{pos:Pos}{m:Sem Value}(ok:(f8 E a op b).1=true):
 Er G A env X ρ (isTrue (.Compare a [op] [b] pos) env m) (ad (f8 E a op b).2).2:=by
 unfold f8 at ok |-;simp only[aK]at ok;obtain⟨⟨o1,o2⟩,o3⟩:=ok;intro O s S E' Q q;rw[arm_isTrue_Compare,wC GE o2];refine ae (GE.ok a o1 O s S _ _ λu s1 k1 r1 => ?_);show wpAny _ A (do
  let rv <-holding [u] (eval b env)
  standAt pos
  let c <-operate [u,rv] (compareOp op u rv)
  holding [c] (truthy c)) Q E' s1
 refine ae (bQ (GE.ok b o2 O s1 (S.keeps k1) _ _ λv s2 k2 r2=>ae (dw (ae (wpAny_operating ?_)))));exact l9 Fa.units o3 (r1.on (Kp.on k2)).unh r2.unh _ _ (bQ (wpAny_truthy_bool (q s2 (Kp.trans k1 k2))))
theorem pg{E:Expr->R}(GE:aL G A env X ρ E){b c:Expr}(o:(E b).1=true)(o':(E c).1=true)(op op':CmpOp):markedEach [op,op'] [b,c] (evalEach [b,c] env)=[eval b env,eval c env]:=by
 show[eval b env,markedBehindIn op' c (eval c env)]=_;rw[markedBehindIn_of_false (wA GE o' op')]
theorem GU{a b c d e:Bool}(h:(a&&b&&c&&d&&e)=true):a=true/\b=true/\c=true/\d=true/\e=true:=by
 have h4:=bc h;have h3:=bc h4.1;have h2:=bc h3.1;have h1:=bc h2.1;exact⟨h1.1,h1.2,h2.2,h3.2,h4.2⟩
theorem C5(Fa:aU G A Φ){E:Expr->R}(GE:aL G A env X ρ E){a b c:Expr}{op op':CmpOp}{pos:Pos}(ok:(j2 E a op b op' c).1=true):
 ia G A env X ρ (eval (.Compare a [op,op'] [b,c] pos) env) (j2 E a op b op' c).2:=by
 obtain⟨o1,o2,oz,o3,o4⟩:=GU ok;intro O s S E' Q q;rw[arm_eval_Compare,pg GE o2 oz op op'];refine ae (GE.ok a o1 O s S _ _ λu s1 k1 r1 => ?_);show wpAny _ A (do
  let rv <-holding [u] (eval b env)
  standAt pos
  let x <-holding [u,rv] (compareOp op u rv)
  release [u,rv] [x]
  if <-holding [x,rv] (truthy x)then compareChain pos rv [op'] [eval c env]else pure x) Q E' s1
 have S1:=S.keeps k1;have q:∀u s',aM s s'->ak G (am env X O) s' (.bool ((gQ op (unh (E a).2) (unh (E b).2)).2&&(gQ op' (unh (E b).2) (unh (E c).2)).2)) u->Q u s':=q
 refine ae (bQ (GE.ok b o2 O s1 S1 _ _ λv s2 k2 r2=>ae (dw (ae (bQ ?_)))));refine l9 Fa.units o3 (r1.on (Kp.on k2)).unh r2.unh _ _ (ae (wpAny_release (ae (bQ (wpAny_truthy_bool ?_)))));cases hc:(gQ op (unh (E a).2) (unh (E b).2)).2 with
 |false=>
  rw[hc]at q;simp only[Bool.false_and]at q;exact ar (q _ s2 (Kp.trans k1 k2) (ak.bool_iff.mpr rfl))
 |true=>
  rw[hc]at q;simp only[Bool.true_and]at q;show wpAny _ A (do
   let rv <-holding [v] (eval c env)
   standAt pos
   operate [v,rv] (compareOp op' v rv)) Q E' s2
  refine ae (bQ (GE.ok c oz O s2 (S1.keeps k2) _ _ λw s3 k3 r3=>ae (dw (wpAny_operating ?_))));exact l9 Fa.units o4 (r2.on (Kp.on k3)).unh r3.unh _ _ (q _ s3 (Kp.trans k1 (Kp.trans k2 k3)) (ak.bool_iff.mpr rfl))
theorem yP(Fa:aU G A Φ){E:Expr->R}(GE:aL G A env X ρ E){a b c:Expr}{op op':CmpOp}{pos:Pos}{m:Sem Value}(ok:(j2 E a op b op' c).1=true):
 Er G A env X ρ (isTrue (.Compare a [op,op'] [b,c] pos) env m) (ad (j2 E a op b op' c).2).2:=by
 obtain⟨o1,o2,oz,o3,o4⟩:=GU ok;intro O s S E' Q q;rw[arm_isTrue_Compare,pg GE o2 oz op op'];refine ae (GE.ok a o1 O s S _ _ λu s1 k1 r1 => ?_);show wpAny _ A (do
  let rv <-holding [u] (eval b env)
  standAt pos
  let x <-holding [u,rv] (compareOp op u rv)
  release [u,rv] [x]
  if <-holding [x,rv] (truthy x)then testChain pos rv [op'] [eval c env]else pure false) Q E' s1
 have S1:=S.keeps k1;refine ae (bQ (GE.ok b o2 O s1 S1 _ _ λv s2 k2 r2=>ae (dw (ae (bQ ?_)))));refine l9 Fa.units o3 (r1.on (Kp.on k2)).unh r2.unh _ _ (ae (wpAny_release (ae (bQ (wpAny_truthy_bool ?_)))));have q':∀s',aM s s'->Q ((gQ op (unh (E a).2) (unh (E b).2)).2&&(gQ op' (unh (E b).2) (unh (E c).2)).2) s':=q
 cases hc:(gQ op (unh (E a).2) (unh (E b).2)).2 with
 |false=>
  rw[hc]at q';simp only[Bool.false_and]at q';exact ar (q' s2 (Kp.trans k1 k2))
 |true=>
  rw[hc]at q';simp only[Bool.true_and]at q';show wpAny _ A (do
   let rv <-holding [v] (eval c env)
   standAt pos
   let x <-operate [v,rv] (compareOp op' v rv)
   holding [x] (truthy x)) Q E' s2
  refine ae (bQ (GE.ok c oz O s2 (S1.keeps k2) _ _ λw s3 k3 r3=>ae (dw (ae (wpAny_operating ?_)))));exact l9 Fa.units o4 (r2.on (Kp.on k3)).unh r3.unh _ _ (bQ (wpAny_truthy_bool (q' s3 (Kp.trans k1 (Kp.trans k2 k3)))))
theorem sZ{E:Expr->R}(GE:aL G A env X ρ E){e:Option Expr}(ok:(ip E e).1=true):ia G A env X ρ (evalPart e env) (ip E e).2:=by
 induction e using Option.casesOn with
 |none=>intro O s S E' Q q;exact ar (q _ s (Kp.refl s) (ak.none_iff.mpr rfl))
 |some e=>exact GE.ok e ok
theorem AB{E:Expr->R}(GE:aL G A env X ρ E){o:Expr}{lo hi st:Option Expr}{p pos:Pos}(ok:(nM E o lo hi st).1=true):
 ia G A env X ρ (eval (.Subscript o (.Slice lo hi st p) pos) env) (nM E o lo hi st).2:=by
 unfold nM at ok |-;simp only[aK]at ok;obtain⟨⟨⟨⟨o1,o2⟩,o3⟩,o4⟩,o5⟩:=ok;intro O s S E' Q q;refine xU (GE.ok o o1 O s S _ _ λu s1 k1 r1=>wpAny_Slice ?_);have S1:=S.keeps k1;refine sZ GE o2 O s1 S1 _ _ λva s2 k2 r2 => ?_
 have S2:=S1.keeps k2;refine sZ GE o3 O s2 S2 _ _ λvb s3 k3 r3 => ?_
 have S3:=S2.keeps k3;refine sZ GE o4 O s3 S3 _ _ λvc s4 k4 r4 => ?_
 have S4:=S3.keeps k4;have up:=Kp.push s4 { cls := .type "slice",data := .fields #[va,vb,vc] } s4.toks;refine Ar (s:={ s4 with heap:=s4.heap.push { cls := .type "slice",data := .fields #[va,vb,vc] } }) (S4.keeps up).full o5 (Heap.IsSliceOf.new _ _ _ _)
  (r1.on (Kp.on (Kp.trans k2 (Kp.trans k3 (Kp.trans k4 up))))) (r2.on (Kp.on (Kp.trans k3 (Kp.trans k4 up))))
  (r3.on (Kp.on (Kp.trans k4 up))) (r4.on (Kp.on up)) _ _ λw s5 k5 r5 => ?_
 exact q w s5 (Kp.trans k1 (Kp.trans k2 (Kp.trans k3 (Kp.trans k4 (Kp.trans (Kp.push s4 _ s4.toks) k5))))) r5
theorem C6(Fa:aU G A Φ)(En:aw env κ){E:Ev}{τ:Tau}(GE:aL G A env X ρ (E κ ρ)){o i:Expr}{pos:Pos}(ok:(oC E τ κ ρ o i).1=true):
 ia G A env X ρ (eval (.Subscript o i pos) env) (oC E τ κ ρ o i).2:=by
 have o4:=bc ok;have o1:=bc o4.1;intro O s S E' Q q;exact xU (nO Fa En GE o1.1 O s S _ _ λu s1 k1 r1=>GE.ok i o1.2 O s1 (S.keeps k1) _ _ λv s2 k2 r2=>
  E0 o4.2 (r1.keeps k2) r2 _ _ λw s3 k3 r3=>q w s3 (Kp.trans k1 (Kp.trans k2 k3)) r3)
theorem jv{o:Expr}{a:Str}{m:Sem Value}(h:dT o=true):attributeBase o a env m=m:=by
 induction o using Expr.casesOn with
 |Call f as kw p=>induction as using List.casesOn with
  |nil=>exact aa h
  |cons a as=>induction f using Expr.casesOn<;>rfl
 |_=>rfl
theorem AC(Fa:aU G A Φ){E:Expr->R}(GE:aL G A env X ρ E){o:Expr}{a:Str}{pos:Pos}(ok:(ju E o (nm a)).1=true):
 ia G A env X ρ (eval (.Attribute o a pos) env) (ju E o (nm a)).2:=by
 unfold ju at ok |-;simp only[aK]at ok;obtain⟨⟨o1,o2⟩,o3⟩:=ok;intro O s S E' Q q;rw[arm_eval_Attribute,jv o3];refine ae (GE.ok o o1 O s S _ _ λu s1 k1 r1=>ae (dw (ae (bQ ?_))));dsimp only at q;have e:El (nm a) (E o).2=(true,(El (nm a) (E o).2).2):=by rw[<-o2]
 exact Fa.attr _ s1 _ u a _ (S.keeps k1).old r1 e _ _ λw s2 k2 r2=>
  ae (wpAny_letTemporaryGo (ar (q w s2 (Kp.trans k1 k2) r2)))
theorem c8 {M:Model} {A:Around} {E:Value->Shared->Prop} {s:Shared} {f:Value} {trees:List (Bool×Sem Value)} {Q:Args->Shared->Prop} (hp:trees.any (·.1)=false)
 (h:wpAny M A (spliced trees) (λvs s'=>Q ⟨vs,[]⟩ s') E s):wpAny M A (evalArgs f true trees []) Q E s:=by
 induction trees using List.casesOn with
 |nil=>
  unfold evalArgs;show wpAny M A (spliced []>>=_) Q E s;refine ae (bK h (λvs s' h' => ?_) λ_ _ x=>x);refine bQ ?_;exact ae (ar (ae (ar (ar h'))))
 |cons x r=>
  obtain⟨b,x⟩:=x
  induction b using Bool.casesOn with
  |true=>simp at hp
  |false=>
   unfold evalArgs;show wpAny M A (spliced ((false,x)::r)>>=_) Q E s;refine ae (bK h (λvs s' h' => ?_) λ_ _ x=>x);refine bQ ?_;exact ae (ar (ae (ar (ar h'))))
theorem jw{k:Option NameKind}(h:ay k=true):k=some .globalImplicit:=by
 induction k using Option.casesOn with
 |none=>injections h
 |some k=>induction k using NameKind.casesOn<;>first|rfl|injections h
theorem dP (Fa:aU G A Φ) (En:aw env κ) {f:Str} {v:Value} {pos:Pos} (hg:ay (kd κ (nm f))=true) (hb:bootBuiltins f=some v) (hn:E1 f) {O} {s:Shared} (S:cY G env X O ρ s)
 {E':Value->Shared->Prop} {Q:Value->Shared->Prop} (q:Q v s):wpAny (model G.p G.w) A (eval (.Name f pos) env) Q E' s:=by
 have hx:ay (env.kindOf f)=true:=(En.glob f).trans hg;have pl:=En.plain f (by rw[hx,cC]);obtain⟨mg,mb,h1,h2,_,_,h5⟩:=Fa.names;obtain⟨e1,e2⟩:=h5 f v hn hb;refine Name_function_global En.kind (jw hx) (loadGlobal_builtin (mg:=mg) (mb:=mb) ?_ e1 ?_ e2 q) pl.1
 ·rw[En.globals];exact h1.keeps S.old
 ·rw[En.builtins];exact h2.keeps S.old
theorem cT {M:Model} {A:Around} {E:Value->Shared->Prop} {s:Shared} {pos:Pos} {v:Value} {trees:List (Bool×Sem Value)} {Q:Value->Shared->Prop} (hp:xV v) (h1:trees.any (·.1)=false)
 (h:wpAny M A (spliced trees) (λvs s'=>wpAny M A (call v vs) Q E s') E s):wpAny M A (callWith pos v [] trees []) Q E s:=by
 rcases hp with⟨id,rfl⟩|⟨id,rfl⟩
 ·exact Calls.callWith_builtin h1 (c8 h1 h)
 ·exact PySem.callWith_type h1 (c8 h1 h)
theorem AD(Fa:aU G A Φ)(En:aw env κ){E:Expr->R}(GE:aL G A env X ρ E){f:Str}{as:List Expr}{p pos:Pos}(ok:(gq Φ E κ (nm f) as).1=true):
 ia G A env X ρ (eval (.Call (.Name f p) as [] pos) env) (gq Φ E κ (nm f) as).2:=by
 unfold gq at ok |-;simp only[aK]at ok;obtain⟨⟨o1,o2⟩,o3⟩:=ok;intro O s S E' Q q;have pt:=eD GE pos o2;refine Call_Name rfl ?_;unfold mP at o3 q;cases hl:sO Φ.fn (nm f)with
 |some F=>
  rw[hl]at o3 q;obtain⟨mg,mb,h1,h2,_,h4,_⟩:=Fa.names;obtain⟨a,e1,hd,hc⟩:=h4 f F hl;have hx:ay (env.kindOf f)=true:=(En.glob f).trans o1;have pl:=En.plain f (by rw[hx,cC]);refine Name_function_global En.kind (jw hx) (loadGlobal_global (mg:=mg) (by rw[En.globals];exact h1.keeps S.old) e1 ?_) pl.1;refine hd pos _ s _ _ pt.1 (c8 pt.1 (eP GE pos o2 O s S _ _ λus s1 k1 r1 => ?_));have S1:=S.keeps k1;exact⟨S1.old,hc _ s1 _ us S1.old S1.off S1.full r1.unh o3 _ _ λw s2 k2 r2=>q w s2 (Kp.trans k1 k2) r2⟩
 |none=>
  rw[hl]at o3 q;have key:E1 f/\∃v,xV v/\bootBuiltins f=some v/\∀O s us,cY G env X O ρ s->Reps G (am env X O) s (fO E as).2 us->aS G A (am env X O) (call v us) (iM (nm f) ((fO E as).2.map unh)).2 s:=by
   obtain⟨hn,v,hp,hb,hy⟩:=GQ (G:=G) Fa.none o3;exact⟨hn,v,hp,hb,λO s us S r=>hy _ s us (λe=>S.pos (e▸(En.glob f).trans o1)) S.full r.unh⟩
  obtain⟨hn,v,hp,hb,hy⟩:=key;refine dP Fa En o1 hb hn S (cT hp pt.1 (eP GE pos o2 O s S _ _ λus s1 k1 r1 => ?_));exact hy O s1 us (S.keeps k1) r1 _ _ λw s2 k2 r2=>q w s2 (Kp.trans k1 k2) r2
theorem yQ{E:Ev}(GE:aL G A env X ρ (E κ ρ)){a:Expr}(o:(look κ ρ (E κ ρ) a).1=true):starEach [a] env=[(false,eval a env)]:=by
 induction a using Expr.casesOn with
 |Starred e p=>exact aa ((GE.noStar e p).symm.trans o)
 |_=>rfl
theorem E4(Fa:aU G A Φ)(En:aw env κ){E:Ev}(GE:aL G A env X ρ (E κ ρ)){a:Expr}{p pos:Pos}(ok:(qV E κ ρ (nm "len") a).1=true):
 ia G A env X ρ (eval (.Call (.Name "len" p) [a] [] pos) env) (qV E κ ρ (nm "len") a).2:=by
 unfold qV at ok |-;simp only[aK]at ok;obtain⟨⟨o1,o2⟩,o3⟩:=ok;intro O s S E' Q q;dsimp only at q;have hst:=yQ GE o2;have ht:backTo pos (starEach [a] env)=[(false,eval a env)]:=by rw[hst];rfl
 refine Call_Name ht (dP Fa En o1 boot_len nofun S (cT (.inl ⟨_,rfl⟩) rfl (spliced_cons (nO Fa En GE o2 O s S _ _ λu s1 k1 r1=>spliced_nil ?_))));exact uF o3 r1 _ _ λw s2 k2 r2=>q w s2 (Kp.trans k1 k2) r2
theorem wD{m:Nm}{v:V}{ys:List V}(ok:(fP Φ m v ys).1=true):∃x,v = .str x:=by
 induction v using V.casesOn with
 |str x=>exact⟨x,rfl⟩
 |_=>exact aa ok
theorem yR{ts:List (Bool×Sem Value)}(h:ts.any (·.1)=false):ts.all (λx => !x.1)=true:=by
 rw[List.any_eq_false]at h;exact List.all_eq_true.mpr λx hx=>(Bool.not_eq_true' _).mpr ((Bool.not_eq_true _).mp (h x hx))
theorem AE{E:Expr->R}(GE:aL G A env X ρ E){o:Expr}{m:Str}{as:List Expr}{apos pos:Pos}{x:List Nat}(hp:apos.endLine=pos.line)(hl:as.length<30)(o1:(E o).1=true)(o2:(fO E as).1=true)(o4:dT o=true)(hv:unh (E o).2 = .str x)(ok:(yF (nm m) x ((fO E as).2.map unh)).1=true):
 ia G A env X ρ (eval (.Call (.Attribute o m apos) as [] pos) env) (yF (nm m) x ((fO E as).2.map unh)).2:=by
 intro O s S E' Q q;have pt:=eD GE pos o2;refine wpAny_Call_method_lateS (jv o4) ?_ (by rw[hp];exact beq_self_eq_true _) (GE.ok o o1 O s S _ _ λu s1 k1 r1 => ?_)
 ·rw[yR pt.1]
  show(true&&decide (as.length+0+0<30))=true;rw[Bool.true_and,decide_eq_true_eq];exact hl
 ·have r1:=r1.unh
  rw[hv]at r1;obtain⟨t,rfl⟩:=ak.str_iff.mp r1;have S1:=S.keeps k1;obtain⟨id,slot,ty,hy⟩:=C2 (G:=G) (A:=A) ok;refine⟨"str",id,F.plainAttrs_str,slot,ty,typeIs_str _ _ _,(λ_ e=>nomatch e),Calls.callWith_builtin pt.1 (c8 pt.1 (eP GE pos o2 O s1 S1 _ _ λus s2 k2 r2 => ?_))⟩;exact hy _ s2 t us (S1.keeps k2).full r2.unh _ _ λw s3 k3 r3=>q w s3 (Kp.trans k1 (Kp.trans k2 k3)) r3
theorem wE{e:Expr}{z:List Nat}(h:eC e=some z):∃x k p,e = .Constant (.str x) k p/\nm x=z:=by
 induction e using Expr.casesOn with
 |Constant c k p=>induction c using Const.casesOn with
  |str x=>exact⟨x,k,p,rfl,bR h⟩
  |_=>exact aD h
 |_=>exact aD h
theorem E5 {E:Expr->R} (GE:aL G A env X ρ E) {a:Expr} {g:Bool} (hg:g=true->ay (env.kindOf "chr")=true) (ok:(jN g (E a) (eC a)).1=true) {O} {s:Shared} (S:cY G env X O ρ s) {E':Value->Shared->Prop} {Q:Value->Shared->Prop}
 (q:∀t s',aM s s'->0<t->t<s'.toks->Q (.str (tx (jN g (E a) (eC a)).2) t) s'):wpAny (model G.p G.w) A (eval a env) Q E' s:=by
 generalize h:eC a=l at ok q
 induction l using Option.casesOn with
 |none=>
  have ok:(xL (E a).1 (E a).2).1=true:=ok;have q:∀t s',aM s s'->0<t->t<s'.toks->Q (.str (tx (xL (E a).1 (E a).2).2) t) s':=q
  generalize hv:(E a).2=v at ok q
  induction v using V.casesOn with
  |hid c=>
   refine GE.ok a ok O s S _ _ λu s1 k1 r1 => ?_
   rw[hv]at r1;obtain⟨t,rfl,h1,h2⟩:=ak.hid_iff.mp r1;exact q t s1 k1 h1 h2
  |_=>exact aa ok
 |some y=>
  obtain⟨x,k,p,rfl,rfl⟩:=wE h;have q:=q s.toks { s with toks:=s.toks+1 } (Kp.toks s _) (S.pos (hg ok)) (Nat.lt_succ_self _);have q:Q (.str (tx (nm x)) s.toks) { s with toks:=s.toks+1 }:=q;rw[xR]at q;exact Constant_str q
theorem yS{s:Shared}{x y z:List Nat}{t u v:Tok}(hu:0<u)(huv:u<v)(ok:(sS y z x).1=true):aS G A X (call (.builtin "str.replace") [.str (tx x) t, .str (tx y) u, .str (tx z) v]) (sS y z x).2 s:=by
 have o2:=bc ok;have o1:=bc o2.1;have l1:x.length<=1000000:=aY o1.2;refine fx λE Q q=>SC.replaceW (Nat.ne_of_gt hu) (Nat.ne_of_gt (dz (bw _) huv)) (Nat.ne_of_lt huv) (by rw[sV];exact(Bool.not_eq_true' _).mp o1.1) (by rw[aV];omega) (by rw[aV];exact aY o2.2) ?_
 have e:tx (av x y z)=Txt.replace (tx x) (tx y) (tx z):=me _;rw[<-e];exact q
theorem C7{E:Expr->R}(GE:aL G A env X ρ E){o:Expr}{g:Bool}{as:List Expr}{apos pos:Pos}(hg:g=true->ay (env.kindOf "chr")=true)(hp:apos.endLine=pos.line)(ok:(oG E g o as).1=true):
 ia G A env X ρ (eval (.Call (.Attribute o "replace" apos) as [] pos) env) (oG E g o as).2:=by
 induction as using List.casesOn with
 |nil=>exact aa ok
 |cons a as=>induction as using List.casesOn with
  |nil=>exact aa ok
  |cons b as=>induction as using List.casesOn with
   |cons c as=>exact aa ok
   |nil=>
    have ok:(xM E g o a (eC b)).1=true:=ok;show ia G A env X ρ _ (xM E g o a (eC b)).2;generalize hb:eC b=l at ok |-
    induction l using Option.casesOn with
    |none=>exact aa ok
    |some z=>
     obtain⟨zx,kz,pz,rfl,rfl⟩:=wE hb;have o4:=bc ok;have o3:=bc o4.1;have o1:=bc o3.1;intro O s S E' Q q;have st:starEach [a, .Constant (.str zx) kz pz] env=[(false,eval a env),(false,eval (.Constant (.str zx) kz pz) env)]:=by
      generalize ha:eC a=la
      induction la using Option.casesOn with
      |some y=>obtain⟨x,k,p,rfl,_⟩:=wE ha;rfl
      |none=>
       have oo:(xL (E a).1 (E a).2).1=true:=by have:=o1.2;rw[ha]at this;exact this
       have:(E a).1=true:=by
        generalize (E a).2=v at oo
        induction v using V.casesOn with
        |hid c=>exact oo
        |_=>exact aa oo
       exact gr GE this _
     have bt:backTo pos (starEach [a, .Constant (.str zx) kz pz] env)=[(false,eval a env),(false,eval (.Constant (.str zx) kz pz) env)]:=by rw[st];rfl
     refine wpAny_Call_method_lateS (jv o4.2) (by rw[bt];rfl) (by rw[hp];exact beq_self_eq_true _) (GE.ok o o1.1 O s S _ _ λu s1 k1 r1 => ?_);have S1:=S.keeps k1;have r1:=r1.unh;have o2:=o3.2;have q:∀u s',aM s s'->ak G (am env X O) s' (mJ (sS (jN g (E a) (eC a)).2 (nm zx)) (unh (E o).2)).2 u->Q u s':=q
     have o2:(mJ (sS (jN g (E a) (eC a)).2 (nm zx)) (unh (E o).2)).1=true:=o2;generalize unh (E o).2=v at r1 o2 q
     induction v using V.casesOn with
     |str x=>
      obtain⟨t,rfl⟩:=ak.str_iff.mp r1;refine⟨"str","str.replace",F.plainAttrs_str,F.slot_str_replace,F.type_str_replace,typeIs_str _ _ _,(λ_ e=>nomatch e), ?_⟩;rw[bt];refine Calls.callWith_builtin rfl (c8 rfl (spliced_cons (E5 GE hg o1.2 S1 λty s2 k2 h1 h2=>spliced_cons (Constant_str (spliced_nil ?_)))));have y:=yS (G:=G) (A:=A) (X:=am env X O) (s:={ s2 with toks:=s2.toks+1 }) (t:=t) h1 h2 o2;rw[xR]at y;exact y _ _ λw s3 k3 r3=>q w s3 (Kp.trans k1 (Kp.trans k2 (Kp.trans (Kp.toks s2 _) k3))) r3
     |_=>exact aa o2
theorem C8(Fa:aU G A Φ){E:Expr->R}(GE:aL G A env X ρ E){o:Expr}{m:Str}{as:List Expr}{apos pos:Pos}(hp:apos.endLine=pos.line)(hl:as.length<30)(ok:(f9 Φ E o (nm m) as).1=true):
 ia G A env X ρ (eval (.Call (.Attribute o m apos) as [] pos) env) (f9 Φ E o (nm m) as).2:=by
 have o4:=bc ok;have o3:=bc o4.1;have o2:=bc o3.1;have k:=o3.2;show ia G A env X ρ _ (fP Φ (nm m) (unh (E o).2) ((fO E as).2.map unh)).2;obtain⟨x,hv⟩:=wD k;have:=AE (pos:=pos) (m:=m) GE hp hl o2.1 o2.2 o4.2 hv;rw[hv]at k |-;exact this k
theorem x3{s:Shared}{X:Addr->Prop}:∀{as:List V} {us:List Value},as.all xE=true->Reps G X s as us->∃ps:List (Int×Tok),us=ps.map (λp => .int p.1 p.2)/\as.map n9=ps.map (·.1)
 |[],us,_,r=>⟨[],Reps.nil_iff.mp r,rfl⟩
 |x::l,us,a,r=>by
  obtain⟨v,r',rfl,h1,h2⟩:=Reps.cons_iff.mp r;have a:=bc a;obtain⟨ps,e1,e2⟩:=x3 a.2 h2;rw[<-og a.1]at h1;obtain⟨t,rfl⟩:=ak.int_iff.mp h1;exact⟨(n9 x,t)::ps,by rw[e1];rfl,by rw[aC,e2];rfl⟩
theorem s8{k:Int}(h : -1000<=k)(h':k<=1000):k.natAbs<1073741824:=⋯
theorem yT {s:Shared} {ps:List (Int×Tok)} (ok:(sP (ps.map (·.1))).1=true) {E:Value->Shared->Prop} {Q:Value->Shared->Prop}
 (q:∀c s' a b k t u v,aM s s'->IsRange s'.heap c a b k t u v->d5 a b k=true->(sP (ps.map (·.1))).2=(fv a b k).map .int->Q (.ref c) s'):
 wpAny (model G.p G.w) A (call (.type "range") (ps.map λp => .int p.1 p.2)) Q E s:=by
 generalize hw:(sP (ps.map (·.1))).2=w at q
 induction ps using List.casesOn with
 |nil=>exact aa ok
 |cons p ps=>induction ps using List.casesOn with
  |nil=>exact call_range_1 (q _ _ _ _ _ _ _ _ (Kp.push s _ _ ⋯) (IsRange.new ..) ok hw.symm)
  |cons p' ps=>induction ps using List.casesOn with
   |nil=>exact call_range_2 (q _ _ _ _ _ _ _ _ (Kp.push s _ _ ⋯) (IsRange.new ..) ok hw.symm)
   |cons p2 ps=>induction ps using List.casesOn with
    |nil=>
     have o1:=bc ok;have o2:=bc o1.1;have o3:=bc o2.1;exact call_range_3 (j4 o3.2) (q _ _ _ _ _ _ _ _ (Kp.push s _ _ ⋯) (IsRange.new ..) ok hw.symm) (.inl (PyProof.noPylong_small (s8 (aY o2.2) (aY o1.2))))
    |cons _ _=>exact aa ok
theorem uJ {s:Shared} {X:Addr->Prop} {as:List V} {us:List Value} (ok:(gJ as).1=true) (r:Reps G X s as us) {E:Value->Shared->Prop} {Q:Value->Shared->Prop}
 (q:∀c s' a b k t u v,aM s s'->IsRange s'.heap c a b k t u v->d5 a b k=true->(gJ as).2=(fv a b k).map .int->Q (.ref c) s'):
 wpAny (model G.p G.w) A (call (.type "range") us) Q E s:=by
 unfold gJ at ok q;generalize h:as.all xE=b at ok q
 induction b using Bool.casesOn with
 |false=>exact aa ok
 |true=>
  obtain⟨ps,rfl,e⟩:=x3 h r;rw[e]at ok q;exact yT ok q
theorem j7(k:Int):∀(n:Nat) (a:Int) (j:Nat),(hJ a k n)[j]? = if j<n then some (a+j*k)else none
 |0,a,j=>by rw[if_neg (Nat.not_lt_zero j)];exact List.getElem?_nil
 |n+1,a,j=>by
  induction j using Nat.casesOn with
  |zero=>rw[iK];simp
  |succ j=>
   rw[iK,List.getElem?_cons_succ,j7 k n (a+k) j]
   by_cases h:j<n
   ·rw[if_pos h,if_pos ⋯]
    congr 1
    push_cast
    rw[Int.add_mul];omega
   ·rw[if_neg h,if_neg ⋯]
theorem j8(k:Int):∀(n:Nat) (a:Int),(hJ a k n).length=n
 |0,a=>rfl
 |n+1,a=>by rw[iK,aP,j8 k n]
theorem rt{h:Shared}{X:Addr->Prop}:∀{l:List Int} {vs:List Value},l.length=vs.length->(∀(j:Nat) (i:Int),l[j]? = some i->∃t,vs[j]? = some (Value.int i t))->Reps G X h (l.map V.int) vs
 |[],vs,hl,_=>by rw[List.eq_nil_of_length_eq_zero hl.symm];exact Reps.nil
 |i::l,[],hl,_=>by simp at hl
 |i::l,v::vs,hl,ha=>by
  obtain⟨t,e⟩:=ha 0 i rfl
  injection e with e
  subst e;exact Reps.cons (ak.int_iff.mpr ⟨t,rfl⟩) (rt (by simpa using hl) λj i' hj=>by simpa using ha (j+1) i' (by simpa using hj))
theorem cf(h:Heap){b:Addr}(hb:h.objs.size<=b):h.get? b=none:=by
 cases e:h.get? b with
 |none=>rfl
 |some o=>exact absurd (Heap.lt_size e) (Nat.not_lt.mpr hb)
theorem mV{c:Prop}[Decidable c]{x y:Int}(h:c->0<=x/\0<=y):0<=(if c then x/y+1 else 0:Int):=by
 by_cases e:c
 ·rw[if_pos e];exact Int.add_nonneg (Int.ediv_nonneg (h e).1 (h e).2) nofun
 ·rw[if_neg e];exact Int.le_refl _
theorem gT(a b k:Int):0<=Builtin.Range.rangeSize a b k:=by
 unfold Builtin.Range.rangeSize
 by_cases h:k>0
 ·rw[if_pos h];exact mV λh'=>⋯
 ·rw[if_neg h];exact mV λh'=>⋯
noncomputable def mW(G:Cfg)(A:Around)(env:Env)(X:Addr->Prop)(ρ:Rho)(t:Sem Value)(l:List V):Prop:=
 ∀O s,cY G env X O ρ s->∀(E:Value->Shared->Prop) (Q:Value->Shared->Prop),
  (∀a vs m s',aM s s'->s.heap.get? a=none->s'.heap.get? a=some { cls := .type "list",data := .seq vs m }->Reps G (λb=>am env X O b\/b=a) s' l vs.toList->Q (.ref a) s')->wpAny (model G.p G.w) A t Q E s
theorem Reps.addNew{P:Addr->Prop}{h h':Shared}{a:Addr}{l:List V}{vs:List Value}(r:Reps G P h l vs)(k:aM h h')(d:h.heap.get? a=none):Reps G (λb=>P b\/b=a) h' l vs:=
 r.on ⟨λb o _ e=>Kp.keep k b o e,λb o e f=>f.elim id λf=>aD ((f▸e:h.heap.get? a=some o).symm.trans d).symm,Kp.le k⟩
theorem mW.ev{t:Sem Value}{l:List V}(h:mW G A env X ρ t l):ia G A env X ρ t (.list l):=λO s S E Q q=>h O s S E Q λa vs m s' k d el rl=>by
 have na:¬am env X O a:=λf=>by
  obtain⟨o,e⟩:=S.alive a f;rw[d]at e;exact aD e
 exact q _ s' k (ak.list_iff.mpr ⟨a,vs,rfl,na,⟨_,el,rfl,_,rfl⟩,Reps.on ⟨λ_ _ _ e=>e,λb o e f => .inl f,aq _⟩ rl⟩)
theorem uK{P:Addr->Prop}{h:Shared}{a k:Int}{n:Nat}{acc:List Value}(hs:acc.length=n)(ha:∀(j:Nat) (v:Value),acc[j]? = some v->∃t,v = .int (a+j*k) t):Reps G P h ((hJ a k n).map V.int) acc:=
 rt (by rw[j8,hs]) λj i hj=>by
  rw[j7]at hj
  by_cases hlt:j<n
  ·rw[if_pos hlt]at hj
   rw[<-bR hj];have e:=gF (hs▸hlt);obtain⟨t',e'⟩:=ha j _ e;exact⟨t',e.trans (congrArg some e')⟩
  ·rw[if_neg hlt]at hj;exact aD hj
theorem rx(Fa:aU G A Φ)(En:aw env κ){E:Expr->R}(GE:aL G A env X ρ E){bs:List Expr}{p p' q' pos:Pos}(ok:(cL E κ (nm "list") (nm "range") bs).1=true):
 ∃l,(cL E κ (nm "list") (nm "range") bs).2 = .list l/\mW G A env X ρ (eval (.Call (.Name "list" p) [.Call (.Name "range" p') bs [] q'] [] pos) env) l:=by
 have o4:=bc ok;have o3:=bc o4.1;have o1:=bc o3.1;refine⟨_,rfl, ?_⟩;intro O s S E' Q q;have pt:=eD GE q' o3.2;refine Call_Name1 (dP Fa En o1.1 PyProof.Rows.boot_list nofun S (cT (.inr ⟨_,rfl⟩) rfl (spliced_cons ?_)));refine Call_Name rfl (dP Fa En o1.2 boot_range nofun S (cT (.inr ⟨_,rfl⟩) pt.1 (eP GE q' o3.2 O s S _ _ λus s1 k1 r1 => ?_)));refine uJ o4.2 r1 λc s2 a b k t u v k2 hr hok hv=>spliced_nil ?_
 have g5:=bc (bc (bc (bc hok).1).1).1;have g2:=aY g5.2;have pos':=gT a b k;refine bA (call_list_range (n:=(Builtin.Range.rangeSize a b k).toNat) Fa.none hr g5.1 (Int.toNat_of_nonneg pos').symm ⋯ λh' tk acc c' hk ho hi hle => ?_);refine q _ acc c' _ (Kp.trans k1 (Kp.trans k2 (Kp.heap tk hk hle))) ?_ ho ?_
 ·cases e:s.heap.get? s2.heap.objs.size with
  |none=>rfl
  |some o=>exact absurd (Heap.lt_size (Kp.keep k2 _ o (Kp.keep k1 _ o e))) (dl _)
 rw[hv];exact uK (by simpa using hi.1) λj v hj=>hi.2 j v (by simpa using hj)
theorem s9(Fa:aU G A Φ)(En:aw env κ){E:Expr->R}(GE:aL G A env X ρ E){bs:List Expr}{p p' q' pos:Pos}(ok:(cL E κ (nm "list") (nm "range") bs).1=true):
 ia G A env X ρ (eval (.Call (.Name "list" p) [.Call (.Name "range" p') bs [] q'] [] pos) env) (cL E κ (nm "list") (nm "range") bs).2:=by
 obtain⟨l,e,h⟩:=rx (p:=p) (p':=p') (q':=q') (pos:=pos) Fa En GE ok;rw[e];exact h.ev
end
end
section
open PySem PySem.W PySem.Calls PyProof.Rows
section
variable {prog:Program} {w:World} {A:Around} {E:Value->Shared->Prop} {s:Shared}
theorem kW {it l:Addr} {i:Nat} {items} {x:Value} {Q:Value->Shared->Prop} (hit:s.heap.IsTupleIter it l i) (hl:s.heap.IsTuple l items) (hx:items[i]? = some x)
 (hQ:∀h',h'.IsTupleIter it l (i+1)->Heap.SameBut it s.heap h'->Q x { s with heap:=h' }):
 wpAny (model prog w) A (Builtin.SmallTypes.nextOf (.ref it)) Q E s:=by
 obtain⟨o,ho,hc,hd⟩:=id hit;obtain⟨ol,hol,_,nl,hdl⟩:=hl;unfold Builtin.SmallTypes.nextOf;refine ae (wpAny_callSpecial?_slot (name:=Str.ofString "__next__") hit.typeIs F.slot_tuple_iterator_next
  (wpAny_call_entry F.slot_tuple_iterator_next hit.typeIs F.entry_tuple_iterator_next ?_ (F.args_tuple_iterator_next_1 _)))
 show wpAny _ _ (field (.ref it) 0>>=_) _ _ s;refine ae (wpAny_field ho hd (x := .ref l) rfl ?_);show wpAny _ _ (if(Value.ref l==Value.none)=true then _ else _) _ _ s;rw[if_neg (show ¬((Value.ref l==Value.none)=true)from Bool.false_ne_true)];show wpAny _ _ (field (.ref it) 1>>=_) _ _ s;refine ae (wpAny_field ho hd (x := .int i 0) rfl ?_);show wpAny _ _ (seqItems? (.ref l)>>=_) _ _ s;refine ae (wpAny_seqItems hol hdl ?_);simp only[Int.toNat_natCast,hx];refine ae (wpAny_setField ho hd (by simp) (ar ⟨x,rfl,ar (hQ _ ?_ (Heap.SameBut.update ..))⟩));exact⟨_,Heap.get?_update_self _ ho (Obj.isFreed_of_fields (Obj.data_mapFields hd _)),(Obj.cls_mapFields ..).trans hc,by
  rw[Obj.data_mapFields hd];simp[rawInt]⟩
theorem mf {it l:Addr} {i:Nat} {items} {Q:Value->Shared->Prop} (hh:A.handled=none) (hit:s.heap.IsTupleIter it l i) (hl:s.heap.IsTuple l items) (hx:items[i]? = none)
 (hE:∀h' e,Heap.ExtBut it s.heap h'->(∃o,h'.get? e=some o/\o.cls = .type "StopIteration")->E (.ref e) { s with heap:=h' }):
 wpAny (model prog w) A (Builtin.SmallTypes.nextOf (.ref it)) Q E s:=by
 obtain⟨o,ho,hc,hd⟩:=id hit;obtain⟨ol,hol,_,nl,hdl⟩:=hl;unfold Builtin.SmallTypes.nextOf;refine ae (wpAny_callSpecial?_slot (name:=Str.ofString "__next__") hit.typeIs F.slot_tuple_iterator_next
  (wpAny_call_entry F.slot_tuple_iterator_next hit.typeIs F.entry_tuple_iterator_next ?_ (F.args_tuple_iterator_next_1 _)))
 show wpAny _ _ (field (.ref it) 0>>=_) _ _ s;refine ae (wpAny_field ho hd (x := .ref l) rfl ?_);show wpAny _ _ (if(Value.ref l==Value.none)=true then _ else _) _ _ s;rw[if_neg (show ¬((Value.ref l==Value.none)=true)from Bool.false_ne_true)];show wpAny _ _ (field (.ref it) 1>>=_) _ _ s;refine ae (wpAny_field ho hd (x := .int i 0) rfl ?_);show wpAny _ _ (seqItems? (.ref l)>>=_) _ _ s;refine ae (wpAny_seqItems hol hdl ?_);simp only[Int.toNat_natCast,hx];refine ae (wpAny_rule (ae (wpAny_setField ho hd (by simp) ?_)));show wpAny _ _ (newExc (.type "StopIteration") []>>=_) _ _ _;refine ae ?_;simp only[newExc,newTuple]
 refine ae (wpAny_newObj_type ?_ (by size_fits));refine ae (m:=firstArgMember _ _) (wpAny_of_eq (a:=Value.none) (by first|rfl|(simp only[firstArgMember];rfl)) ?_);refine wpAny_newObj_type ?_ (by size_fits);unfold raiseNew;refine ae (wpAny_handled ?_)
 first|rw[show A.in1.handled=none from hh]|rw[hh]
 refine ae (ar (wpAny_throw ?_));exact hE _ _ (((Heap.SameBut.update ..).extBut.push _).push _) ⟨_,di _ rfl,rfl⟩
end
theorem wF{prog:Program}{w:World}{A:Around}(hh:A.handled=none)(it l:Addr)(hne:l≠it)(items:Array Value):
 Draws prog w A it [it,l] items.size (λi v=>items[i]? = some v) (λi h=>h.IsTupleIter it l i/\h.IsTuple l items) where
 live:=λ_ _ st=>let⟨o,ho,_⟩:=st.1;⟨o,ho⟩
 frame:=λ_ _ _ st hk=>⟨st.1.at λo e=>hk it (by simp) o e,st.2.at λo e=>hk l (by simp) o e⟩
 item:=λi s Q E hi st hQ=>by
  refine kW st.1 st.2 (x:=items[i]) (by simp[hi]) λh' hit' hs' => ?_
  exact hQ _ h' s.toks (by simp[hi]) ⟨hit',st.2.extBut hs'.extBut hne⟩ hs'
 done:=λs Q E st hE=>mf hh st.1 st.2 (by simp) hE
theorem wG{M:Model}{A:Around}{E:Value->Shared->Prop}{s:Shared}{b:Bool}{Q:Bool->Shared->Prop}(h:∀b,Q b s):wpAny M A (pure b) Q E s:=ar (h b)
theorem iV(l:Addr)(items:Array Value):
 Meets (Builtin.«enumerate.__new__» ⟨[.type "enumerate", .ref l],[]⟩) (λ_ R s=>s.heap.IsTuple l items /\
  R (.ok (.ret (.ref (s.heap.push { cls := .type "tuple_iterator",data := .fields #[.ref l, .int 0 0] }).objs.size)))
    { s with heap:=(s.heap.push { cls := .type "tuple_iterator",data := .fields #[.ref l, .int 0 0] }).push { cls := .type "enumerate",data := .fields #[.none, .bool false, .ref s.heap.objs.size,rawInt 0, .none, .none] } }):=
 .of_wp λprog w A R s h=>by
   obtain⟨hp,g,d,tk,os⟩:=s;obtain⟨hL,h⟩:=h;have hsub:=sub_enumerate;have hL':Heap.IsTuple (Shared.heap ⟨hp,g,d,tk,os⟩) l items:=hL
   wp_walk
   refine wpAny_stack_any λst=>wG λb => ?_
   induction b using Bool.casesOn with
   |true=>
    wp_walk using wpAny_pyIter_tuple hL'
    exact⟨_,rfl,h⟩
   |false=>
    wp_walk using wpAny_pyIter_tuple hL'
    exact⟨_,rfl,h⟩
structure It(G:Cfg)(A:Around)(t:Expr)(X0:Addr->Prop)(hp:Shared)(it:Value)(fp wr:List Addr)(xs:List V)(St:Nat->Heap->Prop):Prop where
 sub:∀b∈wr,b∈fp
 frame:∀i h h',St i h->(∀b∈fp,∀o,h.get? b=some o->h'.get? b=some o)->St i h'
 live:∀i h,St i h->∀b∈fp,∃o,h.get? b=some o
 item:∀i (s:Shared) (Y:Addr->Prop),i<xs.length->St i s.heap->On X0 Y hp s->bB Y s.heap->(∀b∈wr,Y b)->∀(E:Value->Shared->Prop) (Q:Value->Shared->Prop),
  (∀v h' tk,s.toks<=tk->ak G Y { s with heap:=h',toks:=tk } (xs.getD i .none) v->St (i+1) h'->(∀b o,b∉wr->s.heap.get? b=some o->h'.get? b=some o)->Q v { s with heap:=h',toks:=tk }) ->
  wpAny (model G.p G.w) A (pyNext it) (λr s₁=>∃v,r=some v/\wpAny (model G.p G.w) A (letOwnedTupleGo t it v) (λ_ s₂=>Q v s₂) E s₁) E s
 done:∀(s:Shared),St xs.length s.heap->∀(E:Value->Shared->Prop) (Q:Option Value->Shared->Prop),
  (∀h' tk,s.toks<=tk->(∀b o,b∉wr->s.heap.get? b=some o->h'.get? b=some o)->Q none { s with heap:=h',toks:=tk })->wpAny (model G.p G.w) A (pyNext it) Q E s
 self:∀i (s:Shared) (E:Value->Shared->Prop) (Q:Value->Shared->Prop),St i s.heap->Q it s->wpAny (model G.p G.w) A (pyIter it) Q E s
section
variable {G:Cfg} {A:Around} {X0:Addr->Prop} {hp:Shared} {I:Addr} {fp wr:List Addr} {n:Nat} {St:Nat->Heap->Prop} {xs:List V} {t:Expr}
theorem jO{h h':Heap}{a:Addr}{vs:Array Value}(k:∀b o,h.get? b=some o->h'.get? b=some o)(x:h.IsTuple a vs):h'.IsTuple a vs:=let⟨o,e,r⟩:=x;⟨o,k _ _ e,r⟩
theorem Et{Y:Addr->Prop}{h h':Shared}{wr:List Addr}(hw:∀b∈wr,Y b)(k:∀b o,b∉wr->h.heap.get? b=some o->h'.heap.get? b=some o)(l:h.toks<=h'.toks):On Y Y h h':=
 ⟨λb o nb e=>k b o (λm=>nb (hw b m)) e,λ_ _ _ y=>y,l⟩
theorem It.ofW {P:Nat->Value->Prop} (W:Walks G.p G.w A I fp wr n P St) (hn:xs.length=n) (live:∀i h,St i h->∀b∈fp,∃o,h.get? b=some o)
 (hP:∀i v Y (h:Shared),i<n->P i v->On X0 Y hp h->ak G Y h (xs.getD i .none) v)
 (hgo:∀i v (s:Shared) (E:Value->Shared->Prop) (Q:Unit->Shared->Prop),St i s.heap->Q () s->wpAny (model G.p G.w) A (letOwnedTupleGo t (.ref I) v) Q E s):It G A t X0 hp (.ref I) fp wr xs St where
 sub:=W.sub
 frame:=W.frame
 live:=live
 item:=λi s Y hi st on al hw E Q q=>bA (W.item i s _ E (hn▸hi) st λv h' tk hPv st' k hle=>⟨v,rfl,hgo (i+1) v _ _ _ st' (q v h' tk hle ((hP i v Y s (hn▸hi) hPv on).on (Et hw k hle)) st' k)⟩)
 done:=λs st E Q q=>bA (W.done s _ E (hn▸st) λh' tk k hle=>q h' tk hle k)
 self:=λi s E Q st q=>W.self i s Q E st q
theorem It.ofT {elts:List Expr} {k:Nat} {pos:Pos} {Pt:Nat->Array Value->Prop} {Mid:Nat->Addr->Heap->Prop} (W:WalksT G.p G.w A I fp wr n Pt St Mid) (hn:xs.length=n) (live:∀i h,St i h->∀b∈fp,∃o,h.get? b=some o)
 (hP:∀i vals Y (h:Shared),i<n->Pt i vals->On X0 Y hp h->∃l,xs.getD i .none = .tup l/\Reps G Y h l vals.toList):It G A (.Tuple elts k pos) X0 hp (.ref I) fp wr xs St where
 sub:=W.sub
 frame:=W.frame
 live:=live
 item:=λi s Y hi st on al hw E Q q=>bA (W.item i s _ E (hn▸hi) st λT vals h' tk hPv hsz hT mid k1 hle=>⟨.ref T,rfl,W.go elts k pos i T _ _ _ mid λh'' st'' k2=>by
  have kk:∀b o,b∉wr->s.heap.get? b=some o->h''.get? b=some o:=λb o nb e=>k2 b o nb (k1 b o nb e)
  obtain⟨l,el,r⟩:=hP i vals Y s (hn▸hi) hPv on;refine q (.ref T) h'' tk hle ?_ st'' kk;rw[el];have nT:¬Y T:=λy=>by
   obtain⟨o,e⟩:=al T y;exact dl _ (dy (Heap.lt_size e) hsz)
  obtain⟨o,ho,hr⟩:=hT;exact ak.tup_iff.mpr ⟨T,vals,rfl,nT,⟨o,k2 T o (W.apart i T _ mid) ho,hr⟩,Reps.on (Et (h:=s) (h':={ s with heap:=h'',toks:=tk }) hw kk hle) r⟩⟩)
 done:=λs st E Q q=>bA (W.done s _ E (hn▸st) λh' tk k hle=>q h' tk hle k)
 self:=λi s E Q st q=>W.self i s Q E st q
theorem tc{x:Str}{p:Pos}{it v:Value}{s:Shared}{E:Value->Shared->Prop}{Q:Unit->Shared->Prop}(q:Q () s):wpAny (model G.p G.w) A (letOwnedTupleGo (.Name x p) it v) Q E s:=ar q
theorem jx{t:Expr}(h:d6 t=true):∃x p,t = .Name x p:=by
 induction t using Expr.casesOn with
 |Name x p=>exact⟨x,p,rfl⟩
 |_=>exact aa h
theorem ph{t:Expr}(h:hV t=true):∃es k p,t = .Tuple es k p:=by
 induction t using Expr.casesOn with
 |Tuple es k p=>exact⟨es,k,p,rfl⟩
 |_=>exact aa h
theorem C9{t:Expr}(ht:d6 t=true\/hV t=true){l:Addr}{i:Nat}{v:Value}{s:Shared}{E:Value->Shared->Prop}{Q:Unit->Shared->Prop}(hit:s.heap.IsListIter I l i)(q:Q () s):
 wpAny (model G.p G.w) A (letOwnedTupleGo t (.ref I) v) Q E s:=by
 rcases ht with ht|ht
 ·obtain⟨x,p,rfl⟩:=jx ht;exact ar q
 ·obtain⟨es,k,p,rfl⟩:=ph ht
  induction v using Value.casesOn with
  |ref a=>exact wpAny_letOwnedTupleGo_listiter hit q
  |_=>exact ar q
inductive pi(G:Cfg)(A:Around)(t:Expr)(X0:Addr->Prop)(s0:Shared)(xs:List V)(it:Value)(s:Shared):Prop
 |mk (s1:Shared) (fp wr:List Addr) (St:Nat->Heap->Prop) (_:aM s0 s1) (_:aM s1 s) (_:It G A t X0 s1 it fp wr xs St) (_:St 0 s.heap) (_:∀b∈fp,¬X0 b) (_:∀b∈wr,s1.heap.get? b=none)
theorem bB.off{X:Addr->Prop}{h:Heap}(al:bB X h){b:Addr}(hb:h.objs.size<=b):¬X b:=λx=>by
 obtain⟨o,e⟩:=al b x;exact absurd (Heap.lt_size e) (Nat.not_lt.mpr hb)
theorem yU (hh:A.handled=none) {s:Shared} {l:List V} {u:Value} (al:bB X0 s.heap) (ht:d6 t=true\/hV t=true) (r:ak G X0 s (.list l) u) {E:Value->Shared->Prop} {Q:Value->Shared->Prop}
 (q:∀it s',aM s s'->pi G A t X0 s l it s'->Q it s'):wpAny (model G.p G.w) A (pyIter u) Q E s:=by
 obtain⟨a,vs,rfl,nx,hl,rr⟩:=ak.list_iff.mp r;have hlt:a<s.heap.objs.size:=by obtain⟨_,e,_⟩:=hl;exact Heap.lt_size e
 have hsz:vs.size=l.length:=by rw[<-c0,<-Reps.length rr]
 refine wpAny_pyIter_list hl (q _ _ (Kp.push s _ s.toks) ⟨s,_,_,_,Kp.refl s,Kp.push s _ s.toks,
  It.ofW (Walks.list hh s.heap.objs.size a (Nat.ne_of_lt hlt) vs) hsz.symm (λi h st b hb => ?_) (λi v Y h hi hv on => ?_) (λi v s' E' Q' st q'=>C9 ht st.1 q'),
  ⟨⟨_,di _ rfl,rfl,rfl⟩,hl.push _⟩,λb hb => ?_,λb hb => ?_⟩)
 ·rcases bu hb with rfl|hb
  ·obtain⟨o,e,_⟩:=st.1;exact⟨o,e⟩
  ·rw[dS hb];obtain⟨o,e,_⟩:=st.2;exact⟨o,e⟩
 ·obtain⟨x,e,hx⟩:=Reps.at rr (k:=i) ⋯
  rw[Array.getElem?_toList]at e;rw[e]at hv;injection hv with hv;subst hv
  exact hx.on on
 ·rcases bu hb with rfl|hb
  ·exact al.fresh
  ·rw[dS hb];exact nx
 ·rw[dS hb];exact cf _ (aq _)
theorem AF (hh:A.handled=none) {s:Shared} {l:List V} {u:Value} (al:bB X0 s.heap) (ht:d6 t=true) (r:ak G X0 s (.tup l) u) {E:Value->Shared->Prop} {Q:Value->Shared->Prop}
 (q:∀it s',aM s s'->pi G A t X0 s l it s'->Q it s'):wpAny (model G.p G.w) A (pyIter u) Q E s:=by
 obtain⟨_,_,rfl⟩:=jx ht;obtain⟨a,vs,rfl,nx,hl,rr⟩:=ak.tup_iff.mp r;have hlt:a<s.heap.objs.size:=by obtain⟨_,e,_⟩:=hl;exact Heap.lt_size e
 have hsz:vs.size=l.length:=by rw[<-c0,<-Reps.length rr]
 refine wpAny_pyIter_tuple hl (q _ _ (Kp.push s _ s.toks) ⟨s,_,_,_,Kp.refl s,Kp.push s _ s.toks,
  It.ofW (Walks.tuple hh s.heap.objs.size a (Nat.ne_of_lt hlt) vs) hsz.symm (λi h st b hb => ?_) (λi v Y h hi hv on => ?_) (λi v s' E' Q' st q'=>tc q'),
  ⟨⟨_,di _ rfl,rfl,rfl⟩,jO (yH _ _) hl⟩,λb hb => ?_,λb hb => ?_⟩)
 ·rcases bu hb with rfl|hb
  ·obtain⟨o,e,_⟩:=st.1;exact⟨o,e⟩
  ·rw[dS hb];obtain⟨o,e,_⟩:=st.2;exact⟨o,e⟩
 ·obtain⟨x,e,hx⟩:=Reps.at rr (k:=i) ⋯
  rw[Array.getElem?_toList]at e;rw[e]at hv;injection hv with hv;subst hv
  exact hx.on on
 ·rcases bu hb with rfl|hb
  ·exact al.fresh
  ·rw[dS hb];exact nx
 ·rw[dS hb];exact cf _ (aq _)
theorem AG{x:List Nat}{i:Nat}{v:Value}{Y:Addr->Prop}{h:Shared}(hv:SignAt (tx x) i v):ak G Y h ((ue x).getD i .none) v:=by
 obtain⟨c,u,e,rfl⟩:=hv;have e':x[i]? = some c:=by simpa[tx]using e
 have:(ue x).getD i .none = .str [c]:=by
  unfold ue;rw[cA,List.getElem?_map,e'];rfl
 rw[this];exact ak.str_iff.mpr ⟨u,rfl⟩
theorem AH (hh:A.handled=none) {s:Shared} {x:List Nat} {tk:Tok} (al:bB X0 s.heap) (ht:d6 t=true) {E:Value->Shared->Prop} {Q:Value->Shared->Prop}
 (q:∀it s',aM s s'->pi G A t X0 s (ue x) it s'->Q it s'):wpAny (model G.p G.w) A (pyIter (.str (tx x) tk)) Q E s:=by
 obtain⟨_,_,rfl⟩:=jx ht;have hlen:(ue x).length=(tx x).cps.size:=by simp[ue,tx]
 have key:∀(o:Obj) (St:Nat->Heap->Prop),Walks G.p G.w A s.heap.objs.size [s.heap.objs.size] [s.heap.objs.size] (tx x).cps.size (SignAt (tx x)) St->St 0 (s.heap.push o)->(∀i h,St i h->∃o,h.get? s.heap.objs.size=some o) ->
  Q (.ref s.heap.objs.size) { s with heap:=s.heap.push o }:=λo St W st live=>
  q _ _ (Kp.push s _ s.toks) ⟨s,_,_,_,Kp.refl s,Kp.push s _ s.toks,It.ofW W hlen (λi h st b hb=>by rw[dS hb];exact live i h st)
    (λi v Y h hi hv on=>AG hv) (λi v s' E' Q' st q'=>tc q'),st,
    (λb hb=>by rw[dS hb];exact al.fresh),λb hb=>by rw[dS hb];exact cf _ (aq _)⟩
 cases ha:(tx x).cps.all (· < 128)
 ·exact wpAny_pyIter_wide ha (key _ _ (Walks.strWide hh _ _ tk) ⟨_,di _ rfl,rfl,rfl⟩ λi h st=>let⟨o,e,_⟩:=st;⟨o,e⟩)
 ·exact wpAny_pyIter_ascii ha (key _ _ (Walks.strAscii hh _ _ tk) ⟨_,di _ rfl,rfl,rfl⟩ λi h st=>let⟨o,e,_⟩:=st;⟨o,e⟩)
theorem wH (hh:A.handled=none) {s0 s:Shared} (k0:aM s0 s) {c:Addr} {a b k:Int} {tk u v:Tok} (al:bB X0 s0.heap) (ht:d6 t=true) (hr:IsRange s.heap c a b k tk u v) (ok:d5 a b k=true)
 {E:Value->Shared->Prop} {Q:Value->Shared->Prop} (q:∀it s',aM s s'->pi G A t X0 s0 ((fv a b k).map .int) it s'->Q it s'):wpAny (model G.p G.w) A (pyIter (.ref c)) Q E s:=by
 obtain⟨_,_,rfl⟩:=jx ht;have ok':=bc (bc (bc (bc ok).1).1).1;have hnn:=gT a b k;have al':bB X0 s.heap:=al.keeps (Kp.keep k0);refine wpAny_pyIter_range hr ok'.1 (q _ _ (Kp.push s _ s.toks) ⟨s,_,_,_,k0,Kp.push s _ s.toks,
  It.ofW (Walks.range hh s.heap.objs.size a k (Builtin.Range.rangeSize a b k).toNat) (by unfold fv;rw[aW,j8]) (λi h st b hb => ?_) (λi v Y h hi hv on => ?_)
   (λi v s' E' Q' st q'=>tc q'), ?_,λb hb => ?_,λb hb => ?_⟩)
 ·rw[dS hb];exact⟨_,st⟩
 ·obtain⟨t',rfl⟩:=hv
  have:((fv a b k).map V.int).getD i .none = .int (a+i*k):=by
   unfold fv;rw[cA,List.getElem?_map,j7,if_pos hi];rfl
  rw[this];exact ak.int_iff.mpr ⟨t',rfl⟩
 ·show(s.heap.push _).get? s.heap.objs.size=some _
  rw[di _ rfl];have e1:a+((0:Nat):Int)*k=a:=(congrArg (a + ·) (Int.zero_mul k)).trans (Int.add_zero a);have e2:(((Builtin.Range.rangeSize a b k).toNat:Int)-((0:Nat):Int))=Builtin.Range.rangeSize a b k:=(Int.sub_zero _).trans (Int.toNat_of_nonneg hnn);rw[e1,e2]
 ·rw[dS hb];exact al'.fresh
 ·rw[dS hb];exact cf _ (aq _)
theorem ry:∀(l:List V) (k:Int) (i:Nat),i<l.length->(ov k l).getD i .none = .tup [.int (k+i),l.getD i .none]
 |[],k,i,h=>by simp at h
 |x::l,k,0,_=>by rw[sR];simp
 |x::l,k,i+1,h=>by
  have ih:=ry l (k+1) i (by simpa using h);rw[sR,List.getD_cons_succ,List.getD_cons_succ];rw[ih];have:k+1+(i:Int)=k+((i+1:Nat):Int):=⋯;rw[this]
theorem rz:∀(l:List V) (k:Int),(ov k l).length=l.length
 |[],_=>rfl
 |x::l,k=>by rw[sR,aP,aP,rz l]
theorem yV (hh:A.handled=none) {s:Shared} {l:List V} {u:Value} (al:bB X0 s.heap) (ht:hV t=true) (r:ak G X0 s (.tup l) u) {E:Value->Shared->Prop} {Q:Value->Shared->Prop}
 (q:∀it s',aM s s'->pi G A t X0 s (ov 0 l) it s'->Q it s'):wpAny (model G.p G.w) A (call (.type "enumerate") [u]) (λx s1=>wpAny (model G.p G.w) A (pyIter x) Q E s1) E s:=by
 obtain⟨a,vs,rfl,nx,hl,rr⟩:=ak.tup_iff.mp r;have hlt:a<s.heap.objs.size:=by obtain⟨_,e,_⟩:=hl;exact Heap.lt_size e
 have hsz:vs.size=l.length:=by rw[<-c0,<-Reps.length rr]
 refine callType_new F.called_enumerate nofun (F.typeCall_enumerate_1 _) (F.newCall_enumerate_1 _) (λobj=>F.args_object_init_2 obj _) F.entry_enumerate_new (iV a vs) ⟨hl, ?_⟩;have hz:(s.heap.push { cls := .type "tuple_iterator",data := .fields #[.ref a, .int 0 0] }).objs.size=s.heap.objs.size+1:=Heap.size_push ..;show _/\_;rw[hz];have he:IsEnum ((s.heap.push { cls := .type "tuple_iterator",data := .fields #[.ref a, .int 0 0] }).push
  { cls := .type "enumerate",data := .fields #[.none, .bool false, .ref s.heap.objs.size,rawInt 0, .none, .none] }) (s.heap.objs.size+1) s.heap.objs.size 0 .none:=by
  have:=di (s.heap.push { cls := .type "tuple_iterator",data := .fields #[.ref a, .int 0 0] })
   (o:={ cls := .type "enumerate",data := .fields #[.none, .bool false, .ref s.heap.objs.size,rawInt 0, .none, .none] }) rfl
  rw[hz]at this;exact this
 refine⟨⟨_,he,rfl⟩,wpAny_pyIter_enum he ?_⟩;have kk:aM s { s with heap:=(s.heap.push { cls := .type "tuple_iterator",data := .fields #[.ref a, .int 0 0] }).push { cls := .type "enumerate",data := .fields #[.none, .bool false, .ref s.heap.objs.size,rawInt 0, .none, .none] } }:=
  Kp.heap s.toks λb o e=>gG _ (gG _ e)
 obtain⟨es,k,p,rfl⟩:=ph ht;refine q _ _ kk ⟨s,_,_,_,Kp.refl s,kk,It.ofT (WalksT.enumerateD (wF (A:=A.in1) hh s.heap.objs.size a (Nat.ne_of_lt hlt) vs) (s.heap.objs.size+1) (Nat.succ_ne_self _) ?_ (by simp)) (by rw[rz,hsz]) (λi h st b hb => ?_)
  (λi vals Y h hi hv on => ?_),⟨⟨_,he⟩,⟨_,gG _ (di _ rfl),rfl,rfl⟩,jO (Kp.keep kk) hl⟩,λb hb => ?_,λb hb => ?_⟩
 ·intro hm
  rcases bu hm with e|hm
  ·exact Nat.succ_ne_self _ e
  ·exact Nat.ne_of_gt (Nat.lt_succ_of_lt hlt) (dS hm)
 ·obtain⟨⟨old,h1⟩,h2,h3⟩:=st
  rcases bu hb with rfl|hb
  ·exact⟨_,h1⟩
  ·rcases bu hb with rfl|hb
   ·obtain⟨o,e,_⟩:=h2;exact⟨o,e⟩
   ·rw[dS hb];obtain⟨o,e,_⟩:=h3;exact⟨o,e⟩
 ·obtain⟨t',x,hx,rfl⟩:=hv
  refine⟨_,ry l 0 i ⋯, ?_⟩;obtain⟨x',e,hx'⟩:=Reps.at rr (k:=i) ⋯;rw[Array.getElem?_toList]at e;rw[e]at hx;injection hx with hx;subst hx
  exact Reps.cons (ak.int_iff.mpr ⟨t',by rw[Int.zero_add]⟩) (Reps.cons (hx'.on on) Reps.nil)
 ·rcases bu hb with rfl|hb
  ·exact al.off (Nat.le_succ _)
  ·rcases bu hb with rfl|hb
   ·exact al.fresh
   ·rw[dS hb];exact nx
 ·rcases bu hb with rfl|hb
  ·exact cf _ (Nat.le_succ _)
  ·rw[dS hb];exact cf _ (aq _)
variable {G:Cfg} {A:Around} {env:Env} {X:Addr->Prop} {κ:List (Str×NameKind)} {ρ:Rho} {Φ:Fns} {t:Expr}
theorem pi.from{X0:Addr->Prop}{s0 s1 s:Shared}{xs:List V}{it:Value}(k:aM s0 s1)(h:pi G A t X0 s1 xs it s):pi G A t X0 s0 xs it s:=by
 obtain⟨s2,fp,wr,St,h1,h2,h3,h4,h5,h6⟩:=h;exact⟨s2,fp,wr,St,Kp.trans k h1,h2,h3,h4,h5,h6⟩
noncomputable def GV(G:Cfg)(A:Around)(env:Env)(X:Addr->Prop)(ρ:Rho)(t e:Expr)(xs:List V):Prop:=
 ∀O s,cY G env X O ρ s->∀(E':Value->Shared->Prop) (Q:Value->Shared->Prop),
  (∀it s',aM s s'->pi G A t (am env X O) s xs it s'->Q it s')->wpAny (model G.p G.w) A (eval e env) (λx s1=>wpAny (model G.p G.w) A (pyIter x) Q E' s1) E' s
theorem uL(Fa:aU G A Φ){E:Expr->R}(GE:aL G A env X ρ E){e:Expr}(ok:(mO κ E t e).1=true):GV G A env X ρ t e (mO κ E t e).2:=by
 have o3:=bc ok;have o1:=bc o3.1;have ht:=Bool.or_eq_true_iff.mp o3.2;have o2:=o1.2;intro O s S E' Q q;refine GE.ok e o1.1 O s S _ _ λu s1 k1 r1 => ?_
 have al:=(S.keeps k1).full
 change ∀it s',aM s s'->pi G A t (am env X O) s (sQ (E e).2).2 it s'->Q it s' at q
 generalize (E e).2=v at o2 ht q r1
 induction v using V.casesOn with
 |list l=>exact yU Fa.none al (ht.imp id λh=>(bc h).1) r1 λit s2 k2 h=>q it s2 (Kp.trans k1 k2) (h.from k1)
 |str x=>
  obtain⟨tk,rfl⟩:=ak.str_iff.mp r1;exact AH Fa.none al (ht.elim id λh=>aa (bc h).2) λit s2 k2 h=>q it s2 (Kp.trans k1 k2) (h.from k1)
 |tup l=>exact AF Fa.none al (ht.elim id λh=>aa (bc h).2) r1 λit s2 k2 h=>q it s2 (Kp.trans k1 k2) (h.from k1)
 |_=>exact aa o2
theorem AI(Fa:aU G A Φ)(En:aw env κ){E:Expr->R}(GE:aL G A env X ρ E){as:List Expr}{p pos:Pos}(ok:(Ae κ E t (nm "range") as).1=true):GV G A env X ρ t (.Call (.Name "range" p) as [] pos) (Ae κ E t (nm "range") as).2:=by
 have o4:=bc ok;have o3:=bc o4.1;have o1:=bc o3.1;intro O s S E' Q q;have pt:=eD GE pos o1.2;refine Call_Name rfl (dP Fa En o1.1 boot_range nofun S (cT (.inr ⟨_,rfl⟩) pt.1 (eP GE pos o1.2 O s S _ _ λus s1 k1 r1 => ?_)));refine uJ o3.2 r1 λc s2 a b k t' u v k2 hr hok hv => ?_
 exact wH Fa.none k2 (S.keeps k1).full o4.2 hr hok λit s3 k3 h=>q it s3 (Kp.trans k1 (Kp.trans k2 k3)) ((congrArg (pi G A t (am env X O) s · it s3) hv).mpr (h.from k1))
theorem Da{P:Addr->Prop}{h:Shared}{xs:List V}{us:List Value}(n:Nat.beq xs.length 1=true)(r:Reps G P h xs us):∃u,us=[u]/\ak G P h (xs.getD 0 .none) u:=by
 induction xs using List.casesOn with
 |nil=>exact aa n
 |cons x xs=>induction xs using List.casesOn with
  |nil=>
   obtain⟨u,r',rfl,h1,h2⟩:=Reps.cons_iff.mp r;rw[Reps.nil_iff.mp h2];exact⟨u,rfl,h1⟩
  |cons _ _=>exact aa n
theorem AJ(Fa:aU G A Φ)(En:aw env κ){E:Expr->R}(GE:aL G A env X ρ E){as:List Expr}{p pos:Pos}(ok:(Af κ E t (nm "enumerate") as).1=true):GV G A env X ρ t (.Call (.Name "enumerate" p) as [] pos) (Af κ E t (nm "enumerate") as).2:=by
 have o5:=bc ok;have o4:=bc o5.1;have o3:=bc o4.1;have o1:=bc o3.1;intro O s S E' Q q;have pt:=eD GE pos o1.2;refine Call_Name rfl (dP Fa En o1.1 boot_enumerate nofun S (cT (.inr ⟨_,rfl⟩) pt.1 (eP GE pos o1.2 O s S _ _ λus s1 k1 r1 => ?_)));obtain⟨u,rfl,h1⟩:=Da o3.2 r1;rw[<-wn o4.2]at h1;exact yV Fa.none (S.keeps k1).full o5.2 h1 λit s2 k2 h=>q it s2 (Kp.trans k1 k2) (h.from k1)
noncomputable def E6(e:Expr)(x:Str×List Expr):Prop:=∃p pos,e = .Call (.Name x.1 p) x.2 [] pos
theorem iW{e:Expr}{x:Str×List Expr}(h:hU e=some x):E6 e x:=by
 induction e using Expr.casesOn with
 |Call g bs kw pos=>induction g using Expr.casesOn with
  |Name g p=>induction kw using List.casesOn with
   |nil=>rw[<-bR h];exact⟨p,pos,rfl⟩
   |cons _ _=>exact aD h
  |_=>exact aD h
 |_=>exact aD h
theorem AK(Fa:aU G A Φ)(En:aw env κ){E:Expr->R}(GE:aL G A env X ρ E){f:Str}{as:List Expr}{p pos:Pos}(ok:(xH κ E t (.Call (.Name f p) as [] pos) (nm f) as).1=true):GV G A env X ρ t (.Call (.Name f p) as [] pos) (xH κ E t (.Call (.Name f p) as [] pos) (nm f) as).2:=by
 unfold xH at ok |-;generalize c1:ab (nm f) (nm "range")=b at ok |-
 induction b using Bool.casesOn with
 |true=>have ef:=iU c1;subst ef;exact AI Fa En GE ok
 |false=>
  generalize c2:ab (nm f) (nm "enumerate")=b at ok |-
  induction b using Bool.casesOn with
  |true=>have ef:=iU c2;subst ef;exact AJ Fa En GE ok
  |false=>exact uL (κ:=κ) Fa GE ok
theorem x4(Fa:aU G A Φ)(En:aw env κ){E:Expr->R}(GE:aL G A env X ρ E){e:Expr}(ok:(ci κ E t e).1=true):GV G A env X ρ t e (ci κ E t e).2:=by
 unfold ci at ok |-;generalize h:hU e=o at ok |-
 induction o using Option.casesOn with
 |none=>exact uL (κ:=κ) Fa GE ok
 |some x=>
  obtain⟨f,as⟩:=x;obtain⟨p,pos,rfl⟩:=iW h;exact AK Fa En GE ok
end
end
section
open PySem PySem.W PySem.Calls PyProof.Rows
theorem gb(t:Slot)(x:Nm):∀(ρ:Rho) (y:Nm),(y=x->lk (put ρ x t) y=t\/lk (put ρ x t) y = .un)/\(y≠x->lk (put ρ x t) y=lk ρ y)
 |[],y=>⟨λ_ => .inr rfl,λ_=>rfl⟩
 |(z,s)::r,y=>by
  have ih:=gb t x r y;rw[z8];cases c:ab x z with
  |true=>
   have ez:=an.mp c;subst ez;simp only[cond_true];refine⟨λe => ?_,λe => ?_⟩
   ·subst e;left;rw[jZ,an.mpr rfl];rfl
   ·have:ab y x=false:=by cases h:ab y x with
     |true=>exact absurd (an.mp h) e
     |false=>rfl
    rw[jZ,jZ,this];rfl
  |false=>
   simp only[cond_false];have hxz:x≠z:=λe=>by rw[an.mpr e]at c;cases c
   refine⟨λe => ?_,λe => ?_⟩
   ·subst e;rw[jZ,c];exact ih.1 rfl
   ·rw[jZ,jZ]
    cases ab y z with
    |true=>rfl
    |false=>exact ih.2 e
noncomputable def upd(O:Nm->Option Addr)(x:Nm)(a:Option Addr):Nm->Option Addr:=λy=>if y=x then a else O y
section
variable {G:Cfg} {A:Around} {env:Env} {X:Addr->Prop} {κ:List (Str×NameKind)} {ρ:Rho} {O:Nm->Option Addr}
theorem cY.weaken{ρ':Rho}{h:Shared}(S:cY G env X O ρ h)(w:∀x,lk ρ' x = .un\/lk ρ' x=lk ρ x):cY G env X O ρ' h where
 old:=S.old
 new:=S.new
 alive:=S.alive
 look:=let⟨g,F,hg⟩:=S.look;⟨g,F,λx hx=>by
  rcases w (nm x)with e|e
  ·rw[e];trivial
  ·rw[e];exact hg x hx⟩
 inj:=S.inj
 apart:=S.apart
 pos:=S.pos
theorem wI {h0:Shared} {s:Shared} (S:cY G env X O ρ h0) (kp:aM h0 s) (En:aw env κ) {x:Str} (hx:ag (kd κ (nm x))=true) {t:Slot} {u:Value} {ox:Option Addr}
 (ha:∀a,ox=some a->h0.heap.get? a=none/\∃o,s.heap.get? a=some o) (hs:ir G (am env X (upd O (nm x) ox)) s ox t (some u)) {E:Value->Shared->Prop} {Q:Unit->Shared->Prop}
 (q:∀h' tk,s.toks<=tk->cY G env X (upd O (nm x) ox) (put ρ (nm x) t) { s with heap:=h',toks:=tk }->(∀b o,¬gS env x b->s.heap.get? b=some o->h'.get? b=some o)->(∀b o,s.heap.get? b=some o->∃o',h'.get? b=some o')->Q () { s with heap:=h',toks:=tk }):
 wpAny (model G.p G.w) A (storeName env x u) Q E s:=by
 have k:=Kp.keep kp;obtain⟨g,F,hg⟩:=S.look;have hx':ag (env.kindOf x)=true:=(En.names x).trans hx;have dead:∀a,ox=some a->∀b,am env X O b->b≠a:=λa e b fb eb=>by
  subst eb;obtain⟨o,eo⟩:=S.alive b fb;rw[(ha b e).1]at eo;cases eo
 have full:∀b,am env X (upd O (nm x) ox) b->am env X O b\/ox=some b:=λb fb=>by
  rcases fb with h|h|⟨y,h⟩
  ·exact .inl (.inl h)
  ·exact .inl (.inr (.inl h))
  ·unfold upd at h
   split at h
   ·exact .inr h
   ·exact .inl (.inr (.inr ⟨y,h⟩))
 have sub:∀b,(∃o,h0.heap.get? b=some o)->am env X (upd O (nm x) ox) b->am env X O b:=λb ⟨o,e⟩ fb=>by
  rcases full b fb with h|h
  ·exact h
  ·rw[(ha b h).1]at e;injections e
 refine bA (mS En.kind (F.keeps k) hx' λh' tk c hc F' kc al hle=>q h' tk hle ?_ (λb o nb e=>kc b o (λe'=>nb (e'▸hc)) e) al);have hcO:fH env c:=hc.own;have onAll:On (am env X O) (am env X (upd O (nm x) ox)) h0 { s with heap:=h',toks:=tk }:=⟨λb o nb e=>kc b o (λe'=>nb (.inr (.inl (e'▸hcO)))) (k b o e),λb o e fb=>sub b ⟨o,e⟩ fb,ah (Kp.le kp) hle⟩;have mJ:On (am env X (upd O (nm x) ox)) (am env X (upd O (nm x) ox)) s { s with heap:=h',toks:=tk }:=⟨λb o nb e=>kc b o (λe'=>nb (.inr (.inl (e'▸hcO)))) e,λ_ _ _ y=>y,hle⟩;have cOld:∃o,h0.heap.get? c=some o:=S.alive c (.inr (.inl hcO));refine⟨λb o e => ?_,λb fb => ?_,λb fb => ?_,⟨_,F',λy hy => ?_⟩,λy z a e e' => ?_,λy a e => ?_,λch=>dy (S.pos ch) (ah (Kp.le kp) hle)⟩
 ·refine kc b o (λe' => ?_) (k b o (S.old b o e))
  have:=S.new b (.inr (.inl (e'▸hcO)));rw[this]at e;injections e
 ·rcases full b fb with h|h
  ·exact S.new b h
  ·cases e:G.h0.get? b with
   |none=>rfl
   |some o=>have:=S.old b o e;rw[(ha b h).1]at this;injections this
 ·rcases full b fb with h|h
  ·obtain⟨o,e⟩:=S.alive b h;exact al b o (k b o e)
  ·obtain⟨o,e⟩:=(ha b h).2;exact al b o e
 ·by_cases ey:y=x
  ·subst ey
   rcases(gb t (nm y) ρ (nm y)).1 rfl with e|e
   ·rw[e,if_pos rfl]
    have:upd O (nm y) ox (nm y)=ox:=by unfold upd;rw[if_pos rfl]
    rw[this];refine hs.on mJ λa ea o eo=>kc a o (λe' => ?_) eo
    obtain⟨o',e''⟩:=cOld;rw[<-e',(ha a ea).1]at e'';cases e''
   ·rw[e];trivial
  ·have ny:nm y≠nm x:=λe=>ey (dB e)
   rw[(gb t (nm x) ρ (nm y)).2 ny,if_neg ey];have:upd O (nm x) ox (nm y)=O (nm y):=by unfold upd;rw[if_neg ny]
   rw[this];refine(hg y hy).on onAll λa ea o eo=>kc a o (λe' => ?_) (k a o eo)
   exact(S.apart (nm y) a ea).2 (e'▸hcO)
 ·unfold upd at e e'
  by_cases e1:y=nm x<;>by_cases e2:z=nm x
  ·rw[e1,e2]
  ·rw[if_pos e1]at e;rw[if_neg e2]at e'
   exact absurd rfl (dead a e a (.inr (.inr ⟨z,e'⟩)))
  ·rw[if_neg e1]at e;rw[if_pos e2]at e'
   exact absurd rfl (dead a e' a (.inr (.inr ⟨y,e⟩)))
  ·rw[if_neg e1]at e;rw[if_neg e2]at e'
   exact S.inj y z a e e'
 ·unfold upd at e
  split at e
  ·exact⟨λh=>dead a e a (.inl h) rfl,λh=>dead a e a (.inr (.inl h)) rfl⟩
  ·exact S.apart y a e
theorem cI {s:Shared} (S:cY G env X O ρ s) (En:aw env κ) {x:Str} (hx:ag (kd κ (nm x))=true) {v:V} {u:Value} (r:ak G (am env X O) s v u) {E:Value->Shared->Prop} {Q:Unit->Shared->Prop}
 (q:∀h' tk,s.toks<=tk->cY G env X (upd O (nm x) none) (put ρ (nm x) (.val v)) { s with heap:=h',toks:=tk }->(∀b o,¬gS env x b->s.heap.get? b=some o->h'.get? b=some o)->(∀b o,s.heap.get? b=some o->∃o',h'.get? b=some o')->Q () { s with heap:=h',toks:=tk }):
 wpAny (model G.p G.w) A (storeName env x u) Q E s:=by
 refine wI (t := .val v) (ox:=none) S (Kp.refl s) En hx (λa e=>by injections e) ⟨u,rfl,r.on ⟨λ_ _ _ e=>e,λb o _ fb => ?_,aq _⟩⟩ q
 rcases fb with h|h|⟨y,h⟩
 ·exact .inl h
 ·exact .inr (.inl h)
 ·unfold upd at h
  split at h
  ·injections h
  ·exact .inr (.inr ⟨y,h⟩)
noncomputable def eQ(env:Env)(ns:List Nm)(s s':Shared):Prop:=
 ∃h tk,s'={ s with heap:=h,toks:=tk }/\(∀b o,(∀x,nm x∈ns->¬gS env x b)->s.heap.get? b=some o->h.get? b=some o)/\(∀b o,s.heap.get? b=some o->∃o',h.get? b=some o')/\s.toks<=tk
theorem eQ.refl(ns:List Nm)(s:Shared):eQ env ns s s:=⟨s.heap,s.toks,rfl,λ_ _ _ e=>e,λb o e=>⟨o,e⟩,aq _⟩
theorem eQ.of_keeps{ns:List Nm}{s s':Shared}(k:aM s s'):eQ env ns s s':=by
 obtain⟨h,t,rfl,k,l⟩:=k;exact⟨h,t,rfl,λb o _ e=>k b o e,λb o e=>⟨o,k b o e⟩,l⟩
theorem eQ.trans{ns ms ls:List Nm}{a b c:Shared}(x:eQ env ns a b)(y:eQ env ms b c)(h1:∀z,z∈ns->z∈ls)(h2:∀z,z∈ms->z∈ls):eQ env ls a c:=by
 obtain⟨h,t,rfl,k,l,w⟩:=x;obtain⟨h',t',rfl,k',l',w'⟩:=y;refine⟨h',t',rfl,λb o n e=>k' b o (λz hz=>n z (h2 _ hz)) (k b o (λz hz=>n z (h1 _ hz)) e),λb o e => ?_,ah w w'⟩;obtain⟨o',e'⟩:=l b o e;exact l' b o' e'
noncomputable def kX(O:Nm->Option Addr)(ns:List Nm):Nm->Option Addr:=λy=>if y∈ns then none else O y
theorem uM(O:Nm->Option Addr):kX O []=O:=by funext y;simp[kX]
theorem rA(O:Nm->Option Addr)(x:Nm)(ns:List Nm):kX (upd O x none) ns=kX O (x::ns):=by
 funext y
 unfold kX upd
 by_cases h1:y∈ns
 ·simp[h1]
 ·by_cases h2:y=x
  ·simp[h2]
  ·simp[h1,h2]
theorem am.upd{b:Addr}{ns:List Nm}(h:am env X (kX O ns) b):am env X O b:=by
 rcases h with h|h|⟨y,h⟩
 ·exact .inl h
 ·exact .inr (.inl h)
 ·unfold kX at h
  split at h
  ·injections h
  ·exact .inr (.inr ⟨y,h⟩)
theorem mX:∀{ts:List Expr} {vs:List V} {us:List Value} {O:Nm->Option Addr} {ρ:Rho} {s:Shared},(f7 ts vs ρ).1=true->(∀x∈ts.filterMap nmT,ag (kd κ x)=true) ->
 aw env κ->cY G env X O ρ s->Reps G (am env X O) s vs us->∀(E:Value->Shared->Prop) (Q:Unit->Shared->Prop),
 (∀s',cY G env X (kX O (ts.filterMap nmT)) (f7 ts vs ρ).2 s'->eQ env (ts.filterMap nmT) s s'->Q () s') ->
 wpAny (model G.p G.w) A (assignInOrder ((assignEach ts env).map (·.2)) us) Q E s
 |[],vs,us,O,ρ,s,ok,hx,En,S,r,E,Q,q=>by
  induction vs using List.casesOn with
  |nil=>
   rw[Reps.nil_iff.mp r];have:=q s (by rw[List.filterMap_nil,uM];exact S) (eQ.refl _ s);exact ar this
  |cons v vs=>injections ok
 |t::ts,vs,us,O,ρ,s,ok,hx,En,S,r,E,Q,q=>by
  induction t using Expr.casesOn with
  |Name x p=>
   induction vs using List.casesOn with
   |nil=>injections ok
   |cons v vs=>
    obtain⟨u,us',rfl,h1,h2⟩:=Reps.cons_iff.mp r;have ok':(f7 ts vs (put ρ (nm x) (.val v))).1=true:=ok;have hx1:ag (kd κ (nm x))=true:=hx _ (aO ..);show wpAny _ A (assignInOrder (assign (.Name x p) env::(assignEach ts env).map (·.2)) (u::us')) Q E s;refine wpAny_assignInOrder_more (wpAny_assign_Name (cI S En hx1 h1 λh' tk hle S' k' al => ?_));have on:On (am env X O) (am env X (Mine.upd O (nm x) none)) s { s with heap:=h',toks:=tk }:=⟨λb o nb e=>k' b o (λpl=>nb (.inr (.inl pl.own))) e,λb o _ fb=>by
     rcases fb with h|h|⟨y,h⟩
     ·exact .inl h
     ·exact .inr (.inl h)
     ·unfold Mine.upd at h
      split at h
      ·injections h
      ·exact .inr (.inr ⟨y,h⟩),hle⟩
    refine mX (s:={ s with heap:=h',toks:=tk }) ok' (λy hy=>hx y (aG _ hy)) En S' (Reps.on on h2) E Q λs' S'' mv=>q s' ?_ ?_
    ·rw[oA]
     rw[rA]at S'';exact S''
    ·rw[oA]
     refine eQ.trans (ns:=[nm x]) ⟨h',tk,rfl,λb o n e=>k' b o (n x (by simp)) e,al,hle⟩ mv (λz hz => ?_) λz hz=>aG _ hz
     rw[dS hz];exact aO ..
  |_=>injections ok
theorem jP:∀{ts:List Expr} {vs:List V} {ρ:Rho},(f7 ts vs ρ).1=true->(assignEach ts env).length=ts.length/\ts.length=vs.length/\(assignEach ts env).findIdx? (·.1)=none
 |[],vs,ρ,ok=>by
  induction vs using List.casesOn with
  |nil=>exact⟨rfl,rfl,rfl⟩
  |cons v vs=>injections ok
 |t::ts,vs,ρ,ok=>by
  induction t using Expr.casesOn with
  |Name x p=>
   induction vs using List.casesOn with
   |nil=>injections ok
   |cons v vs=>
    have ih:=jP (ts:=ts) (vs:=vs) (ρ:=put ρ (nm x) (.val v)) ok;have e:assignEach (.Name x p::ts) env=(false,assign (.Name x p) env)::assignEach ts env:=rfl;rw[e];refine⟨by simp[ih.1],by simp[ih.2.1], ?_⟩;rw[List.findIdx?_cons,ih.2.2];rfl
  |_=>injections ok
theorem wJ (Fh:A.handled=none) (En:aw env κ) {t:Expr} {v:V} {u:Value} {s:Shared} (ok:(bU t v ρ).1=true) (hx:∀x∈bh t,ag (kd κ x)=true) (S:cY G env X O ρ s) (r:ak G (am env X O) s v u)
 (E:Value->Shared->Prop) (Q:Unit->Shared->Prop) (q:∀s',cY G env X (kX O (bh t)) (bU t v ρ).2 s'->eQ env (bh t) s s'->Q () s'):wpAny (model G.p G.w) A (assign t env u) Q E s:=by
 induction t using Expr.casesOn with
 |Name x p=>
  refine wpAny_assign_Name (cI S En (hx _ (aO ..)) r λh' tk hle S' k' al=>q _ ?_ ⟨h',tk,rfl,λb o n e=>k' b o (n x (aO ..)) e,al,hle⟩);have:kX O (bh (.Name x p))=upd O (nm x) none:=by
   rw[show bh (.Name x p)=[nm x]from rfl,<-rA,uM]
  rw[this];exact S'
 |Tuple ts k p=>
  induction v using V.casesOn with
  |tup vs=>
   have ok':(f7 ts vs ρ).1=true:=ok;obtain⟨a,us,rfl,na,ht,rr⟩:=ak.tup_iff.mp r;have pt:=jP (env:=env) ok';refine wpAny_assign_Tuple Fh ht (by rw[pt.1,pt.2.1,rr.length,c0]) pt.2.2 λh' he => ?_
   have kp:∀b o,s.heap.get? b=some o->h'.get? b=some o:=λb o e=>he b o (Nat.ne_of_lt (Heap.lt_size e)) e
   refine mX (s:={ s with heap:=h' }) ok' hx En (S.keeps (Kp.heap s.toks kp)) (Reps.on (Kp.on (Kp.heap s.toks kp)) rr) E Q λs' S' mv=>q s' S' ?_
   exact eQ.trans (ns:=bh (.Tuple ts k p)) (eQ.of_keeps (Kp.heap s.toks kp)) mv (λ_ h=>h) λ_ h=>h
  |_=>injections ok
 |_=>injections ok
end
end
section
open PySem PySem.W PySem.Calls PyProof.Rows
theorem bW:∀(κ:List (Str×NameKind)) (x:Str),kd κ (nm x)=κ.lookup x
 |[],x=>rfl
 |(y,k)::r,x=>by
  have ih:=bW r x;rw[HT,List.lookup_cons,sN];cases x==y with
  |true=>rfl
  |false=>exact ih
theorem mem_iff:∀{l:List Nm} {x:Nm},Mine.mI x l=true↔x∈l
 |[],x=>⟨λh=>aa h,λh=>(cj h).elim⟩
 |y::r,x=>by
  rw[Gz,Bool.or_eq_true,an,mem_iff (l:=r),List.mem_cons]
theorem nodup_iff:∀{l:List Nm},d7 l=true↔l.Nodup
 |[]=>⟨λ_ => .nil,λ_=>rfl⟩
 |y::r=>by
  rw[Ah,aK,nodup_iff (l:=r),List.nodup_cons,Bool.not_eq_true',<-mem_iff,Bool.not_eq_true]
noncomputable def j9(names:List (Str×NameKind)):Prop:=(names.map λx=>nm x.1).Nodup
theorem j9.same{names:List (Str×NameKind)}(h:j9 names){x:Str}{k k':NameKind}(h1:(x,k)∈names)(h2:(x,k')∈names):k=k':=by
 induction names with
 |nil=>injections h1
 |cons y r ih=>
  unfold j9 at h;rw[aC,List.nodup_cons]at h
  rcases bu h1 with e1|h1<;>rcases bu h2 with e2|h2
  ·rw[<-e1]at e2;exact(Prod.mk.inj e2).2.symm
  ·exact absurd (List.mem_map.mpr ⟨_,h2,by rw[<-e1]⟩) h.1
  ·exact absurd (List.mem_map.mpr ⟨_,h1,by rw[<-e2]⟩) h.1
  ·exact ih h.2 h1 h2
theorem j9.lookup{names:List (Str×NameKind)}(h:j9 names){x:Str}{k:NameKind}(h1:(x,k)∈names):names.lookup x=some k:=by
 have:∃k',names.lookup x=some k':=by
  clear h
  induction names with
  |nil=>injections h1
  |cons y r ih=>
   obtain⟨y,k0⟩:=y;rw[List.lookup_cons];cases e:x==y with
   |true=>exact⟨_,rfl⟩
   |false=>
    rcases bu h1 with e1|h1
    ·injection e1 with e1 e2;subst e1;simp at e
    ·exact ih h1
 obtain⟨k',e⟩:=this;rw[e,h.same (mem_of_lookup e) h1]
theorem eE{α:Type}:∀{l:List (Str×α)} {x:Str} {c:α},(x,c)∈l->∃c',l.lookup x=some c'
 |(y,d)::r,x,c,h=>by
  rw[List.lookup_cons];cases e:x==y with
  |true=>exact⟨_,rfl⟩
  |false=>
   rcases bu h with e1|h
   ·injection e1 with e1 e2;subst e1;simp at e
   ·exact eE h
noncomputable def iy(env:Env):List (Str×NameKind)->List (Str×Addr)->List (Str×Addr)
 |[],acc=>acc
 |(n,k)::r,acc=>if k == .free then iy env r ((n,(env.cells.lookup n).getD 0)::acc)else iy env r acc
theorem pj{env:Env}{n:Str}{k:NameKind}{r:List (Str×NameKind)}{acc:List (Str×Addr)}:iy env ((n,k)::r) acc=if k == .free then iy env r ((n,(env.cells.lookup n).getD 0)::acc)else iy env r acc:=rfl
theorem ka {env:Env} (f:Str×NameKind->List (Str×Addr)->Sem (ForInStep (List (Str×Addr))))
 (hf:∀name kind cs,f (name,kind) cs=if kind == .free then(do let a <-cellOf env name;pure (.yield ((name,a)::cs)))else pure (.yield cs)):
 ∀(names:List (Str×NameKind)) (acc:List (Str×Addr)),(∀n,(n,NameKind.free)∈names->∃c,env.cells.lookup n=some c)->forIn names acc f=pure (iy env names acc)
 |[],acc,_=>by rw[List.forIn_nil];rfl
 |(n,k)::r,acc,h=>by
  rw[List.forIn_cons,hf];rw[pj];cases hk:k==NameKind.free with
  |true=>
   simp only[if_true];have ek:k = .free:=eq_of_beq hk;subst ek;obtain⟨c,hc⟩:=h n (aO ..);unfold cellOf;rw[hc];have:=ka f hf r ((n,c)::acc) (λm hm=>h m (aG _ hm));exact this
  |false=>
   simp only[Bool.false_eq_true,if_false];exact ka f hf r acc (λm hm=>h m (aG _ hm))
theorem wK{env:Env}{scope:Scope}(h:∀n,(n,NameKind.free)∈scope.names->∃c,env.cells.lookup n=some c):closureFor scope env=pure (iy env scope.names []):=by
 simp only[closureFor];rw[ka (env:=env) _ (λname kind cs=>by cases hk:kind==NameKind.free<;>simp) scope.names [] h]
 rfl
theorem fG{env:Env}:∀{names:List (Str×NameKind)} {acc:List (Str×Addr)} {n:Str} {c:Addr},(∀n,(n,NameKind.free)∈names->∃c,env.cells.lookup n=some c)->(n,c)∈iy env names acc ->
 (n,c)∈acc\/((n,NameKind.free)∈names/\env.cells.lookup n=some c)
 |[],acc,n,c,_,h => .inl h
 |(m,k)::r,acc,n,c,hc,h=>by
  rw[pj]at h;cases hk:k==NameKind.free with
  |true=>
   rw[hk]at h;simp only[if_true]at h;have ek:k = .free:=eq_of_beq hk;subst ek
   rcases fG (λm hm=>hc m (aG _ hm)) h with h|⟨h1,h2⟩
   ·rcases bu h with e|h
    ·injection e with e1 e2;subst e1
     obtain⟨d,hd⟩:=hc n (aO ..);rw[hd]at e2;exact .inr ⟨aO ..,by rw[hd,e2];rfl⟩
    ·exact .inl h
   ·exact .inr ⟨aG _ h1,h2⟩
  |false=>
   rw[hk]at h;simp only[Bool.false_eq_true,if_false]at h
   rcases fG (λm hm=>hc m (aG _ hm)) h with h|⟨h1,h2⟩
   ·exact .inl h
   ·exact .inr ⟨aG _ h1,h2⟩
theorem mh{env:Env}:∀{names:List (Str×NameKind)} {acc:List (Str×Addr)} {x:Str×Addr},x∈acc->x∈iy env names acc
 |[],acc,x,h=>h
 |(m,k)::r,acc,x,h=>by
  rw[pj]
  split
  ·exact mh (aG _ h)
  ·exact mh h
theorem pk{env:Env}:∀{names:List (Str×NameKind)} {acc:List (Str×Addr)} {n:Str},(n,NameKind.free)∈names->∃c,(n,c)∈iy env names acc
 |(m,k)::r,acc,n,h=>by
  rw[pj]
  rcases bu h with e|h
  ·injection e with e1 e2;subst e1;subst e2
   exact⟨_,by rw[if_pos (by rfl)];exact mh (aO ..)⟩
  ·split
   ·exact pk h
   ·exact pk h
theorem kb{env:Env}(hp:env.cells.Pairwise λx y=>x.2≠y.2):∀{names:List (Str×NameKind)} {acc:List (Str×Addr)},(∀n,(n,NameKind.free)∈names->∃c,env.cells.lookup n=some c)->j9 names ->
 (∀n c,(n,c)∈acc->env.cells.lookup n=some c/\∀k,(n,k)∉names)->acc.Pairwise (λx y=>x.2≠y.2)->(iy env names acc).Pairwise λx y=>x.2≠y.2
 |[],acc,_,_,_,h=>h
 |(m,k)::r,acc,hc,ho,ha,h=>by
  have ho':nm m∉r.map (λx=>nm x.1)/\j9 r:=by
   unfold j9 at ho;rw[aC,List.nodup_cons]at ho;exact ho
  rw[pj];cases hk:k==NameKind.free with
  |true=>
   simp only[if_true];have ek:k = .free:=eq_of_beq hk;subst ek;obtain⟨d,hd⟩:=hc m (aO ..);rw[hd];refine kb hp (λm hm=>hc m (aG _ hm)) ho'.2 (λn c hn => ?_) (List.pairwise_cons.mpr ⟨λy hy e => ?_,h⟩)
   ·rcases bu hn with e|hn
    ·injection e with e1 e2;subst e1
     exact⟨by rw[hd,e2];rfl,λk hk=>ho'.1 (List.mem_map.mpr ⟨_,hk,rfl⟩)⟩
    ·exact⟨(ha n c hn).1,λk hk=>(ha n c hn).2 k (aG _ hk)⟩
   ·obtain⟨n,c⟩:=y
    have e:d=c:=e;have:=name_of_addr hp (mem_of_lookup hd) (e▸mem_of_lookup (ha n c hy).1);subst this;exact(ha m c hy).2 _ (aO ..)
  |false=>
   simp only[Bool.false_eq_true,if_false];exact kb hp (λm hm=>hc m (aG _ hm)) ho'.2 (λn c hn=>⟨(ha n c hn).1,λk hk=>(ha n c hn).2 k (aG _ hk)⟩) h
theorem cN:∀{names:List (Str×NameKind)} {h:Heap} {acc:List (Str×Addr)} {n:Str} {c:Addr},(n,c)∈cellsFrom h.objs.size names acc ->
 (n,c)∈acc\/((n,NameKind.cell)∈names/\h.objs.size<=c/\(pushCells h names).IsCell c none)
 |[],h,acc,n,c,m => .inl m
 |(x,k)::r,h,acc,n,c,m=>by
  unfold cellsFrom at m;cases hk:k==NameKind.cell with
  |true=>
   rw[hk]at m;simp only[if_true]at m;have ek:k = .cell:=eq_of_beq hk;subst ek;have e1:h.objs.size+1=(h.push { cls := .type "cell",data := .cell none }).objs.size:=(Heap.size_push ..).symm;rw[e1]at m;have pc:pushCells h ((x, .cell)::r)=pushCells (h.push { cls := .type "cell",data := .cell none }) r:=rfl
   rcases cN m with m|⟨m1,m2,m3⟩
   ·rcases bu m with e|m
    ·injection e with e1 e2;subst e1;subst e2
     refine .inr ⟨aO ..,aq _, ?_⟩;rw[pc];exact⟨_,pushCells_keeps _ _ _ _ (di _ rfl),rfl⟩
    ·exact .inl m
   ·exact .inr ⟨aG _ m1,by rw[<-e1]at m2;omega,by rw[pc];exact m3⟩
  |false=>
   rw[hk]at m;simp only[Bool.false_eq_true,if_false]at m;have pc:pushCells h ((x,k)::r)=pushCells h r:=by
    show(if(k==NameKind.cell)=true then pushCells (h.push { cls := .type "cell",data := .cell none }) r else pushCells h r)=_;rw[if_neg (by rw[hk];exact Bool.false_ne_true)]
   rcases cN m with m|⟨m1,m2,m3⟩
   ·exact .inl m
   ·exact .inr ⟨aG _ m1,m2,by rw[pc];exact m3⟩
theorem eR:∀{names:List (Str×NameKind)} {n:Nat} {acc:List (Str×Addr)} {x:Str×Addr},x∈acc->x∈cellsFrom n names acc
 |[],n,acc,x,h=>h
 |(m,k)::r,n,acc,x,h=>by
  unfold cellsFrom
  split
  ·exact eR (aG _ h)
  ·exact eR h
theorem cO:∀{names:List (Str×NameKind)} {n:Nat} {acc:List (Str×Addr)} {x:Str},(x,NameKind.cell)∈names->∃c,(x,c)∈cellsFrom n names acc
 |(m,k)::r,n,acc,x,h=>by
  unfold cellsFrom
  rcases bu h with e|h
  ·injection e with e1 e2;subst e1;subst e2
   exact⟨n,by rw[if_pos (by rfl)];exact eR (aO ..)⟩
  ·split
   ·exact cO h
   ·exact cO h
theorem fJ:∀{names:List (Str×NameKind)} {n:Nat} {acc:List (Str×Addr)},(∀x∈acc,x.2<n)->acc.Pairwise (λx y=>x.2≠y.2)->(cellsFrom n names acc).Pairwise λx y=>x.2≠y.2
 |[],n,acc,_,h=>h
 |(m,k)::r,n,acc,ha,h=>by
  unfold cellsFrom
  split
  ·refine fJ (λx hx => ?_) (List.pairwise_cons.mpr ⟨λy hy e => ?_,h⟩)
   ·rcases bu hx with e|hx
    ·rw[e];exact Nat.lt_succ_self n
    ·exact Nat.lt_succ_of_lt (ha x hx)
   ·have e:n=y.2:=e
    exact dl _ (e▸ha y hy:n<n)
  ·exact fJ ha h
theorem iX{env:Env}:∀{names:List (Str×NameKind)} {x:Str},
 (names.map λ(n,k)=>if(k==NameKind.free&&env.scope.kind == .function&&env.kindOf n==some .cell)then(n,NameKind.cell)else(n,k)).lookup x =
   (names.lookup x).map λk=>if(k==NameKind.free&&env.scope.kind == .function&&env.kindOf x==some .cell)then NameKind.cell else k
 |[],x=>rfl
 |(n,k)::r,x=>by
  have ih := @iX env r x;show List.lookup x ((if(k==NameKind.free&&env.scope.kind == .function&&env.kindOf n==some .cell)=true then(n,NameKind.cell)else(n,k))::_)=_
  by_cases hc:(k==NameKind.free&&env.scope.kind == .function&&env.kindOf n==some .cell)=true
  ·rw[if_pos hc,List.lookup_cons,List.lookup_cons]
   cases e:x==n with
   |true=>
    have en:x=n:=eq_of_beq e;subst en;simp only[Option.map_some,if_pos hc]
   |false=>exact ih
  ·rw[if_neg hc,List.lookup_cons,List.lookup_cons]
   cases e:x==n with
   |true=>
    have en:x=n:=eq_of_beq e;subst en;simp only[Option.map_some,if_neg hc]
   |false=>exact ih
section
variable {G:Cfg} {A:Around} {env:Env} {X:Addr->Prop} {κ:List (Str×NameKind)} {ρ:Rho} {O:Nm->Option Addr} {scope:Scope}
structure jy(κ:List (Str×NameKind))(scope:Scope):Prop where
 kind:scope.kind = .function
 once:j9 scope.names
 plain:∀x k,(x,k)∈scope.names->(x==("__debug__":Str))=false/\(x==("__classdict__":Str))=false
 free:∀x,(x,NameKind.free)∈scope.names->j1 (kd κ (nm x))=true
 nochr:(("chr":Str),NameKind.globalImplicit)∉scope.names
theorem po(h:fR κ scope=true):jy κ scope:=by
 unfold fR at h;simp only[aK]at h;obtain⟨⟨⟨h1,h2⟩,h3⟩,h4⟩:=h;refine⟨?_,nodup_iff.mp h2,λx k hx => ?_,λx hx => ?_,λhx=>aa (show false=true from cq h4 (("chr":Str),NameKind.globalImplicit) hx)⟩
 ·cases hk:scope.kind<;>first|rfl|(rw[hk]at h1;injections h1)
 ·have:=cq h3 _ hx
  simp only[aK,Bool.not_eq_true',sN]at this;exact this
 ·have:=cq h4 _ hx
  exact this
theorem wL{names:List (Str×NameKind)}{f:NameKind->Nm->Slot}:∀{x:Str},lk (names.map λy=>(nm y.1,f y.2 (nm y.1))) (nm x)=match names.lookup x with|some k=>f k (nm x)|none => .un:=by
 induction names with
 |nil=>intro x;rfl
 |cons y r ih=>
  obtain⟨y,k⟩:=y;intro x;rw[aC];rw[jZ,List.lookup_cons,sN];cases e:x==y with
  |true=>rw[eq_of_beq e];rfl
  |false=>exact ih
theorem pq{x:Str}:lk (cK scope ρ) (nm x)=match scope.names.lookup x with|some .free=>xI (lk ρ (nm x))|_ => .un:=by
 have:=wL (names:=scope.names) (f:=λk n=>match k with| .free=>xI (lk ρ n)|_ => .un) (x:=x);unfold cK;refine(congrArg (λl=>lk l (nm x)) (List.map_congr_left λy _ => ?_)).trans (this.trans ?_)
 ·rfl
 ·cases scope.names.lookup x with
  |none=>rfl
  |some k=>induction k using NameKind.casesOn<;>rfl
theorem AL{env:Env}{x:Str}(k:NameKind):∃k',(if(k==NameKind.free&&env.scope.kind == .function&&env.kindOf x==some .cell)then NameKind.cell else k)=k'/\ag (some k')=ag (some k)/\j1 (some k')=j1 (some k)/\ay (some k')=ay (some k):=by
 by_cases hc:(k==NameKind.free&&env.scope.kind == .function&&env.kindOf x==some .cell)=true
 ·rw[if_pos hc]
  simp only[aK]at hc;have ek:k = .free:=eq_of_beq hc.1.1;subst ek;exact⟨_,rfl,rfl,rfl,rfl⟩
 ·rw[if_neg hc]
  exact⟨_,rfl,rfl,rfl,rfl⟩
noncomputable def gU(scope:Scope)(env:Env)(C:Addr):Env:=compEnvC scope (cellsFrom (C+1) scope.names (iy env scope.names [])) C env
theorem fy(x:Str):(gU scope env C).kindOf x=(scope.names.lookup x).map λk=>if(k==NameKind.free&&env.scope.kind == .function&&env.kindOf x==some .cell)then NameKind.cell else k:=iX
theorem uN(Ok:jy κ scope)(En:aw env κ)(C:Addr):aw (gU scope env C) scope.names where
 kind:=Ok.kind
 names:=λx=>by
  rw[fy,bW];cases scope.names.lookup x with
  |none=>rfl
  |some k=>obtain⟨k',e,h1,h2,h3⟩:=AL (env:=env) (x:=x) k;simp only[Option.map_some];rw[e];exact h1
 free:=λx=>by
  rw[fy,bW];cases scope.names.lookup x with
  |none=>rfl
  |some k=>obtain⟨k',e,h1,h2,h3⟩:=AL (env:=env) (x:=x) k;simp only[Option.map_some];rw[e];exact h2
 glob:=λx=>by
  rw[fy,bW];cases scope.names.lookup x with
  |none=>rfl
  |some k=>obtain⟨k',e,h1,h2,h3⟩:=AL (env:=env) (x:=x) k;simp only[Option.map_some];rw[e];exact h3
 plain:=λx h=>by
  rw[fy]at h;cases e:scope.names.lookup x with
  |none=>rw[e]at h;injections h
  |some k=>exact Ok.plain x k (mem_of_lookup e)
 globals:=En.globals
 builtins:=En.builtins
theorem pu(Ok:jy κ scope)(En:aw env κ){g:Str->Option Value}{h:Heap}(F:du env h g):∀n,(n,NameKind.free)∈scope.names->∃c,env.cells.lookup n=some c/\h.IsCell c (g n):=
 λn hn=>F.cell n ((En.free n).trans (Ok.free n hn))
theorem mi(hc:∀n,(n,NameKind.free)∈scope.names->∃c,env.cells.lookup n=some c){h:Heap}{b:Addr}(hb:fH (gU scope env h.objs.size) b):
 b=h.objs.size\/h.objs.size+1<=b\/fH env b:=by
 rcases hb with e|⟨x,m⟩
 ·exact .inl e
 ·have e1:h.objs.size+1=(h.push { cls := .type "dict",data := .dict #[] }).objs.size:=(Heap.size_push ..).symm
  change (x,b)∈cellsFrom (h.objs.size+1) scope.names (iy env scope.names [])at m
  rw[e1]at m
  rcases cN m with m|⟨_,m2,_⟩
  ·rcases fG hc m with m|⟨_,m⟩
   ·cases m
   ·exact .inr (.inr (.inr ⟨x,mem_of_lookup m⟩))
  ·exact .inr (.inl (by rw[e1];exact m2))
theorem E7(Ok:jy κ scope)(En:aw env κ){h0 sx:Shared}{h:Heap}(hx:sx.heap=pushCells (h.push { cls := .type "dict",data := .dict #[] }) scope.names)(l:h0.toks<=sx.toks)(S:cY G env X O ρ h0)(k:∀b o,h0.heap.get? b=some o->h.get? b=some o){Z:Addr->Prop}(hz:∀b,Z b->h0.heap.get? b=none/\∃o,h.get? b=some o):
 cY G (gU scope env h.objs.size) (λb=>am env X O b\/Z b) (λ_=>none) (cK scope ρ) sx:=by
 obtain⟨hpx,gnx,dnx,tkx,osx⟩:=sx;subst hx;obtain⟨g,F,hg⟩:=S.look;have hc':=pu Ok En F;have hc:∀n,(n,NameKind.free)∈scope.names->∃c,env.cells.lookup n=some c:=λn hn=>let⟨c,e,_⟩:=hc' n hn;⟨c,e⟩
 have kp:∀b o,h.get? b=some o->(pushCells (h.push { cls := .type "dict",data := .dict #[] }) scope.names).get? b=some o:=λb o e=>pushCells_keeps _ _ _ _ (gG _ e)
 have e1:h.objs.size+1=(h.push { cls := .type "dict",data := .dict #[] }).objs.size:=(Heap.size_push ..).symm;have full:∀b,am (gU scope env h.objs.size) (λb=>am env X O b\/Z b) (λ_=>none) b->am env X O b\/Z b\/(h.objs.size<=b):=λb fb=>by
  rcases fb with(fb|fb)|fb|⟨y,fb⟩
  ·exact .inl fb
  ·exact .inr (.inl fb)
  ·rcases mi hc fb with e|e|e
   ·exact .inr (.inr (by rw[e];exact aq _))
   ·exact .inr (.inr ⋯)
   ·exact .inl (.inr (.inl e))
  ·cases fb
 have none0:∀b,h0.heap.get? b=none->G.h0.get? b=none:=λb e=>by
  cases e':G.h0.get? b with
  |none=>rfl
  |some o=>have:=S.old b o e';rw[e]at this;injections this
 have above:∀b,h.objs.size<=b->h0.heap.get? b=none:=λb hb=>by
  cases e:h0.heap.get? b with
  |none=>rfl
  |some o=>exact absurd (Heap.lt_size (k b o e)) (Nat.not_lt.mpr hb)
 have on:On (am env X O) (am (gU scope env h.objs.size) (λb=>am env X O b\/Z b) (λ_=>none)) h0 ⟨pushCells (h.push { cls := .type "dict",data := .dict #[] }) scope.names,gnx,dnx,tkx,osx⟩:=
  ⟨λb o _ e=>kp b o (k b o e),λb o e fb=>by
    rcases full b fb with h1|h1|h1
    ·exact h1
    ·rw[(hz b h1).1]at e;injections e
    ·rw[above b h1]at e;(cases e),l⟩
 refine⟨λb o e=>kp b o (k b o (S.old b o e)),λb fb => ?_,λb fb => ?_,⟨λx=>if scope.names.lookup x=some .free then g x else none,⟨⟨_,(Heap.Ns.new h (.type "dict")).keeps (pushCells_keeps _ _),λx hx => ?_⟩,λx hx => ?_, ?_⟩,λx hx => ?_⟩,λx y a e _=>(nomatch e),λx a e=>(nomatch e),λch=>absurd (mem_of_lookup ((bW _ _).symm.trans (jw (((uN Ok En _).glob "chr").symm.trans ch)))) Ok.nochr⟩
 ·rcases full b fb with h1|h1|h1
  ·exact S.new b h1
  ·exact none0 b (hz b h1).1
  ·exact none0 b (above b h1)
 ·rcases fb with(fb|fb)|fb|⟨y,fb⟩
  ·obtain⟨o,e⟩:=S.alive b fb;exact⟨o,kp b o (k b o e)⟩
  ·obtain⟨o,e⟩:=(hz b fb).2;exact⟨o,kp b o e⟩
  ·rcases fb with e|⟨x,m⟩
   ·exact⟨_,by rw[e];exact pushCells_keeps _ _ _ _ (di _ rfl)⟩
   ·change (x,b)∈cellsFrom (h.objs.size+1) scope.names (iy env scope.names [])at m
    rw[e1]at m
    rcases cN m with m|⟨_,_,o,e,_⟩
    ·rcases fG hc m with m|⟨_,m⟩
     ·cases m
     ·obtain⟨o,e⟩:=S.alive b (.inr (.inl (.inr ⟨x,mem_of_lookup m⟩)))
      exact⟨o,kp b o (k b o e)⟩
    ·exact⟨o,e⟩
  ·cases fb
 ·rw[fy]at hx
  split
  ·rename_i e
   rw[e]at hx;simp only[Option.map_some,Option.some.injEq]at hx
   split at hx<;>injections hx
  ·rfl
 ·rw[fy]at hx
  cases e:scope.names.lookup x with
  |none=>rw[e]at hx;injections hx
  |some kk=>
   rw[e]at hx;simp only[Option.map_some]at hx;have hmem:=mem_of_lookup e;have look:∀c,(x,c)∈cellsFrom (h.objs.size+1) scope.names (iy env scope.names [])->∃c',(gU scope env h.objs.size).cells.lookup x=some c'/\(x,c')∈cellsFrom (h.objs.size+1) scope.names (iy env scope.names []):=λc hcm=>by
    obtain⟨c',ec⟩:=eE hcm;exact⟨c',ec,mem_of_lookup ec⟩
   have cases2:kk = .free\/kk = .cell:=by
    induction kk using NameKind.casesOn<;>first|exact .inl rfl|exact .inr rfl|exact aa hx
   rcases cases2 with rfl|rfl
   ·obtain⟨c,hcm⟩:=pk (env:=env) (acc:=[]) hmem
    obtain⟨c',l1,l2⟩:=look c (eR hcm);refine⟨c',l1, ?_⟩;rw[if_pos rfl];rw[e1]at l2
    rcases cN l2 with m|⟨m,_⟩
    ·rcases fG hc m with m|⟨_,m⟩
     ·cases m
     ·obtain⟨c2,e2,hv⟩:=hc' x hmem
      rw[m]at e2;injections e2;exact(hv.keeps k).keeps kp
    ·have:=Ok.once.same hmem m;injections this
   ·obtain⟨c,hcm⟩:=cO (n:=h.objs.size+1) (acc:=iy env scope.names []) hmem
    obtain⟨c',l1,l2⟩:=look c hcm;refine⟨c',l1, ?_⟩;rw[if_neg (by rintro⟨⟩)];rw[e1]at l2
    rcases cN l2 with m|⟨_,_,m⟩
    ·rcases fG hc m with m|⟨m,_⟩
     ·cases m
     ·have:=Ok.once.same hmem m;injections this
    ·exact m
 ·refine fJ (λx hx => ?_) (kb F.apart hc Ok.once (λn c hn=>by injections hn) List.Pairwise.nil)
  obtain⟨n,c⟩:=x
  rcases fG hc hx with m|⟨_,m⟩
  ·cases m
  ·obtain⟨o,e⟩:=S.alive c (.inr (.inl (.inr ⟨n,mem_of_lookup m⟩)))
   exact Nat.lt_succ_of_lt (Heap.lt_size (k c o e))
 ·rw[pq]
  cases e:scope.names.lookup x with
  |none=>trivial
  |some kk=>
   induction kk using NameKind.casesOn with
   |free=>
    have hfr:=Ok.free x (mem_of_lookup e);have hn:ag (env.kindOf x)=true:=by
     rw[En.names];cases hk:kd κ (nm x)with
     |none=>rw[hk]at hfr;cases hfr
     |some k'=>rw[hk]at hfr;induction k' using NameKind.casesOn<;>first|rfl|cases hfr
    have:=hg x hn;show ir G _ _ none (xI (lk ρ (nm x))) (if scope.names.lookup x=some .free then g x else none);rw[if_pos e];cases hl:lk ρ (nm x)with
    |un=>trivial
    |own l=>trivial
    |val v=>
     rw[hl]at this;exact ir.on on (λa e=>by injections e) (show ir G (am env X O) h0 none (.val v) (g x)from this)
   |_=>trivial
theorem uO {M:Model} {A:Around} {E:Value->Shared->Prop} {s:Shared} {cl:List (Str×Addr)} {qual:Str} {Q:Env->Shared->Prop}
 (h:Q { scope,locals:=s.heap.objs.size,globals:=env.globals,cells:=cellsFrom (s.heap.objs.size+1) scope.names cl,qual,func:=none,code:=env.code,frame:=env.frame,builtins:=env.builtins }
   { s with heap:=pushCells (s.heap.push { cls := .type "dict",data := .dict #[] }) scope.names }):
 wpAny M A (newFunctionEnv scope env.globals cl [] qual none .none (some env)) Q E s:=by
 simp only[newFunctionEnv,Option.isSome_some,if_true];refine ae (wpAny_alloc ?_);refine ae (wpAny_layCells _ (λname kind cells=>by cases hkc:kind==NameKind.cell<;>simp) _ _ _ _ ?_);rw[show({ s with heap:=s.heap.push { cls := .type "dict",data := .dict #[] } }:Shared).heap.objs.size=s.heap.objs.size+1 from Heap.size_push ..];exact ae (ar (ar h))
end
end
section
open PySem PySem.W PySem.Calls PyProof.Rows
section
variable {G:Cfg} {A:Around} {env:Env} {X:Addr->Prop} {κ:List (Str×NameKind)} {ρ:Rho} {O:Nm->Option Addr}
theorem cY.skip{h h':Shared}{Z:Addr->Prop}(S:cY G env X O ρ h)(hz:∀b,Z b->X b)(hzO:∀b,fH env b->¬Z b)(k:∀b o,¬Z b->h.heap.get? b=some o->h'.heap.get? b=some o)(al:∀b,Z b->∃o,h'.heap.get? b=some o)(l:h.toks<=h'.toks):cY G env X O ρ h' where
 old:=λb o e=>k b o (λz=>by have:=S.new b (.inl (hz b z));have e2:=e;rw[this]at e2;injections e2) (S.old b o e)
 new:=S.new
 alive:=λb fb=>by
  by_cases z:Z b
  ·exact al b z
  ·obtain⟨o,e⟩:=S.alive b fb;exact⟨o,k b o z e⟩
 look:=by
  obtain⟨g,F,hg⟩:=S.look;exact⟨g,F.off λb o ob e=>k b o (hzO b ob) e,λx hx=>(hg x hx).on ⟨λb o nb e=>k b o (λz=>nb (.inl (hz b z))) e,λ_ _ _ y=>y,l⟩ λa ea o eo=>k a o (λz=>(S.apart _ a ea).1 (hz a z)) eo⟩
 inj:=S.inj
 apart:=S.apart
 pos:=λch=>dy (S.pos ch) l
theorem cY.less{h h':Shared}{Z X':Addr->Prop}(S:cY G env X O ρ h)(hz:∀b,Z b->X b)(hX:∀b,X' b->X b/\¬Z b)(hzO:∀b,fH env b->¬Z b)(k:∀b o,¬Z b->h.heap.get? b=some o->h'.heap.get? b=some o)(l:h.toks<=h'.toks):cY G env X' O ρ h':=by
 have full:∀b,am env X' O b->am env X O b/\¬Z b:=λb fb=>by
  rcases fb with f|f|⟨y,f⟩
  ·exact⟨.inl (hX b f).1,(hX b f).2⟩
  ·exact⟨.inr (.inl f),hzO b f⟩
  ·exact⟨.inr (.inr ⟨y,f⟩),λz=>(S.apart y b f).1 (hz b z)⟩
 refine⟨λb o e=>k b o (λz=>by have:=S.new b (.inl (hz b z));have e2:=e;rw[this]at e2;injections e2) (S.old b o e),λb fb=>S.new b (full b fb).1,λb fb => ?_, ?_,S.inj,λx a e=>⟨λh=>(S.apart x a e).1 (hX a h).1,(S.apart x a e).2⟩,λch=>dy (S.pos ch) l⟩
 ·obtain⟨o,e⟩:=S.alive b (full b fb).1;exact⟨o,k b o (full b fb).2 e⟩
 ·obtain⟨g,F,hg⟩:=S.look
  exact⟨g,F.off λb o ob e=>k b o (hzO b ob) e,λx hx=>(hg x hx).on ⟨λb o nb e=>k b o (λz=>nb (.inl (hz b z))) e,λb o _ fb=>(full b fb).1,l⟩ λa ea o eo=>k a o (λz=>(S.apart _ a ea).1 (hz a z)) eo⟩
theorem mY(env:Env):∀ifs:List Expr,(forIn ifs false λc r=>if r=true then do let ok <-isTrue c env (eval c env);pure (ForInStep.yield ok)else pure (ForInStep.yield r))=(pure false:Sem Bool)
 |[]=>rfl
 |c::r=>by
  rw[List.forIn_cons];simp only[Bool.false_eq_true,if_false];exact mY env r
theorem uP{E:Expr->R}(GT:mU G A env X ρ E):∀{ifs:List Expr},(gK E ifs).1=true->∀O s,cY G env X O ρ s->∀(E':Value->Shared->Prop) (Q:Bool->Shared->Prop),(∀s',aM s s'->Q (gK E ifs).2 s') ->
 wpAny (model G.p G.w) A (forIn ifs true λc r=>if r=true then do let ok <-isTrue c env (eval c env);pure (ForInStep.yield ok)else pure (ForInStep.yield r)) Q E' s
 |[],_,O,s,S,E',Q,q=>ar (q s (Kp.refl s))
 |c::r,ok,O,s,S,E',Q,q=>by
  rw[Ag]at ok q;have o1:=(bc (bc ok).1).1;have o2:=(bc (bc ok).1).2;have o3:=(bc ok).2;dsimp only at q;rw[List.forIn_cons];simp only[if_true];refine ae (ae (GT.ok c o1 o2 O s S _ _ λs1 k1=>ar ?_));cases hc:(ad (E c).2).2 with
  |true=>
   rw[hc]at o3 q;simp only[cond_true,Bool.true_and]at o3 q;exact uP GT o3 O s1 (S.keeps k1) E' Q λs2 k2=>q s2 (Kp.trans k1 k2)
  |false=>
   rw[hc]at q;simp only[Bool.false_and]at q;show wpAny _ A (forIn r false _) Q E' s1;rw[mY];exact ar (q s1 k1)
end
noncomputable abbrev O0:Nm->Option Addr:=λ_=>none
structure nI(G:Cfg)(A:Around)(cv:Env)(κ:List (Str×NameKind))(Y:Addr->Prop)(ρ0:Rho)(t:Expr)(ns:List Nm)(it:Value)(acc:Addr)(fp wr:List Addr)(xs:List V)(St:Nat->Heap->Prop)(X0:Addr->Prop)(hp:Shared)(s0:Shared):Prop where
 env:aw cv κ
 tg:∀x∈bh t,x∈ns/\ag (kd κ x)=true/\lk ρ0 x = .un
 it:It G A t X0 hp it fp wr xs St
 hwr:∀b∈wr,Y b
 hacc:Y acc
 own:∀b,fH cv b->b≠acc/\b∉wr
 fpAcc:acc∉fp
 fpPl:∀x,nm x∈ns->∀b∈fp,¬gS cv x b
 on:On X0 (am cv Y O0) hp s0
noncomputable def kY(G:Cfg)(P:Addr->Prop)(s:Shared)(acc:Addr):Bool->List V->Prop
 |false,res=>∃us m,s.heap.get? acc=some { cls := .type "list",data := .seq us m }/\Reps G P s res us.toList
 |true,res=>s.heap.DictOf (PySem.strKind G.p G.w) acc ((res.map jM).map λx=>(tx x.1,Value.bool x.2))
noncomputable def wM:Bool->List V->V
 |false,res => .list res
 |true,res => .dict (res.map jM)
theorem kY.on{G:Cfg}{P P':Addr->Prop}{s s':Shared}{acc:Addr}{dk:Bool}{res:List V}(e:On P P' s s')(k:∀o,s.heap.get? acc=some o->s'.heap.get? acc=some o)(h:kY G P s acc dk res):kY G P' s' acc dk res:=by
 induction dk using Bool.casesOn with
 |false=>obtain⟨us,m,el,rl⟩:=h;exact⟨us,m,k _ el,Reps.on e rl⟩
 |true=>obtain⟨o,es,ep,g,r⟩:=h;exact⟨o,es,ep,k _ g,r⟩
theorem kY.rep{G:Cfg}{P P':Addr->Prop}{s s':Shared}{acc:Addr}{dk:Bool}{res:List V}(e:On P P' s s')(k:∀o,s.heap.get? acc=some o->s'.heap.get? acc=some o)(n:¬P' acc)(h:kY G P s acc dk res):ak G P' s' (wM dk res) (.ref acc):=by
 have h':=h.on e k
 induction dk using Bool.casesOn with
 |false=>obtain⟨us,m,el,rl⟩:=h';exact ak.list_iff.mpr ⟨acc,us,rfl,n,⟨_,el,rfl,_,rfl⟩,rl⟩
 |true=>exact ak.dict_iff.mpr ⟨acc,rfl,n,h'⟩
structure JE(dk:Bool)(G:Cfg)(cv:Env)(Y:Addr->Prop)(ns:List Nm)(acc:Addr)(wr:List Addr)(s0:Shared)(ρ:Rho)(res:List V)(s:Shared):Prop where
 same:∃h tk,s={ s0 with heap:=h,toks:=tk }
 keep:∀b o,b≠acc->b∉wr->(∀x,nm x∈ns->¬gS cv x b)->s0.heap.get? b=some o->s.heap.get? b=some o
 live:∀b o,b∉wr->s0.heap.get? b=some o->∃o',s.heap.get? b=some o'
 sta:cY G cv Y O0 ρ s
 lst:kY G (am cv Y O0) s acc dk res
 tk:s0.toks<=s.toks
section
variable {dk:Bool} {G:Cfg} {A:Around} {cv:Env} {Y:Addr->Prop} {κ:List (Str×NameKind)} {ρ ρ0:Rho} {t:Expr} {ns:List Nm} {it:Value} {acc:Addr} {fp wr:List Addr} {xs:List V} {St:Nat->Heap->Prop} {X0:Addr->Prop} {hp:Shared} {s0 s:Shared} {res:List V}
theorem JE.keeps{s':Shared}(J:JE dk G cv Y ns acc wr s0 ρ res s)(k:aM s s'):JE dk G cv Y ns acc wr s0 ρ res s':=by
 have kk:=Kp.keep k;have on:=Kp.on (X:=am cv Y O0) k;have st:=J.sta.keeps k;have le:=ah J.tk (Kp.le k);obtain⟨h,tk,rfl⟩:=J.same;obtain⟨h',tk',rfl,_⟩:=k;refine⟨⟨h',tk',rfl⟩,λb o n1 n2 n3 e=>kk b o (J.keep b o n1 n2 n3 e),λb o nw e => ?_,st,J.lst.on on (kk acc),le⟩;obtain⟨o',e'⟩:=J.live b o nw e;exact⟨o',kk b o' e'⟩
theorem x5:∀{ts:List Expr} {vs:List V} {ρ:Rho} {y:Nm},y∉ts.filterMap nmT->lk (f7 ts vs ρ).2 y=lk ρ y
 |[],[],ρ,y,_=>rfl
 |[],_::_,ρ,y,_=>rfl
 |t::ts,vs,ρ,y,h=>by
  induction t using Expr.casesOn with
  |Name x p=>
   induction vs using List.casesOn with
   |nil=>rfl
   |cons v vs=>
    have h':y≠nm x/\y∉ts.filterMap nmT:=not_or.mp (mt List.mem_cons.mpr h);show lk (f7 ts vs (put ρ (nm x) (.val v))).2 y=_;rw[x5 h'.2];exact(gb _ _ ρ y).2 h'.1
  |_=>rfl
theorem E8{v:V}{y:Nm}(h:y∉bh t):lk (bU t v ρ).2 y=lk ρ y:=by
 induction t using Expr.casesOn with
 |Name x p=>exact(gb _ _ ρ y).2 (mt List.mem_singleton.mpr h)
 |Tuple ts k p=>induction v using V.casesOn with
  |tup vs=>exact x5 h
  |_=>rfl
 |_=>rfl
theorem JE.back{v:V}(C:nI G A cv κ Y ρ0 t ns it acc fp wr xs St X0 hp s0)(J:JE dk G cv Y ns acc wr s0 (bU t v ρ0).2 res s):JE dk G cv Y ns acc wr s0 ρ0 res s:=
 ⟨J.same,J.keep,J.live,J.sta.weaken λx=>by
   by_cases h:x∈bh t
   ·exact .inl (C.tg x h).2.2
   ·exact .inr (E8 h).symm,J.lst,J.tk⟩
theorem nI.onAt(C:nI G A cv κ Y ρ0 t ns it acc fp wr xs St X0 hp s0)(J:JE dk G cv Y ns acc wr s0 ρ res s):On X0 (am cv Y O0) hp s:=by
 refine C.on.trans ⟨λb o nb e=>J.keep b o (λh=>nb (.inl (h▸C.hacc))) (λh=>nb (.inl (C.hwr b h))) (λx _ pl=>nb (.inr (.inl pl.own))) e,λ_ _ _ y=>y,J.tk⟩
theorem front (Fh:A.handled=none) (C:nI G A cv κ Y ρ0 t ns it acc fp wr xs St X0 hp s0) (J:JE dk G cv Y ns acc wr s0 ρ0 res s) {i:Nat} (hi:i<xs.length) (st:St i s.heap) (ok:(bU t (xs.getD i .none) ρ0).1=true)
 {E:Value->Shared->Prop} {Q:Shared->Prop} (q:∀s',JE dk G cv Y ns acc wr s0 (bU t (xs.getD i .none) ρ0).2 res s'->St (i+1) s'.heap->Q s'):
 wpAny (model G.p G.w) A (pyNext it) (λr s₁=>∃v,r=some v/\wpAny (model G.p G.w) A (letOwnedTupleGo t it v) (λ_ s₂=>wpAny (model G.p G.w) A (assign t cv v) (λ_ s₃=>Q s₃) E s₂) E s₁) E s:=by
 have hw:∀b∈wr,am cv Y O0 b:=λb hb => .inl (C.hwr b hb)
 refine C.it.item i s (am cv Y O0) hi st (C.onAt J) J.sta.full hw E _ λv h' tk hle r st' k => ?_
 have lv:=C.it.live (i+1) h' st';have S':cY G cv Y O0 ρ0 { s with heap:=h',toks:=tk }:=J.sta.skip (Z:=λb=>b∈wr) C.hwr (λb hb=>(C.own b hb).2) (λb o nz e=>k b o nz e) (λb hb=>lv b (C.it.sub b hb)) hle;have accW:acc∉wr:=λh=>C.fpAcc (C.it.sub _ h)
 have al:∀b o,s.heap.get? b=some o->∃o',h'.get? b=some o':=λb o e=>by
  by_cases hb:b∈wr
  ·exact lv b (C.it.sub b hb)
  ·exact⟨o,k b o hb e⟩
 have onY:On (am cv Y O0) (am cv Y O0) s { s with heap:=h',toks:=tk }:=⟨λb o nb e=>k b o (λhb=>nb (hw b hb)) e,λ_ _ _ y=>y,hle⟩;refine wJ (s:={ s with heap:=h',toks:=tk }) Fh C.env ok (λx hx=>(C.tg x hx).2.1) S' r E _ λs3 S3 mv => ?_
 obtain⟨h3,tk3,rfl,k3,al3,hle3⟩:=mv;have upd0:kX O0 (bh t)=O0:=by funext y;simp[kX]
 rw[upd0]at S3;have on3:On (am cv Y O0) (am cv Y O0) { s with heap:=h',toks:=tk } { s with heap:=h3,toks:=tk3 }:=⟨λb o nb e=>k3 b o (λx _ pl=>nb (.inr (.inl pl.own))) e,λ_ _ _ y=>y,hle3⟩;refine q _ ⟨?_,λb o n1 n2 n3 e => ?_,λb o nw e => ?_,S3,(J.lst.on onY λo e=>k _ o accW e).on on3 λo e=>k3 _ o (λx hx pl=>(C.own _ pl.own).1 rfl) e,ah J.tk (ah hle hle3)⟩ ?_
 ·obtain⟨h,tk',e⟩:=J.same;rw[e];exact⟨h3,tk3,rfl⟩
 ·exact k3 b o (λx hx=>n3 x (C.tg _ hx).1) (k b o n2 (J.keep b o n1 n2 n3 e))
 ·obtain⟨o',e'⟩:=J.live b o nw e
  obtain⟨o2,e2⟩:=al b o' e';exact al3 b o2 e2
 ·exact C.it.frame _ _ _ st' λb hb o e=>k3 b o (λx hx pl=>C.fpPl x (C.tg _ hx).1 b hb pl) e
theorem finish (C:nI G A cv κ Y ρ0 t ns it acc fp wr xs St X0 hp s0) (J:JE dk G cv Y ns acc wr s0 ρ0 res s) (st:St xs.length s.heap) {Y1:Addr->Prop} (hY:∀b,Y1 b->Y b/\b∉wr)
 {E:Value->Shared->Prop} {Q:Option Value->Shared->Prop} (q:∀s',JE dk G cv Y1 ns acc wr s0 ρ0 res s'->Q none s'):wpAny (model G.p G.w) A (pyNext it) Q E s:=by
 refine C.it.done s st E Q λh' tk hle k=>q _ ?_
 have accW:acc∉wr:=λh=>C.fpAcc (C.it.sub _ h)
 have on:On (am cv Y O0) (am cv Y1 O0) s { s with heap:=h',toks:=tk }:=⟨λb o nb e=>k b o (λh=>nb (.inl (C.hwr b h))) e,λb o e fb=>by
  rcases fb with f|f|⟨y,f⟩
  ·exact .inl (hY b f).1
  ·exact .inr (.inl f)
  ·(cases f),hle⟩
 refine⟨?_,λb o n1 n2 n3 e=>k b o n2 (J.keep b o n1 n2 n3 e),λb o nw e => ?_,J.sta.less (Z:=λb=>b∈wr) C.hwr hY (λb hb=>(C.own b hb).2) (λb o nz e=>k b o nz e) hle,J.lst.on on λo e=>k _ o accW e,ah J.tk hle⟩
 ·obtain⟨h,tk',e⟩:=J.same;rw[e];exact⟨h',tk,rfl⟩
 ·obtain⟨o',e'⟩:=J.live b o nw e;exact⟨o',k b o' nw e'⟩
theorem GX (C:nI G A cv κ Y ρ0 t ns it acc fp wr xs St X0 hp s0) (J:JE false G cv Y ns acc wr s0 ρ res s) {x:V} {u:Value} (r:ak G (am cv Y O0) s x u) (hn:res.length<=cap) {i:Nat} (st:St i s.heap)
 {E:Value->Shared->Prop} {Q:Value->Shared->Prop} (q:∀s',JE false G cv Y ns acc wr s0 ρ (res++[x]) s'->St i s'.heap->(∀b o,b≠acc->s.heap.get? b=some o->s'.heap.get? b=some o)->Q .none s'):
 wpAny (model G.p G.w) A (call (.builtin "list.append") [.ref acc,u]) Q E s:=by
 obtain⟨us,m,el,rl⟩:=J.lst;have hsz:us.size=res.length:=by rw[<-c0,<-rl.length]
 refine append_at el (λh' hs e' => ?_) (by rw[hsz];exact d9 hn);have k:∀b o,b≠acc->s.heap.get? b=some o->h'.get? b=some o:=λb o nb e=>(hs.2 b nb).trans e
 have on:On (am cv Y O0) (am cv Y O0) s { s with heap:=h' }:=⟨λb o nb e=>k b o (λh=>nb (.inl (h▸C.hacc))) e,λ_ _ _ y=>y,aq _⟩;have S':cY G cv Y O0 ρ { s with heap:=h' }:=J.sta.skip (Z:=λb=>b=acc) (λb h=>h▸C.hacc) (λb hb=>(C.own b hb).1) (λb o nz e=>k b o nz e) (λb hb=>by rw[hb];exact⟨_,e'⟩) (aq _);refine q _ ⟨?_,λb o n1 n2 n3 e=>k b o n1 (J.keep b o n1 n2 n3 e),λb o nw e => ?_,S',⟨_,_,e', ?_⟩,J.tk⟩ ?_ k
 ·obtain⟨h,tk',e⟩:=J.same;rw[e];exact⟨h',_,rfl⟩
 ·obtain⟨o',e2⟩:=J.live b o nw e
  by_cases h:b=acc
  ·subst h;exact⟨_,e'⟩
  ·exact⟨o',k b o' h e2⟩
 ·rw[Array.toList_push]
  exact Reps.append (Reps.on on rl) (Reps.cons (r.on on) Reps.nil)
 ·exact C.it.frame _ _ _ st λb hb o e=>k b o (λh=>C.fpAcc (h▸hb)) e
theorem uQ:∀{d:List (List Nat×Bool)} {k:List Nat},k∉d.map Prod.fst->zG d k=none
 |[],_,_=>rfl
 |y::r,k,h=>by
  have h':k≠y.1/\k∉r.map Prod.fst:=not_or.mp (mt List.mem_cons.mpr h);have e:ab k y.1=false:=by rw[<-Bool.not_eq_true,an];exact h'.1
  rw[Ek,e];exact uQ h'.2
theorem E9 (C:nI G A cv κ Y ρ0 t ns it acc fp wr xs St X0 hp s0) (J:JE true G cv Y ns acc wr s0 ρ res s) {x:List Nat} {b:Bool} {u v:Value} (r:ak G (am cv Y O0) s (.str x) u) (r':ak G (am cv Y O0) s (.bool b) v) (hk:x∉(res.map jM).map Prod.fst) (hn:res.length<=cap) {i:Nat} (st:St i s.heap)
 {E:Value->Shared->Prop} {Q:Unit->Shared->Prop} (q:∀s',JE true G cv Y ns acc wr s0 ρ (res++[.tup [.str x, .bool b]]) s'->St i s'.heap->Q () s'):
 wpAny (model G.p G.w) A (dictSet acc u v) Q E s:=by
 obtain⟨tu,rfl⟩:=ak.str_iff.mp r;obtain rfl:=ak.bool_iff.mp r';have el:s.heap.DictOf (PySem.strKind G.p G.w) acc ((res.map jM).map λx=>(tx x.1,Value.bool x.2)):=J.lst;refine wpAny_dictSet_pairs (knd:=PySem.strKind G.p G.w) (k:=tx x) (by show Value.isStrOf (tx x) (.str (tx x) tu)=true;simp[Value.isStrOf]) el (λh' el' hs => ?_) (by rw[aW,aW];exact d9 hn);rw[stored_absent (by rw[oY,uQ hk];rfl)]at el';have k:∀b o,b≠acc->s.heap.get? b=some o->h'.get? b=some o:=λb o nb e=>(hs.2 b nb).trans e
 have S':cY G cv Y O0 ρ { s with heap:=h',toks:=s.toks+1 }:=J.sta.skip (Z:=λb=>b=acc) (λb h=>h▸C.hacc) (λb hb=>(C.own b hb).1) (λb o nz e=>k b o nz e) (λb hb=>by rw[hb];obtain⟨o,es,ep,g,_⟩:=el';exact⟨_,g⟩) (Nat.le_succ _);refine q _ ⟨?_,λb o n1 n2 n3 e=>k b o n1 (J.keep b o n1 n2 n3 e),λb o nw e => ?_,S', ?_,ah J.tk (Nat.le_succ _)⟩ ?_
 ·obtain⟨h,tk',e⟩:=J.same;rw[e];exact⟨h',_,rfl⟩
 ·obtain⟨o',e2⟩:=J.live b o nw e
  by_cases h:b=acc
  ·subst h;obtain⟨o,es,ep,g,_⟩:=el';exact⟨_,g⟩
  ·exact⟨o',k b o' h e2⟩
 ·show h'.DictOf (PySem.strKind G.p G.w) acc (((res++[V.tup [.str x, .bool b]]).map jM).map λx=>(tx x.1,Value.bool x.2))
  rw[List.map_append,List.map_append];exact el'
 ·exact C.it.frame _ _ _ st λb hb o e=>k b o (λh=>C.fpAcc (h▸hb)) e
end
end
section
open PySem PySem.W PySem.Calls PyProof.Rows
section
variable {dk:Bool} {G:Cfg} {A:Around} {cv:Env} {Y:Addr->Prop} {ρ ρ0:Rho} {t:Expr} {ns:List Nm} {it:Value} {acc:Addr} {fp wr:List Addr} {xs:List V} {St:Nat->Heap->Prop} {X0:Addr->Prop} {hp:Shared} {s0 s:Shared} {res:List V}
theorem td{xs:List V}{i:Nat}(h:i<xs.length):xs.drop i=xs.getD i .none::xs.drop (i+1):=by
 rw[List.drop_eq_getElem_cons h]
 congr 1
 simp[h]
theorem ke(f:V->Bool×Bool×R)(x:V)(xs:List V):bD f (x::xs)=((f x).1&&(bif (f x).2.1 then(f x).2.2.1 else true)&&(bD f xs).1,bif (f x).2.1 then(f x).2.2.2::(bD f xs).2 else(bD f xs).2):=rfl
noncomputable def GY(e:Expr)(d:Nat)(elt:Expr)(ifs:List Expr)(it ac:Value)(cv:Env):Sem Fin:=do
 let mut ok:=true
 for c in ifs do
  if ok then ok <-isTrue c cv (eval c cv)
 if ok then
  (do let _ <-call (.builtin "list.append") [ac,<-eval elt cv])
 again (.compLoop e d it ac cv)
theorem AM {κ:List (Str×NameKind)} (Fh:A.handled=none) (C:nI G A cv κ Y ρ0 t ns it acc fp wr xs St X0 hp s0) (J:JE dk G cv Y ns acc wr s0 ρ0 res s) {i:Nat} (hi:i<xs.length) (st:St i s.heap) (ok:(bU t (xs.getD i .none) ρ0).1=true)
 {E:Value->Shared->Prop} {T:Sem Fin} {P:Fin->Shared->Prop} (q:∀s',JE dk G cv Y ns acc wr s0 (bU t (xs.getD i .none) ρ0).2 res s'->St (i+1) s'.heap->wpAny (model G.p G.w) A T P E s'):
 wpAny (model G.p G.w) A (pyNext it) (λr s₁=>wpAny (model G.p G.w) A (match r with
  |none=>pure (.done .next)
  |some v=>(do
   letOwnedTupleGo t it v
   assign t cv v
   T)) P E s₁) E s:=
 bK (front Fh C J hi st ok q) (λr s1 h=>by
  obtain⟨v,rfl,h⟩:=h;exact ae (bK h (λ_ s2 h2=>ae h2) λ_ _ e=>e)) λ_ _ e=>e
theorem GZ {elt:Expr} {ifs:List Expr} {gens:List Comprehension} {scope:Scope} {pos p:Pos} {d:Nat} {E:Ev} {R:Result->Shared->Prop}
 (hT:compTurn (.ListComp elt gens scope pos) d it (.ref acc) cv=(do
   standAt p
   match <-pyNext it with
   |none=>pure (.done .next)
   |some v=>
    letOwnedTupleGo t it v
    assign t cv v
    GY (.ListComp elt gens scope pos) d elt ifs it (.ref acc) cv))
 (Fh:A.handled=none) (C:nI G A cv scope.names Y ρ0 t ns it acc fp wr xs St X0 hp s0) (GE:∀ρ,aL G A cv Y ρ (E scope.names ρ)) (GT:∀ρ,mU G A cv Y ρ (E scope.names ρ))
 (J:JE false G cv Y ns acc wr s0 ρ0 res s) (st:St 0 s.heap) (ok:(bD (gp E elt t ifs scope ρ0) xs).1=true) (hn:(res++(bD (gp E elt t ifs scope ρ0) xs).2).length<=cap) {Y1:Addr->Prop} (hY:∀b,Y1 b->Y b/\b∉wr)
 (q:∀s',JE false G cv Y1 ns acc wr s0 ρ0 (res++(bD (gp E elt t ifs scope ρ0) xs).2) s'->R (.ok .next) s'):
 codeAny (model G.p G.w) A (.compLoop (.ListComp elt gens scope pos) d it (.ref acc) cv) R s:=by
 refine codeAny_loop rfl (λk s'=>∃i re,k=xs.length-i/\i<=xs.length/\JE false G cv Y ns acc wr s0 ρ0 re s'/\St i s'.heap /\
  res++(bD (gp E elt t ifs scope ρ0) xs).2=re++(bD (gp E elt t ifs scope ρ0) (xs.drop i)).2/\(bD (gp E elt t ifs scope ρ0) (xs.drop i)).1=true) (λk s' hI => ?_) xs.length
  ⟨0,res,rfl,bw _,J,st,rfl,ok⟩
 obtain⟨i,re,rfl,hi,J',st',e1,e2⟩:=hI;show wpAny _ A ((compTurn (.ListComp elt gens scope pos) d it (.ref acc) cv).onRaise (λx=>do noteFrame x cv;theTreesLotGoes x)) _ _ s';refine wpAny_noted ?_;rw[hT];refine ae (dw (ae ?_))
 by_cases hlt:i<xs.length
 ·rw[td hlt]at e1 e2
  generalize hx:xs.getD i .none=x at e1 e2;rw[ke]at e1 e2;simp only[aK]at e2;obtain⟨⟨g1,g2⟩,g3⟩:=e2;unfold gp at g1;simp only[aK]at g1;obtain⟨o1,o2⟩:=g1;have g2':(bif (gK (E scope.names (bU t x ρ0).2) ifs).2 then(E scope.names (bU t x ρ0).2 elt).1 else true)=true:=g2;have e1':res++(bD (gp E elt t ifs scope ρ0) xs).2=re++(bif (gK (E scope.names (bU t x ρ0).2) ifs).2 then(E scope.names (bU t x ρ0).2 elt).2::(bD (gp E elt t ifs scope ρ0) (xs.drop (i+1))).2 else(bD (gp E elt t ifs scope ρ0) (xs.drop (i+1))).2):=e1;refine AM Fh C J' hlt st' (by rw[hx];exact o1) λs3 J3 st3 => ?_
  rw[hx]at J3;refine ae (uP (GT _) o2 O0 s3 J3.sta _ _ λs4 k4 => ?_);have J4:=J3.keeps k4;have st4:St (i+1) s4.heap:=C.it.frame _ _ _ st3 λb _ o e=>Kp.keep k4 b o e
  cases hc:(gK (E scope.names (bU t x ρ0).2) ifs).2 with
  |false=>
   rw[hc]at e1';simp only[cond_false]at e1';exact ar ⟨rfl,_,(by omega:xs.length-(i+1)<xs.length-i),i+1,re,rfl,hlt,J4.back C,st4,e1',g3⟩
  |true=>
   rw[hc]at e1' g2';simp only[cond_true]at e1' g2';refine ae (ae ((GE _).ok elt g2' O0 s4 J4.sta _ _ λu s5 k5 r5 => ?_));have J5:=J4.keeps k5;have st5:St (i+1) s5.heap:=C.it.frame _ _ _ st4 λb _ o e=>Kp.keep k5 b o e
   have hre:re.length<=cap:=by
    rw[e1']at hn;rw[bk]at hn;omega
   refine ae (GX C J5 r5 hre st5 λs6 J6 st6 _=>ar (ar ⟨rfl,_,(by omega:xs.length-(i+1)<xs.length-i),i+1,re++[(E scope.names (bU t x ρ0).2 elt).2],rfl,hlt,J6.back C,st6, ?_,g3⟩));rw[e1',co];rfl
 ·have hi':i=xs.length:=⋯
  subst hi';refine finish C J' st' hY λs2 J2=>ar (q s2 ?_)
  rw[List.drop_length]at e1;rw[e1];rw[show ∀(l:List V) f,l++(bD f []).2=l from λl f=>bY l];exact J2
theorem G0 {kx vx iter:Expr} {scope:Scope} {pos:Pos} {E:Ev} {R:Result->Shared->Prop}
 (Fh:A.handled=none) (C:nI G A cv scope.names Y ρ0 t ns it acc fp wr xs St X0 hp s0) (GE:∀ρ,aL G A cv Y ρ (E scope.names ρ))
 (J:JE true G cv Y ns acc wr s0 ρ0 res s) (st:St 0 s.heap) (ok:(bD (yG E kx vx t scope ρ0) xs).1=true) (hn:(res++(bD (yG E kx vx t scope ρ0) xs).2).length<=cap) (hnd:(((res++(bD (yG E kx vx t scope ρ0) xs).2).map jM).map Prod.fst).Nodup) {Y1:Addr->Prop} (hY:∀b,Y1 b->Y b/\b∉wr)
 (q:∀s',JE true G cv Y1 ns acc wr s0 ρ0 (res++(bD (yG E kx vx t scope ρ0) xs).2) s'->R (.ok .next) s'):
 codeAny (model G.p G.w) A (.compLoop (.DictComp kx vx [⟨t,iter,[],0⟩] scope pos) 0 it (.ref acc) cv) R s:=by
 refine codeAny_loop rfl (λk s'=>∃i re,k=xs.length-i/\i<=xs.length/\JE true G cv Y ns acc wr s0 ρ0 re s'/\St i s'.heap /\
  res++(bD (yG E kx vx t scope ρ0) xs).2=re++(bD (yG E kx vx t scope ρ0) (xs.drop i)).2/\(bD (yG E kx vx t scope ρ0) (xs.drop i)).1=true) (λk s' hI => ?_) xs.length
  ⟨0,res,rfl,bw _,J,st,rfl,ok⟩
 obtain⟨i,re,rfl,hi,J',st',e1,e2⟩:=hI;show wpAny _ A ((compTurn (.DictComp kx vx [⟨t,iter,[],0⟩] scope pos) 0 it (.ref acc) cv).onRaise (λx=>do noteFrame x cv;theTreesLotGoes x)) _ _ s';refine wpAny_noted ?_;rw[compTurn_dict];refine ae (dw (ae ?_))
 by_cases hlt:i<xs.length
 ·rw[td hlt]at e1 e2
  generalize hx:xs.getD i .none=x at e1 e2;rw[ke]at e1 e2;simp only[aK]at e2;obtain⟨⟨o1,g2⟩,g3⟩:=e2;have g2':((E scope.names (bU t x ρ0).2 kx).1&&(E scope.names (bU t x ρ0).2 vx).1&&(yE (E scope.names (bU t x ρ0).2 kx).2&&Gm (E scope.names (bU t x ρ0).2 vx).2))=true:=g2;simp only[aK]at g2';obtain⟨⟨ok1,ok2⟩,os,ob⟩:=g2';obtain⟨kk,hk⟩:∃kk,(E scope.names (bU t x ρ0).2 kx).2 = .str kk:=⟨_,(oh os).symm⟩;obtain⟨bb,hb⟩:∃bb,(E scope.names (bU t x ρ0).2 vx).2 = .bool bb:=⟨_,(wm ob).symm⟩;have e1':res++(bD (yG E kx vx t scope ρ0) xs).2=re++(.tup [(E scope.names (bU t x ρ0).2 kx).2,(E scope.names (bU t x ρ0).2 vx).2]::(bD (yG E kx vx t scope ρ0) (xs.drop (i+1))).2):=e1
  rw[hk,hb]at e1';refine AM Fh C J' hlt st' (by rw[hx];exact o1) λs3 J3 st3 => ?_
  rw[hx]at J3;refine ae (ar (ae (ae ((GE _).ok kx ok1 O0 s3 J3.sta _ _ λu s4 k4 r4=>ae (bQ ?_)))));have J4:=J3.keeps k4;have st4:St (i+1) s4.heap:=C.it.frame _ _ _ st3 λb _ o e=>Kp.keep k4 b o e
  refine(GE _).ok vx ok2 O0 s4 J4.sta _ _ λv s5 k5 r5=>ae (dw (bQ ?_))
  have J5:=J4.keeps k5;have st5:St (i+1) s5.heap:=C.it.frame _ _ _ st4 λb _ o e=>Kp.keep k5 b o e
  rw[hk]at r4;rw[hb]at r5;have hre:re.length<=cap:=by
   rw[e1']at hn;rw[bk]at hn;omega
  have hkn:kk∉(re.map jM).map Prod.fst:=by
   rw[e1']at hnd;simp only[List.map_append,aC]at hnd;have hnd:=(List.nodup_append.mp hnd).2.2;exact λh=>hnd kk h kk (aO ..) rfl
  refine E9 C J5 (r4.on (Kp.on k5)) r5 hkn hre st5 λs6 J6 st6=>ar ⟨rfl,_,(by omega:xs.length-(i+1)<xs.length-i),i+1,re++[.tup [.str kk, .bool bb]],rfl,hlt,J6.back C,st6, ?_,g3⟩
  rw[e1',co];rfl
 ·have hi':i=xs.length:=⋯
  subst hi';refine finish C J' st' hY λs2 J2=>ar (q s2 ?_)
  rw[List.drop_length]at e1;rw[e1];rw[show ∀(l:List V) f,l++(bD f []).2=l from λl f=>bY l];exact J2
theorem x6{κ:List (Str×NameKind)}{E:Expr->R}{X:Addr->Prop}{env:Env}(GE:aL G A env X ρ E){tt e:Expr}(ok:(ci κ E tt e).1=true)(x:Value):foldedSetIterable e env x=pure x:=by
 induction e using Expr.casesOn with
 |Set es k p=>
  have:(mO κ E tt (.Set es k p)).1=true:=ok;unfold mO at this;simp only[GE.noSet,Bool.false_and]at this;injections this
 |_=>rfl
theorem cY.more{env:Env}{X:Addr->Prop}{O:Nm->Option Addr}{h h':Shared}{Z:Addr->Prop}(S:cY G env X O ρ h)(kp:aM h h')(hz:∀b,Z b->h.heap.get? b=none/\∃o,h'.heap.get? b=some o):
 cY G env (λb=>X b\/Z b) O ρ h'/\On (am env X O) (am env (λb=>X b\/Z b) O) h h':=by
 have k:=Kp.keep kp;have full:∀b,am env (λb=>X b\/Z b) O b->am env X O b\/Z b:=λb fb=>by
  rcases fb with(f|f)|f|f
  ·exact .inl (.inl f)
  ·exact .inr f
  ·exact .inl (.inr (.inl f))
  ·exact .inl (.inr (.inr f))
 have on:On (am env X O) (am env (λb=>X b\/Z b) O) h h':=⟨λb o _ e=>k b o e,λb o e fb=>by
  rcases full b fb with f|f
  ·exact f
  ·rw[(hz b f).1]at e;(cases e),Kp.le kp⟩
 refine⟨⟨λb o e=>k b o (S.old b o e),λb fb => ?_,λb fb => ?_, ?_,S.inj,λx a e=>⟨λh => ?_,(S.apart x a e).2⟩,λch=>dy (S.pos ch) (Kp.le kp)⟩,on⟩
 ·rcases full b fb with f|f
  ·exact S.new b f
  ·cases e:G.h0.get? b with
   |none=>rfl
   |some o=>have:=S.old b o e;rw[(hz b f).1]at this;injections this
 ·rcases full b fb with f|f
  ·obtain⟨o,e⟩:=S.alive b f;exact⟨o,k b o e⟩
  ·exact(hz b f).2
 ·obtain⟨g,F,hg⟩:=S.look
  exact⟨g,F.keeps k,λx hx=>(hg x hx).on on λa _ o e=>k a o e⟩
 ·rcases h with h|h
  ·exact(S.apart x a e).1 h
  ·obtain⟨o,e'⟩:=S.alive a (.inr (.inr ⟨x,e⟩));rw[(hz a h).1]at e';cases e'
end
end
section
open PySem PySem.W PySem.Calls PyProof.Rows
section
variable {G:Cfg} {A:Around} {env:Env} {X:Addr->Prop} {κ:List (Str×NameKind)} {ρ:Rho} {O:Nm->Option Addr} {scope:Scope} {Φ:Fns}
theorem AN{t:Expr}{x:Nm}(h:x∈bh t):∃y:Str,x=nm y:=by
 induction t using Expr.casesOn with
 |Name y p=>exact⟨y,dS h⟩
 |Tuple ts k p=>
  obtain⟨e,_,he⟩:=List.mem_filterMap.mp h;exact EU he
 |_=>injections h
theorem te{t:Expr}(h:qD scope.names t=true)(x:Nm)(hx:x∈bh t):ag (kd scope.names x)=true/\lk (cK scope ρ) x = .un/\∀y:Str,x=nm y->(y,NameKind.free)∉scope.names\/¬j9 scope.names:=by
 have:=cq h x hx;obtain⟨y,rfl⟩:=AN hx;rw[bW]at this;rw[bW,pq];cases e:scope.names.lookup y with
 |none=>rw[e]at this;injections this
 |some k=>
  rw[e]at this;refine⟨?_, ?_,λz ez => ?_⟩
  ·induction k using NameKind.casesOn<;>first|rfl|injections this
  ·induction k using NameKind.casesOn<;>first|rfl|injections this
  ·by_cases ho:j9 scope.names
   ·left
    intro hm;rw[<-dB ez]at hm;have h2:=ho.lookup hm;rw[e]at h2;injection h2 with h2;subst h2;injections this
   ·exact .inr ho
theorem rC(Ok:jy κ scope)(hc:∀n,(n,NameKind.free)∈scope.names->∃c,env.cells.lookup n=some c){h:Heap}{t:Expr}(ho:qD scope.names t=true){x:Str}(hx:nm x∈bh t){b:Addr}(pl:gS (gU scope env h.objs.size) x b):h.objs.size<=b:=by
 rcases pl with⟨e,_⟩|⟨_,e⟩
 ·rw[e];exact aq _
 ·have m:=mem_of_lookup e
  have e1:h.objs.size+1=(h.push { cls := .type "dict",data := .dict #[] }).objs.size:=(Heap.size_push ..).symm
  change (x,b)∈cellsFrom (h.objs.size+1) scope.names (iy env scope.names [])at m
  rw[e1]at m
  rcases cN m with m|⟨_,m,_⟩
  ·rcases fG hc m with m|⟨m,_⟩
   ·cases m
   ·rcases(te (ρ:=[]) ho _ hx).2.2 x rfl with h'|h'
    ·exact absurd m h'
    ·exact absurd Ok.once h'
  ·rw[<-e1]at m;omega
theorem Db(hc:∀n,(n,NameKind.free)∈scope.names->∃c,env.cells.lookup n=some c){h:Heap}{Z:Addr->Prop}{b:Addr}(fb:am (gU scope env h.objs.size) (λb=>am env X O b\/Z b) O0 b):am env X O b\/Z b\/h.objs.size<=b:=by
 rcases fb with(fb|fb)|fb|⟨y,fb⟩
 ·exact .inl fb
 ·exact .inr (.inl fb)
 ·rcases mi hc fb with e|e|e
  ·exact .inr (.inr (by rw[e];exact aq _))
  ·exact .inr (.inr ⋯)
  ·exact .inl (.inr (.inl e))
 ·cases fb
structure Iq(dk:Bool)(G:Cfg)(P:Addr->Prop)(s:Shared)(res:List V)(acc C:Addr)(s':Shared):Prop where
 keeps:aM s s'
 dead:s.heap.get? acc=none
 loc:s.heap.get? C=none
 ne:C≠acc
 ns:∃m,s'.heap.Ns C m
 lst:kY G (λb=>P b\/(b=acc\/b=C)) s' acc dk res
theorem uR (Fa:aU G A Φ) (En:aw env κ) {E:Ev} (GE:∀κ env X ρ,aw env κ->aL G A env X ρ (E κ ρ)) {dk:Bool} {ob:Obj} (hfr:ob.isFreed=false) {mk:Sem Value} {e t iter:Expr} {ifs:List Expr} {rest:List Comprehension} {ns:List Nm} {res:List V} (hcl:clausesOf e=⟨t,iter,ifs,0⟩::rest)
 (hmk:∀(E':Value->Shared->Prop) (Q:Value->Shared->Prop) (s:Shared),Q (.ref s.heap.objs.size) { s with heap:=s.heap.push ob }->wpAny (model G.p G.w) A mk Q E' s)
 (hob:∀P (s:Shared) acc,s.heap.get? acc=some ob->kY G P s acc dk [])
 (hst:∀(it acc:Value) (cv:Env) (R:Result->Shared->Prop) (s:Shared),codeAny (model G.p G.w) A (.compLoop e 0 it acc cv) R s->wpAny (model G.p G.w) A (pyIter it) (λit' s'=>codeAny (model G.p G.w) A (.compLoop e 0 it' acc cv) R s') (notedBy (model G.p G.w) A cv λx s'=>R (.error x) s') s->codeAny (model G.p G.w) A (.compStart e 0 it acc cv) R s)
 (Ok:jy κ scope) (ow:qD scope.names t=true) (hns:∀x∈bh t,x∈ns) (hnew:∀(h:Heap) (x:Str) (b:Addr),nm x∈ns->gS (gU scope env h.objs.size) x b->(∀n,(n,NameKind.free)∈scope.names->∃c,env.cells.lookup n=some c)->h.objs.size<=b)
 (oi:(ci κ (E κ ρ) t iter).1=true)
 (lp:∀(cv:Env) (Y Y1:Addr->Prop) (it:Value) (acc:Addr) (fp wr:List Addr) (St:Nat->Heap->Prop) (X0:Addr->Prop) (hp:Shared) (s4:Shared),
   nI G A cv scope.names Y (cK scope ρ) t ns it acc fp wr (ci κ (E κ ρ) t iter).2 St X0 hp s4->JE dk G cv Y ns acc wr s4 (cK scope ρ) [] s4->St 0 s4.heap->(∀b,Y1 b->Y b/\b∉wr) ->
   ∀R:Result->Shared->Prop,(∀s',JE dk G cv Y1 ns acc wr s4 (cK scope ρ) res s'->R (.ok .next) s')->codeAny (model G.p G.w) A (.compLoop e 0 it (.ref acc) cv) R s4)
 {s:Shared} (S:cY G env X O ρ s) {use:Option (Value->Sem Unit)} {E':Value->Shared->Prop} {Q:Value->Shared->Prop} {pp:Pos}
 (q:∀acc C s',Iq dk G (am env X O) s res acc C s'->compPost (model G.p G.w) A E' use Q (.ref acc) C (.ok .next) s'):
 wpAny (model G.p G.w) A (comprehension e scope env pp mk false (eval iter env) use) Q E' s:=by
 obtain⟨g,F,hg⟩:=S.look;have hc':=pu Ok En F;have hc:∀n,(n,NameKind.free)∈scope.names->∃c,env.cells.lookup n=some c:=λn hn=>let⟨c,e,_⟩:=hc' n hn;⟨c,e⟩
 refine wpAny_comprehension_free (g:=⟨t,iter,ifs,0⟩) (gs:=rest) hcl (x6 (GE _ _ X _ En) oi) (wK hc) Ok.kind (λx hx hl=>Ok.once.lookup (by rw[<-hl];exact hx)) ?_;refine x4 (t:=t) Fa En (GE _ _ _ _ En) oi O s S _ _ λit s2 k2 I2 => ?_
 obtain⟨s1,fp,wr,St,k1,k12,I,st2,nfp,nwr⟩:=I2;have live2:=I.live _ _ st2;refine hmk _ _ _ ?_;generalize hs3:({ s2 with heap:=s2.heap.push ob }:Shared)=s3;have h3:s3.heap=s2.heap.push ob:=by rw[<-hs3]
 have sz3:s3.heap.objs.size=s2.heap.objs.size+1:=by rw[h3,Heap.size_push]
 have k23:∀b o,s2.heap.get? b=some o->s3.heap.get? b=some o:=λb o e=>by rw[h3];exact gG _ e
 have acc3:s3.heap.get? s2.heap.objs.size=some ob:=by rw[h3];exact di _ hfr
 have ks3:∀b o,s.heap.get? b=some o->s3.heap.get? b=some o:=λb o e=>k23 b o (Kp.keep k2 b o e)
 refine uO ?_;have wrLt:∀b∈wr,b<s2.heap.objs.size:=λb hb=>by obtain⟨o,e⟩:=live2 b (I.sub b hb);exact Heap.lt_size e
 have fpLt:∀b∈fp,b<s2.heap.objs.size:=λb hb=>by obtain⟨o,e⟩:=live2 b hb;exact Heap.lt_size e
 have hz:∀b,(b∈wr\/b=s2.heap.objs.size)->s.heap.get? b=none/\∃o,s3.heap.get? b=some o:=λb hb=>by
  rcases hb with hb|hb
  ·refine⟨?_, ?_⟩
   ·cases e:s.heap.get? b with
    |none=>rfl
    |some o=>have:=Kp.keep k1 b o e;rw[nwr b hb]at this;injections this
   ·obtain⟨o,e⟩:=live2 b (I.sub b hb);exact⟨o,k23 b o e⟩
  ·rw[hb]
   refine⟨?_,_,acc3⟩;cases e:s.heap.get? s2.heap.objs.size with
   |none=>rfl
   |some o=>exact absurd (Heap.lt_size (Kp.keep k2 _ o e)) (dl _)
 generalize hs4:({ s3 with heap:=pushCells (s3.heap.push { cls := .type "dict",data := .dict #[] }) scope.names }:Shared)=s4;have h4:s4.heap=pushCells (s3.heap.push { cls := .type "dict",data := .dict #[] }) scope.names:=by rw[<-hs4]
 have t4:s2.toks=s4.toks:=by rw[<-hs4,<-hs3]
 have S4:=E7 Ok En h4 (t4▸Kp.le k2) S ks3 (Z:=λb=>b∈wr\/b=s2.heap.objs.size) hz;have k34:∀b o,s3.heap.get? b=some o->s4.heap.get? b=some o:=λb o e=>by rw[h4];exact pushCells_keeps _ _ _ _ (gG _ e)
 have k14:∀b o,s1.heap.get? b=some o->s4.heap.get? b=some o:=λb o e=>k34 b o (k23 b o (Kp.keep k12 b o e))
 have same4:∃h tk,s4={ s with heap:=h,toks:=tk }:=by
  obtain⟨h2,t2,e2,_⟩:=k2;refine⟨s4.heap,t2, ?_⟩;rw[<-hs4,<-hs3,e2]
 have aboveDead1:∀b,s2.heap.objs.size<=b->s1.heap.get? b=none:=λb hb=>by
  cases e:s1.heap.get? b with
  |none=>rfl
  |some o=>exact absurd (Heap.lt_size (Kp.keep k12 b o e)) (Nat.not_lt.mpr hb)
 have accwr:s2.heap.objs.size∉wr:=λh=>dl _ (wrLt _ h)
 have st4:St 0 s4.heap:=I.frame _ _ _ st2 λb _ o e=>k34 b o (k23 b o e)
 have C4:nI G A (gU scope env s3.heap.objs.size) scope.names (λb=>am env X O b\/(b∈wr\/b=s2.heap.objs.size)) (cK scope ρ) t ns it s2.heap.objs.size fp wr (ci κ (E κ ρ) t iter).2 St (am env X O) s1 s4:=
  { env:=uN Ok En _
    tg:=λx hx=>⟨hns x hx,(te (ρ:=ρ) ow x hx).1,(te (ρ:=ρ) ow x hx).2.1⟩
    it:=I
    hwr:=λb hb => .inr (.inl hb)
    hacc := .inr (.inr rfl)
    own:=λb hb=>by
     rcases mi hc hb with e|e|e
     ·rw[e,sz3];exact⟨Nat.succ_ne_self _,λh=>dl _ (Nat.lt_trans (Nat.lt_succ_self _) (wrLt _ h))⟩
     ·rw[sz3]at e
      have e' : @LE.le Nat _ (s2.heap.objs.size+1+1) b:=e;refine⟨λh => ?_,λh => ?_⟩
      ·have h : @Eq Nat b s2.heap.objs.size:=h
       omega
      ·have h : @LT.lt Nat _ b s2.heap.objs.size:=wrLt _ h
       omega
     ·obtain⟨o,e'⟩:=S.alive b (.inr (.inl e))
      refine⟨λh => ?_,λh => ?_⟩
      ·exact absurd (h▸Heap.lt_size (Kp.keep k2 b o e')) (dl _)
      ·have:=Kp.keep k1 b o e';rw[nwr b h]at this;injections this
    fpAcc:=λh=>dl _ (fpLt _ h)
    fpPl:=λx hx b hb pl=>by
     have h1:=hnew s3.heap x b hx pl hc;have h2 : @LT.lt Nat _ b s2.heap.objs.size:=fpLt b hb;rw[sz3]at h1;have h1 : @LE.le Nat _ (s2.heap.objs.size+1) b:=h1
     omega
    on:=⟨λb o _ e=>k14 b o e,λb o e fb=>by
     rcases Db hc fb with f|(f|f)|f
     ·exact f
     ·rw[nwr b f]at e;injections e
     ·rw[aboveDead1 b (by rw[f];exact aq _)]at e;injections e
     ·rw[aboveDead1 b (by rw[sz3]at f;exact Nat.le_of_succ_le f)]at e;(cases e),t4▸Kp.le k12⟩ }
 have J4:JE dk G (gU scope env s3.heap.objs.size) (λb=>am env X O b\/(b∈wr\/b=s2.heap.objs.size)) ns s2.heap.objs.size wr s4 (cK scope ρ) [] s4:=
  ⟨⟨s4.heap,s4.toks,rfl⟩,λb o _ _ _ e=>e,λb o _ e=>⟨o,e⟩,S4,hob _ _ _ (k34 _ _ acc3),aq _⟩
 have hY1:∀b,(am env X O b\/b=s2.heap.objs.size)->(am env X O b\/(b∈wr\/b=s2.heap.objs.size))/\b∉wr:=λb hb=>by
  rcases hb with hb|hb
  ·refine⟨.inl hb,λh => ?_⟩
   obtain⟨o,e⟩:=S.alive b hb;have:=Kp.keep k1 b o e;rw[nwr b h]at this;injections this
  ·exact⟨.inr (.inr hb),by rw[hb];exact accwr⟩
 have loop:codeAny (model G.p G.w) A (.compLoop e 0 it (.ref s2.heap.objs.size) (gU scope env s3.heap.objs.size)) (compPost (model G.p G.w) A E' use Q (.ref s2.heap.objs.size) s3.heap.objs.size) s4:=by
  refine lp _ _ (λb=>am env X O b\/b=s2.heap.objs.size) it _ fp wr St _ _ s4 C4 J4 st4 hY1 _ λs5 J5=>q _ _ s5 ⟨?_, ?_, ?_, ?_, ?_, ?_⟩
  ·obtain⟨h4',t4',e4⟩:=same4
   obtain⟨h5',t5',e5⟩:=J5.same;have le5:s.toks<=t5':=by
    have h5:s5.toks=t5':=by rw[e5]
    exact h5▸ah (t4▸Kp.le k2) J5.tk
   refine⟨s5.heap,t5',by rw[e5,e4],λb o e => ?_,le5⟩;have e3:=ks3 b o e;have lt2:b<s2.heap.objs.size:=Heap.lt_size (Kp.keep k2 b o e);refine J5.keep b o (Nat.ne_of_lt lt2) (λh => ?_) (λx hx pl => ?_) (k34 b o e3)
   ·have:=Kp.keep k1 b o e;rw[nwr b h]at this;injections this
   ·have h1:=hnew s3.heap x b hx pl hc
    rw[sz3]at h1;exact dl _ (Nat.lt_trans lt2 h1)
  ·exact(hz _ (.inr rfl)).1
  ·cases e:s.heap.get? s3.heap.objs.size with
   |none=>rfl
   |some o=>exact absurd (Heap.lt_size (ks3 _ o e)) (dl _)
  ·rw[sz3];exact Nat.succ_ne_self _
  ·obtain⟨g5,F5,_⟩:=J5.sta.look
   obtain⟨m,hm,_⟩:=F5.ns;exact⟨m,hm⟩
  ·refine J5.lst.on ⟨λb o nb e=>e,λb o e fb => ?_,aq _⟩ λo e=>e
   rcases fb with f|f|f
   ·exact .inl (.inl f)
   ·exact .inl (.inr f)
   ·exact .inr (.inl (.inl f))
 exact hst _ _ _ _ _ loop (I.self 0 s4 _ _ st4 loop)
theorem mj(f:V->Bool×Bool×R):∀l:List V,(bD f l).2.length<=l.length
 |[]=>aq _
 |x::l=>by
  have ih:=mj f l;rw[ke];cases(f x).2.1 with
  |true=>show((f x).2.2.2::(bD f l).2).length<=_;simp only[aP];omega
  |false=>show(bD f l).2.length<=_;simp only[aP];omega
theorem x7{a b c d e f:Bool}(h:(a&&b&&c&&d&&e&&f)=true):a=true/\b=true/\c=true/\d=true/\e=true/\f=true:=by
 have h5:=bc h;have h4:=bc h5.1;have h3:=bc h4.1;have h2:=bc h3.1;exact⟨(bc h2.1).1,(bc h2.1).2,h2.2,h3.2,h4.2,h5.2⟩
noncomputable def x8(G:Cfg)(A:Around)(env:Env)(X:Addr->Prop)(O:Nm->Option Addr)(s:Shared)(dk:Bool)(res:List V)(t:Option (Value->Sem Unit)->Sem Value):Prop:=
 ∀(use:Option (Value->Sem Unit)) (E':Value->Shared->Prop) (Q:Value->Shared->Prop),(∀acc C s',Iq dk G (am env X O) s res acc C s'->compPost (model G.p G.w) A E' use Q (.ref acc) C (.ok .next) s')->wpAny (model G.p G.w) A (t use) Q E' s
theorem rD (Fa:aU G A Φ) (En:aw env κ) {E:Ev} (GE:∀κ env X ρ,aw env κ->aL G A env X ρ (E κ ρ)) (GT:∀κ env X ρ,aw env κ->mU G A env X ρ (E κ ρ)) {elt:Expr} {gs:List Comprehension} {pos:Pos}
 (ok:(oD E κ ρ elt gs scope).1=true) {s:Shared} (S:cY G env X O ρ s):
 ∃res,(oD E κ ρ elt gs scope).2=wM false res/\x8 G A env X O s false res λuse=>comprehension (.ListComp elt gs scope pos) scope env (firstIterPos gs pos) (newList []) (firstAsync gs) (firstIter gs env) use:=by
 induction gs using List.casesOn with
 |nil=>exact aa ok
 |cons g gs=>induction gs using List.casesOn with
 |cons=>exact aa ok
 |nil=>
  obtain⟨t,it,ifs,n⟩:=g;obtain⟨o0,o1,o2,o3,o4,o5⟩:=x7 ok;have o5:=aY o5;obtain rfl:=aY o0;refine⟨_,rfl,λuse E' Q q => ?_⟩;have Ok:=po o1;refine uR (dk:=false) (ob:={ cls := .type "list",data := .seq ([]:List Value).toArray }) (ns:=bh t) (rest:=[]) Fa En GE rfl rfl (λE' Q s h=>wpAny_newList h (bw _)) (λP s acc h=>⟨_,_,h,Reps.nil⟩) (λ_ _ _ _ _ a b=>codeAny_compStart_list a b) Ok o2 (λ_ h=>h) (λh x b hx pl hc=>rC Ok hc o2 hx pl) o3 (λcv Y Y1 it' acc fp wr St X0 hp s4 C J st hY R qR => ?_) S q;refine GZ (compTurn_list elt t it ifs scope pos it' (.ref acc) cv) Fa.none C (λρ'=>GE _ _ _ _ C.env) (λρ'=>GT _ _ _ _ C.env) J st o4 ?_ hY (λs' J'=>qR s' (by simpa using J'))
  rw[List.nil_append];exact ah (mj _ _) o5
theorem rE (Fa:aU G A Φ) (En:aw env κ) {E:Ev} (GE:∀κ env X ρ,aw env κ->aL G A env X ρ (E κ ρ)) {kx vx:Expr} {gs:List Comprehension} {pos:Pos}
 (ok:(oE E κ ρ kx vx gs scope).1=true) {s:Shared} (S:cY G env X O ρ s):
 ∃res,(oE E κ ρ kx vx gs scope).2=wM true res/\x8 G A env X O s true res λuse=>comprehension (.DictComp kx vx gs scope pos) scope env (firstIterPos gs pos) newDict (firstAsync gs) (firstIter gs env) use:=by
 induction gs using List.casesOn with
 |nil=>exact aa ok
 |cons g gs=>induction gs using List.casesOn with
 |cons=>exact aa ok
 |nil=>
  obtain⟨t,it,ifs,n⟩:=g;obtain⟨o0,o1,o2,o3,o4,o5⟩:=x7 ok;have o5:=aY o5;obtain rfl:=aY o0;have o6:=bc o4;obtain rfl:=List.isEmpty_iff.mp (bc o6.1).1;have o4:=(bc o6.1).2;have o6:=nodup_iff.mp o6.2;refine⟨_,rfl,λuse E' Q q => ?_⟩;have Ok:=po o1;refine uR (dk:=true) (ob:={ cls := .type "dict",dict:=none,data := .dict #[] }) (ns:=bh t) (rest:=[]) Fa En GE rfl rfl (λE' Q s h=>wpAny_newObj_type h) (λP s acc h=>⟨_, #[],0,h,⟨rfl,rfl,rfl⟩,rfl,λ_ he=>(Array.not_mem_empty _ he).elim,Pairs.nil,List.nodup_nil⟩) (λ_ _ _ _ _ a b=>codeAny_compStart_dict a b) Ok o2 (λ_ h=>h) (λh x b hx pl hc=>rC Ok hc o2 hx pl) o3 (λcv Y Y1 it' acc fp wr St X0 hp s4 C J st hY R qR => ?_) S q
  refine G0 Fa.none C (λρ'=>GE _ _ _ _ C.env) J st o4 ?_ (by rw[List.nil_append];exact o6) hY (λs' J'=>qR s' (by simpa using J'));rw[List.nil_append];exact ah (mj _ _) o5
theorem rF{s:Shared}(S:cY G env X O ρ s){dk:Bool}{res:List V}{t:Option (Value->Sem Unit)->Sem Value}(run:x8 G A env X O s dk res t){E':Value->Shared->Prop}{Q:Value->Shared->Prop}(q:∀u s',aM s s'->ak G (am env X O) s' (wM dk res) u->Q u s'):wpAny (model G.p G.w) A (t none) Q E' s:=by
 refine run none E' Q λacc C s' Rn => ?_
 refine⟨_,Rn.ns.choose_spec,λh' hs => ?_⟩;have k':∀b o,b≠C->s'.heap.get? b=some o->h'.get? b=some o:=λb o n e=>(hs.2 b n).trans e
 obtain⟨hh,tk,e',kk,le⟩:=Rn.keeps;have lst:=Rn.lst;subst e';refine q _ _ ⟨h',tk,rfl,λb o e=>k' b o (λh => ?_) (kk b o e),le⟩ (kY.rep ⟨λb o nb e=>k' b o (λh=>nb (.inr (.inr h))) e,λb o e fb => .inl fb,aq tk⟩ (λo e=>k' _ _ Rn.ne.symm e) (λfa => ?_) lst)
 ·rw[h,Rn.loc]at e;injections e
 ·obtain⟨o,e⟩:=S.alive acc fa;rw[Rn.dead]at e;injections e
theorem uS (Fa:aU G A Φ) (En:aw env κ) {E:Ev} (GE:∀κ env X ρ,aw env κ->aL G A env X ρ (E κ ρ)) (GT:∀κ env X ρ,aw env κ->mU G A env X ρ (E κ ρ)) {elt:Expr} {gs:List Comprehension} {pos:Pos}
 (ok:(oD E κ ρ elt gs scope).1=true):ia G A env X ρ (eval (.ListComp elt gs scope pos) env) (oD E κ ρ elt gs scope).2:=by
 intro O s S E' Q q;rw[arm_eval_ListComp];obtain⟨res,e,run⟩:=rD (pos:=pos) Fa En GE GT ok S;rw[e]at q;exact rF S run q
theorem uT (Fa:aU G A Φ) (En:aw env κ) {E:Ev} (GE:∀κ env X ρ,aw env κ->aL G A env X ρ (E κ ρ)) {kx vx:Expr} {gs:List Comprehension} {pos:Pos}
 (ok:(oE E κ ρ kx vx gs scope).1=true):ia G A env X ρ (eval (.DictComp kx vx gs scope pos) env) (oE E κ ρ kx vx gs scope).2:=by
 intro O s S E' Q q;rw[arm_eval_DictComp];obtain⟨res,e,run⟩:=rE (pos:=pos) Fa En GE ok S;rw[e]at q;exact rF S run q
end
end
section
open PySem PySem.W PySem.Calls PyProof.Rows
section
variable {G:Cfg} {A:Around} {env:Env} {X:Addr->Prop} {κ:List (Str×NameKind)} {ρ:Rho} {Φ:Fns}
theorem uU(Fa:aU G A Φ){E:Expr->R}(GE:aL G A env X ρ E){a:Expr}{ops:List CmpOp}{bs:List Expr}{pos:Pos}(ok:(xJ E a ops bs).1=true):
 ia G A env X ρ (eval (.Compare a ops bs pos) env) (xJ E a ops bs).2/\∀m,Er G A env X ρ (isTrue (.Compare a ops bs pos) env m) (ad (xJ E a ops bs).2).2:=by
 induction ops using List.casesOn with
 |nil=>exact aa ok
 |cons op ops=>induction ops using List.casesOn with
  |nil=>induction bs using List.casesOn with
   |nil=>exact aa ok
   |cons b bs=>induction bs using List.casesOn with
    |nil=>exact⟨C3 Fa GE ok,λm=>yO Fa GE ok⟩
    |cons _ _=>exact aa ok
  |cons op' ops=>induction ops using List.casesOn with
   |cons _ _=>exact aa ok
   |nil=>induction bs using List.casesOn with
    |nil=>exact aa ok
    |cons b bs=>induction bs using List.casesOn with
     |nil=>exact aa ok
     |cons c bs=>induction bs using List.casesOn with
      |nil=>exact⟨C5 Fa GE ok,λm=>yP Fa GE ok⟩
      |cons _ _=>exact aa ok
theorem Fb(Fa:aU G A Φ)(En:aw env κ){E:Ev}{τ:Tau}(GE:aL G A env X ρ (E κ ρ)){o i:Expr}{pos:Pos}(ok:(xK E τ κ ρ o i).1=true):
 ia G A env X ρ (eval (.Subscript o i pos) env) (xK E τ κ ρ o i).2:=by
 induction i using Expr.casesOn with
 |Slice lo hi st p=>exact AB GE ok
 |_=>exact C6 Fa En GE ok
theorem kZ{as bs:List Expr}(h:kN as=some bs):∃p q,as=[.Call (.Name "range" p) bs [] q]:=by
 induction as using List.casesOn with
 |nil=>exact aD h
 |cons a r=>induction r using List.casesOn with
  |nil=>
   have h:xG (hU a)=some bs:=h;generalize e:hU a=o at h
   induction o using Option.casesOn with
   |none=>exact aD h
   |some x=>
    obtain⟨p,q,rfl⟩:=iW e;have h:(bif ab (nm x.1) (nm "range")then some x.2 else none)=some bs:=h;generalize c:ab (nm x.1) (nm "range")=b at h
    induction b using Bool.casesOn with
    |true=>rw[<-bR h,iU c];exact⟨p,q,rfl⟩
    |false=>exact aD h
  |cons _ _=>exact aD h
theorem yW (Fa:aU G A Φ) (En:aw env κ) {E:Ev} (GE:aL G A env X ρ (E κ ρ)) {f:Str} {p:Pos} {as:List Expr} {pos:Pos} {o:Option (List Expr)} (ho:(bif ab (nm f) (nm "list")then kN as else none)=o)
 (ok:(nN o (cL (E κ ρ) κ (nm f) (nm "range")) (gq Φ (E κ ρ) κ (nm f) as)).1=true):
 ia G A env X ρ (eval (.Call (.Name f p) as [] pos) env) (nN o (cL (E κ ρ) κ (nm f) (nm "range")) (gq Φ (E κ ρ) κ (nm f) as)).2:=by
 induction o using Option.casesOn with
 |none=>exact AD Fa En GE ok
 |some bs=>
  generalize c:ab (nm f) (nm "list")=b at ho
  induction b using Bool.casesOn with
  |false=>exact aD ho
  |true=>
   have ef:=iU c;obtain⟨p',q,rfl⟩:=kZ ho;subst ef;exact s9 Fa En GE ok
theorem Dc(Fa:aU G A Φ)(En:aw env κ){E:Ev}(GE:aL G A env X ρ (E κ ρ)){f:Expr}{as:List Expr}{pos:Pos}(ok:(lZ Φ E κ ρ f as pos).1=true):
 ia G A env X ρ (eval (.Call f as [] pos) env) (lZ Φ E κ ρ f as pos).2:=by
 induction f using Expr.casesOn with
 |Attribute o m q=>
  unfold lZ at ok |-;dsimp only at ok |-;generalize h:(q.endLine==pos.line&&decide (as.length<30))=b at ok |-
  induction b using Bool.casesOn with
  |true=>
   have h:=bc h;have ok:(bif ab (nm m) (nm "replace")then oG (E κ ρ) (ay (kd κ (nm "chr"))) o as else f9 Φ (E κ ρ) o (nm m) as:R).1=true:=ok;show ia G A env X ρ _ (bif ab (nm m) (nm "replace")then oG (E κ ρ) (ay (kd κ (nm "chr"))) o as else f9 Φ (E κ ρ) o (nm m) as:R).2;generalize c:ab (nm m) (nm "replace")=b at ok |-
   induction b using Bool.casesOn with
   |true=>
    have em:=iU c;subst em;exact C7 GE (λe=>(En.glob "chr").trans e) (eq_of_beq h.1) ok
   |false=>exact C8 Fa GE (eq_of_beq h.1) (aY h.2) ok
  |false=>exact aa ok
 |Name f p=>
  unfold lZ at ok |-;dsimp only at ok |-;generalize c1:ab (nm f) (nm "len")=b at ok |-
  induction b using Bool.casesOn with
  |true=>
   have ef:=iU c1;subst ef
   induction as using List.casesOn with
   |nil=>exact aa ok
   |cons a r=>induction r using List.casesOn with
    |nil=>exact E4 Fa En GE ok
    |cons _ _=>exact aa ok
  |false=>exact yW Fa En GE rfl ok
 |_=>exact aa ok
theorem rG{v:V}{e:Expr}(h:∀m:Sem Value,isTrue e env m=(do let v <-m;standAt e.pos;holding [v] (truthy v)))(r:ia G A env X ρ (eval e env) v)(tr:(ad v).1=true):Er G A env X ρ (isTrue e env (eval e env)) (ad v).2:=by
 intro O s S E Q q;rw[h];exact ae (r O s S _ _ λu s1 k1 r1=>ae (dw (bQ (md tr r1 λs2 k2=>q s2 (Kp.trans k1 k2)))))
theorem gV(Fa:aU G A Φ)(τ:Tau):∀(n:Nat) (κ:List (Str×NameKind)) (env:Env) (X:Addr->Prop) (ρ:Rho),aw env κ->aL G A env X ρ (ev Φ τ n κ ρ)/\mU G A env X ρ (ev Φ τ n κ ρ)
 |0,κ,env,X,ρ,En=>⟨⟨λe ok=>absurd ok Bool.false_ne_true,λ_ _ _=>rfl,λ_ _=>rfl⟩,⟨λe ok=>absurd ok Bool.false_ne_true⟩⟩
 |n+1,κ,env,X,ρ,En=>by
  have ih:=gV Fa τ n;have GE:=λκ env X ρ h=>(ih κ env X ρ h).1
  have GT:=λκ env X ρ h=>(ih κ env X ρ h).2
  have ge:=GE κ env X ρ En;have gt:=GT κ env X ρ En;have main:∀e,(ev Φ τ (n+1) κ ρ e).1=true->ia G A env X ρ (eval e env) (ev Φ τ (n+1) κ ρ e).2:=by
   intro e ok
   induction e using Expr.casesOn with
   |Constant c k p=>exact Aw ok
   |Name x p=>exact GR Fa En ok
   |BinOp a op b p=>exact Ax Fa En ge ok
   |BoolOp op es p=>induction op using BoolOp.casesOn with
    |And=>exact Ay ge p ok
    |Or=>exact Es ge p ok
   |UnaryOp op a p=>exact CS ge ok
   |IfExp t a b p=>exact CU ge gt ok
   |Compare a ops bs p=>exact(uU Fa ge ok).1
   |Subscript o i p=>exact Fb Fa En ge ok
   |Attribute o a p=>exact AC Fa ge ok
   |List es p=>exact CT ge ok
   |Tuple es k p=>exact E3 ge ok
   |ListComp elt gs scope p=>exact uS Fa En GE GT ok
   |DictComp kx vx gs scope p=>exact uT Fa En GE ok
   |Call f as kw p=>induction kw using List.casesOn with
    |nil=>exact Dc Fa En ge ok
    |cons k kw=>injections ok
   |_=>injections ok
  refine⟨⟨main,λ_ _ _=>rfl,λ_ _=>rfl⟩,⟨λe ok tr => ?_⟩⟩
  induction e using Expr.casesOn with
  |UnaryOp op a p=>induction op using UnaryOp.casesOn with
   |Not=>
    have ok':((ev Φ τ n κ ρ a).1&&(ad (ev Φ τ n κ ρ a).2).1)=true:=ok;rw[aK]at ok';intro O s S E Q q;rw[arm_isTrue_UnaryOp];exact ae (gt.ok a ok'.1 ok'.2 O s S _ _ λs1 k1=>ar (q s1 k1))
   |_=>exact rG (λ_=>rfl) (main _ ok) tr
  |BoolOp op es p=>induction op using BoolOp.casesOn with
   |And=>exact xY gt ok tr
   |Or=>exact Az gt ok tr
  |IfExp t a b p=>
   have ok':(nE (ev Φ τ n κ ρ) t a b).1=true:=ok;have tr':(ad (nE (ev Φ τ n κ ρ) t a b).2).1=true:=tr;show Er G A env X ρ _ (ad (nE (ev Φ τ n κ ρ) t a b).2).2;unfold nE at ok' tr' |-;simp only[aK]at ok';simp only[cH]at tr' |-;obtain⟨⟨o1,o2⟩,o3⟩:=ok';intro O s S E Q q;rw[arm_isTrue_IfExp];refine ae (gt.ok t o1 o2 O s S _ _ λs1 k1 => ?_);cases c:(ad (ev Φ τ n κ ρ t).2).2 with
   |true=>
    rw[c]at o3 q tr';simp only[cond_true,mK]at o3 q tr';exact gt.ok a o3 tr' O s1 (S.keeps k1) _ _ λs2 k2=>q s2 (Kp.trans k1 k2)
   |false=>
    rw[c]at o3 q tr';simp only[cond_false,mK]at o3 q tr';exact gt.ok b o3 tr' O s1 (S.keeps k1) _ _ λs2 k2=>q s2 (Kp.trans k1 k2)
  |Compare a ops bs p=>exact(uU Fa ge ok).2 _
  |_=>exact rG (λ_=>rfl) (main _ ok) tr
end
end
section
open PySem PySem.W PySem.Calls PyProof.Rows
noncomputable def kf(t s:Mine.Slot):Prop:=t = .un\/t=s\/∃l,s = .own l/\t = .val (.list l)
noncomputable def x9:Mine.Slot->Bool
 | .own _=>true
 |_=>false
noncomputable abbrev pv:Addr->Prop:=λ_=>False
noncomputable def Mv(env:Env)(O O':Nm->Option Addr)(s s':Shared):Prop:=∃h tk,s'={ s with heap:=h,toks:=tk }/\On (am env pv O) (am env pv O') s s'
section
variable {G:Cfg} {A:Around} {env:Env} {X:Addr->Prop} {κ:List (Str×NameKind)} {ρ ρ':Rho} {O:Nm->Option Addr} {Φ:Fns}
theorem Mv.refl(s:Shared):Mv env O O s s:=⟨s.heap,s.toks,rfl,λ_ _ _ e=>e,λ_ _ _ f=>f,aq _⟩
theorem Mv.trans{O' O'':Nm->Option Addr}{a b c:Shared}(x:Mv env O O' a b)(y:Mv env O' O'' b c):Mv env O O'' a c:=by
 obtain⟨h,t,rfl,k⟩:=x;obtain⟨h',t',rfl,k'⟩:=y;exact⟨h',t',rfl,k.trans k'⟩
theorem Mv.of_keeps{s s':Shared}(k:aM s s'):Mv env O O s s':=by
 obtain⟨h,t,rfl,k,l⟩:=k;exact⟨h,t,rfl,λb o _ e=>k b o e,λ_ _ _ f=>f,l⟩
theorem cY.coarse{h:Shared}(S:cY G env X O ρ h)(w:∀x,kf (lk ρ' x) (lk ρ x)):
 ∃O',cY G env X O' ρ' h/\∀P b,am env P O' b->am env P O b:=by
 refine⟨λy=>if x9 (lk ρ' y)=true then O y else none, ?_⟩;have sub:∀P b,am env P (λy=>if x9 (lk ρ' y)=true then O y else none) b->am env P O b:=λP b fb=>by
  rcases fb with f|f|⟨y,f⟩
  ·exact .inl f
  ·exact .inr (.inl f)
  ·dsimp only at f
   split at f
   ·exact .inr (.inr ⟨y,f⟩)
   ·cases f
 have on:On (am env X O) (am env X (λy=>if x9 (lk ρ' y)=true then O y else none)) h h:=⟨λ_ _ _ e=>e,λb o _ f=>sub X b f,aq _⟩;refine⟨⟨S.old,λb f=>S.new b (sub X b f),λb f=>S.alive b (sub X b f), ?_,λx y a e e' => ?_,λx a e => ?_,S.pos⟩,sub⟩
 ·obtain⟨g,F,hg⟩:=S.look
  refine⟨g,F,λx hx => ?_⟩;have hs:=hg x hx
  rcases w (nm x)with e|e|⟨l,e1,e2⟩
  ·rw[e];trivial
  ·have hs':ir G (am env X O) h (O (nm x)) (lk ρ' (nm x)) (g x):=by rw[e];exact hs
   cases hv:lk ρ' (nm x)with
   |un=>trivial
   |val v=>
    rw[hv]at hs';obtain⟨u,e3,r⟩:=hs';exact⟨u,e3,r.on on⟩
   |own l=>
    rw[hv]at hs';obtain⟨a,vs,e3,e4,e5,r⟩:=hs';exact⟨a,vs,e3,by show(if x9 (.own l)=true then O (nm x)else none)=some a;exact e4,e5,Reps.on on r⟩
  ·rw[e1]at hs
   obtain⟨a,vs,e3,e4,⟨m,e5⟩,r⟩:=hs;rw[e2];refine⟨.ref a,e3,ak.list_iff.mpr ⟨a,vs,rfl,λfa => ?_,⟨_,e5,rfl,_,rfl⟩,Reps.on on r⟩⟩
   rcases fa with f|f|⟨y,f⟩
   ·exact(S.apart _ a e4).1 f
   ·exact(S.apart _ a e4).2 f
   ·dsimp only at f
    split at f
    ·rename_i hy
     have:=S.inj y (nm x) a f e4;rw[this,e2]at hy;injections hy
    ·cases f
 ·split at e<;>split at e'
  ·exact S.inj x y a e e'
  all_goals first|injections e|cases e'
 ·split at e
  ·exact S.apart x a e
  ·injections e
theorem rH(ns:List Nm):∀(ρ:Rho) (x:Nm),kf (lk (freeze ns ρ) x) (lk ρ x)
 |[],x => .inl rfl
 |(y,s)::r,x=>by
  have ih:=rH ns r x;cases c:ab x y with
  |true=>
   induction s using Mine.Slot.casesOn with
   |own l=>
    show kf (lk ((y,bif mI y ns then .val (.list l)else .own l)::freeze ns r) x) (lk ((y, .own l)::r) x);rw[jZ,jZ,c];simp only[cond_true];cases mI y ns with
    |true=>exact .inr (.inr ⟨l,rfl,rfl⟩)
    |false=>exact .inr (.inl rfl)
   |un=>show kf (lk ((y, .un)::freeze ns r) x) _;rw[jZ,jZ,c];exact .inr (.inl rfl)
   |val v=>show kf (lk ((y, .val v)::freeze ns r) x) _;rw[jZ,jZ,c];exact .inr (.inl rfl)
  |false=>
   have e2:lk ((y,s)::r) x=lk r x:=by
    show(bif ab x y then s else lk r x)=_;rw[c];rfl
   rw[e2]
   induction s using Mine.Slot.casesOn with
   |own l=>
    show kf (lk ((y,bif mI y ns then .val (.list l)else .own l)::freeze ns r) x) _;have:lk ((y,bif mI y ns then .val (.list l)else .own l)::freeze ns r) x=lk (freeze ns r) x:=by
     show(bif ab x y then _ else lk (freeze ns r) x)=_;rw[c];rfl
    rw[this];exact ih
   |un=>
    have:lk (freeze ns ((y, .un)::r)) x=lk (freeze ns r) x:=by
     show(bif ab x y then _ else lk (freeze ns r) x)=_;rw[c];rfl
    rw[this];exact ih
   |val v=>
    have:lk (freeze ns ((y, .val v)::r)) x=lk (freeze ns r) x:=by
     show(bif ab x y then _ else lk (freeze ns r) x)=_;rw[c];rfl
    rw[this];exact ih
theorem tf:∀(ρ0 ρ:Rho) (x:Nm),kf (lk (mask ρ0 ρ) x) (lk ρ x)
 |[],ρ,x=>by
  have:mask [] ρ=[]:=by cases ρ<;>rfl
  rw[this];exact .inl rfl
 |(y0,s0)::r0,[],x=>by
  have:mask ((y0,s0)::r0) []=[]:=by induction s0 using Mine.Slot.casesOn<;>rfl
  rw[this];exact .inl rfl
 |(y0,s0)::r0,(y,s)::r,x=>by
  have ih:=tf r0 r x;have key:∃s',mask ((y0,s0)::r0) ((y,s)::r)=(y,s')::mask r0 r/\kf s' s:=by
   induction s0 using Mine.Slot.casesOn with
   |un=>exact⟨.un,rfl, .inl rfl⟩
   |val v=>exact⟨s,rfl, .inr (.inl rfl)⟩
   |own l=>exact⟨s,rfl, .inr (.inl rfl)⟩
  obtain⟨s',e,hl⟩:=key;rw[e];show kf (bif ab x y then s' else lk (mask r0 r) x) (bif ab x y then s else lk r x);cases ab x y with
  |true=>exact hl
  |false=>exact ih
theorem yX {X1:Addr->Prop} {s:Shared} {a:Addr} {vs:Array Value} {m:Nat} {l:List V} (S:cY G env X1 O ρ s) (En:aw env κ) {x:Str} (hx:ag (kd κ (nm x))=true) (ha:X1 a) (hX:∀b,X b->X1 b/\b≠a) (hO:¬fH env a)
 (el:s.heap.get? a=some { cls := .type "list",data := .seq vs m }) (rl:Reps G (am env X1 O) s l vs.toList) {E:Value->Shared->Prop} {Q:Unit->Shared->Prop}
 (q:∀h' tk,s.toks<=tk->cY G env X (upd O (nm x) (some a)) (put ρ (nm x) (.own l)) { s with heap:=h',toks:=tk }->(∀b o,¬gS env x b->s.heap.get? b=some o->h'.get? b=some o)->(∀b o,s.heap.get? b=some o->∃o',h'.get? b=some o')->Q () { s with heap:=h',toks:=tk }):
 wpAny (model G.p G.w) A (storeName env x (.ref a)) Q E s:=by
 obtain⟨g,F,hg⟩:=S.look;have hx':ag (env.kindOf x)=true:=(En.names x).trans hx;have full:∀b,am env X (upd O (nm x) (some a)) b->am env X1 O b:=λb fb=>by
  rcases fb with h|h|⟨y,h⟩
  ·exact .inl (hX b h).1
  ·exact .inr (.inl h)
  ·unfold upd at h
   split at h
   ·injection h with h;exact .inl (h▸ha)
   ·exact .inr (.inr ⟨y,h⟩)
 refine bA (mS En.kind F hx' λh' tk c hc F' kc al hle=>q h' tk hle ?_ (λb o nb e=>kc b o (λe'=>nb (e'▸hc)) e) al);have hcO:fH env c:=hc.own;have on:On (am env X1 O) (am env X (upd O (nm x) (some a))) s { s with heap:=h',toks:=tk }:=⟨λb o nb e=>kc b o (λe'=>nb (.inr (.inl (e'▸hcO)))) e,λb o _ f=>full b f,hle⟩;refine⟨λb o e => ?_,λb fb=>S.new b (full b fb),λb fb => ?_,⟨_,F',λy hy => ?_⟩,λy z b e e' => ?_,λy b e => ?_,λch=>dy (S.pos ch) hle⟩
 ·refine kc b o (λe' => ?_) (S.old b o e)
  have:=S.new b (.inr (.inl (e'▸hcO)));rw[this]at e;injections e
 ·obtain⟨o,e⟩:=S.alive b (full b fb);exact al b o e
 ·by_cases ey:y=x
  ·subst ey
   rcases(gb (.own l) (nm y) ρ (nm y)).1 rfl with e|e
   ·rw[e,if_pos rfl]
    refine⟨a,vs,rfl,by unfold upd;rw[if_pos rfl],⟨m,kc _ _ (λe'=>hO (e'▸hcO)) el⟩,Reps.on on rl⟩
   ·rw[e];trivial
  ·have ny:nm y≠nm x:=λe=>ey (dB e)
   rw[(gb (.own l) (nm x) ρ (nm y)).2 ny,if_neg ey];have:upd O (nm x) (some a) (nm y)=O (nm y):=by unfold upd;rw[if_neg ny]
   rw[this];exact(hg y hy).on on λb eb o eo=>kc b o (λe'=>(S.apart (nm y) b eb).2 (e'▸hcO)) eo
 ·unfold upd at e e'
  by_cases e1:y=nm x<;>by_cases e2:z=nm x
  ·rw[e1,e2]
  ·rw[if_pos e1]at e;rw[if_neg e2]at e'
   injection e with e;subst e
   exact absurd ha (S.apart z _ e').1
  ·rw[if_neg e1]at e;rw[if_pos e2]at e'
   injection e' with e';subst e'
   exact absurd ha (S.apart y _ e).1
  ·rw[if_neg e1]at e;rw[if_neg e2]at e'
   exact S.inj y z b e e'
 ·unfold upd at e
  split at e
  ·injection e with e;subst e
   exact⟨λh=>(hX _ h).2 rfl,hO⟩
  ·exact⟨λh=>(S.apart y b e).1 (hX b h).1,(S.apart y b e).2⟩
theorem cY.own_set {h h':Shared} {x:Str} {l l':List V} {a:Addr} {vs':Array Value} {m':Nat} (S:cY G env X O ρ h) (hx:ag (env.kindOf x)=true) (hl:lk ρ (nm x) = .own l) (hO:O (nm x)=some a) (k:∀b o,b≠a->h.heap.get? b=some o->h'.heap.get? b=some o) (le:h.toks<=h'.toks)
 (el:h'.heap.get? a=some { cls := .type "list",data := .seq vs' m' }) (rl:Reps G (am env X O) h l' vs'.toList):cY G env X O (put ρ (nm x) (.own l')) h':=by
 have fa:am env X O a := .inr (.inr ⟨_,hO⟩);have ap:=S.apart _ a hO;have on:On (am env X O) (am env X O) h h':=⟨λb o nb e=>k b o (λe'=>nb (e'▸fa)) e,λ_ _ _ f=>f,le⟩;refine⟨λb o e=>k b o (λe'=>by have:=S.new b (e'▸fa);rw[this]at e;injections e) (S.old b o e),S.new,λb fb => ?_, ?_,S.inj,S.apart,λch=>dy (S.pos ch) le⟩
 ·by_cases e:b=a
  ·rw[e];exact⟨_,el⟩
  ·obtain⟨o,e'⟩:=S.alive b fb;exact⟨o,k b o e e'⟩
 ·obtain⟨g,F,hg⟩:=S.look
  refine⟨g,F.off λb o ob e=>k b o (λe'=>ap.2 (e'▸ob)) e,λy hy => ?_⟩
  ·by_cases ey:nm y=nm x
   ·rcases(gb (.own l') (nm x) ρ (nm y)).1 ey with e|e
    ·rw[e]
     have hs:=hg x hx;rw[hl]at hs;obtain⟨a',vs,e1,e2,_,_⟩:=hs;rw[hO]at e2;injection e2 with e2;subst e2
     rw[dB ey];exact⟨a,vs',e1,hO,⟨m',el⟩,Reps.on on rl⟩
    ·rw[e];trivial
   ·rw[(gb (.own l') (nm x) ρ (nm y)).2 ey]
    exact(hg y hy).on on λb eb o eo=>k b o (λe'=>ey (S.inj (nm y) (nm x) a (e'▸eb) hO)) eo
theorem AO{E:Expr->R}(GE:aL G A env X ρ E){es:List Expr}{pos:Pos}(ok:l0 (fO E es)=true):mW G A env X ρ (eval (.List es pos) env) (fO E es).2:=by
 unfold l0 at ok;simp only[aK,decide_eq_true_eq]at ok;intro O s S E' Q q;refine wpAny_List_spliced (eP GE pos ok.1 O s S _ _ λus s1 k1 r1=>⟨by rw[<-r1.length];exact d9 ok.2, ?_⟩);refine q _ us.toArray 0 _ (Kp.trans k1 (Kp.push s1 _ s1.toks)) ?_ (di _ rfl) ?_
 ·cases e:s.heap.get? s1.heap.objs.size with
  |none=>rfl
  |some o=>exact absurd (Heap.lt_size (Kp.keep k1 _ o e)) (dl _)
 ·exact Reps.addNew (by simpa using r1) (Kp.push s1 _ s1.toks) (cf _ (aq _))
end
end
section
open PySem PySem.W PySem.Calls PyProof.Rows
noncomputable def lX(s t:Mine.Slot):Prop:=t=s\/∃l,s = .own l/\t = .val (.list l)
theorem lX.refl(s:Mine.Slot):lX s s := .inl rfl
theorem lX.trans{a b c:Mine.Slot}(x:lX a b)(y:lX b c):lX a c:=by
 rcases x with rfl|⟨l,rfl,rfl⟩
 ·exact y
 ·rcases y with rfl|⟨l',e,_⟩
  ·exact .inr ⟨l,rfl,rfl⟩
  ·injections e
noncomputable def keys(ρ:Rho):List Nm:=ρ.map Prod.fst
structure ck(ns:List Nm)(ρ ρ':Rho):Prop where
 keys:keys ρ'=keys ρ
 le:∀x,x∉ns->lX (lk ρ x) (lk ρ' x)
theorem ck.refl(ns:List Nm)(ρ:Rho):ck ns ρ ρ:=⟨rfl,λx _ => .refl _⟩
theorem ck.trans{ns:List Nm}{a b c:Rho}(x:ck ns a b)(y:ck ns b c):ck ns a c:=⟨y.keys.trans x.keys,λz h=>(x.le z h).trans (y.le z h)⟩
theorem ck.more{ns ms:List Nm}{a b:Rho}(x:ck ns a b)(h:∀z,z∈ns->z∈ms):ck ms a b:=⟨x.keys,λz hz=>x.le z λh'=>hz (h z h')⟩
theorem k9(x:Nm)(t:Mine.Slot):∀ρ:Rho,keys (put ρ x t)=keys ρ
 |[]=>rfl
 |(y,s)::r=>by
  have ih:=k9 x t r;rw[z8];cases ab x y with
  |true=>rfl
  |false=>show y::keys (put r x t)=y::keys r;rw[ih]
theorem ck.put{ns:List Nm}{x:Nm}{t:Mine.Slot}{ρ:Rho}(h:x∈ns):ck ns ρ (put ρ x t):=⟨k9 x t ρ,λy hy=>by rw[(gb t x ρ y).2 (λe=>hy (e▸h))];exact .refl _⟩
theorem mZ(ns:List Nm):∀ρ:Rho,keys (freeze ns ρ)=keys ρ
 |[]=>rfl
 |(y,s)::r=>by
  have ih:=mZ ns r
  induction s using Mine.Slot.casesOn<;>(show y::keys (freeze ns r)=y::keys r;rw[ih])
theorem rI(ns:List Nm):∀(ρ:Rho) (x:Nm),lX (lk ρ x) (lk (freeze ns ρ) x)
 |[],x => .refl _
 |(y,s)::r,x=>by
  have ih:=rI ns r x;have key:∃s',freeze ns ((y,s)::r)=(y,s')::freeze ns r/\lX s s':=by
   induction s using Mine.Slot.casesOn with
   |own l=>
    refine⟨_,rfl, ?_⟩;cases mI y ns with
    |true=>exact .inr ⟨l,rfl,rfl⟩
    |false=>exact .refl _
   |un=>exact⟨_,rfl, .refl _⟩
   |val v=>exact⟨_,rfl, .refl _⟩
  obtain⟨s',e,hl⟩:=key;rw[e];show lX (bif ab x y then s else lk r x) (bif ab x y then s' else lk (freeze ns r) x);cases ab x y with
  |true=>exact hl
  |false=>exact ih
theorem ck.freeze{ns ms:List Nm}{ρ:Rho}:ck ns ρ (freeze ms ρ):=⟨mZ ms ρ,λx _=>rI ms ρ x⟩
theorem yY{ns:List Nm}:∀{ρ0 ρ:Rho},keys ρ=keys ρ0->(∀x,x∉ns->lX (lk ρ0 x) (lk ρ x))->keys (mask ρ0 ρ)=keys ρ0/\∀x,lX (lk ρ0 x) (lk ρ x)->lX (lk ρ0 x) (lk (mask ρ0 ρ) x)
 |[],ρ,hk,_=>by
  have:ρ=[]:=by cases ρ with|nil=>rfl|cons a r=>injections hk
  subst this;exact⟨rfl,λx h=>h⟩
 |(y0,s0)::r0,[],hk,_=>by injections hk
 |(y0,s0)::r0,(y,s)::r,hk,h=>by
  have hk':y=y0/\keys r=keys r0:=by
   injection hk with h1 h2;exact⟨h1,h2⟩
  obtain⟨rfl,hk'⟩:=hk';have key:∃s',mask ((y,s0)::r0) ((y,s)::r)=(y,s')::mask r0 r/\(lX s0 s->lX s0 s'):=by
   induction s0 using Mine.Slot.casesOn with
   |un=>exact⟨.un,rfl,λ_ => .refl _⟩
   |val v=>exact⟨s,rfl,id⟩
   |own l=>exact⟨s,rfl,id⟩
  obtain⟨s',e,hl⟩:=key;have rest:keys (mask r0 r)=keys r0/\∀x,lX (lk r0 x) (lk r x)->lX (lk r0 x) (lk (mask r0 r) x):=mask_aux r0 r hk'
  rw[e];refine⟨by show y::keys (mask r0 r)=y::keys r0;rw[rest.1],λx => ?_⟩;show lX (bif ab x y then s0 else lk r0 x) (bif ab x y then s else lk r x)->lX (bif ab x y then s0 else lk r0 x) (bif ab x y then s' else lk (mask r0 r) x);cases ab x y with
  |true=>exact hl
  |false=>exact rest.2 x
where mask_aux:∀(r0 r:Rho),keys r=keys r0->keys (mask r0 r)=keys r0/\∀x,lX (lk r0 x) (lk r x)->lX (lk r0 x) (lk (mask r0 r) x)
 |[],ρ,hk=>by
  have:ρ=[]:=by cases ρ with|nil=>rfl|cons a r=>injections hk
  subst this;exact⟨rfl,λx h=>h⟩
 |(y0,s0)::r0,[],hk=>by injections hk
 |(y0,s0)::r0,(y,s)::r,hk=>by
  have hk':y=y0/\keys r=keys r0:=by
   injection hk with h1 h2;exact⟨h1,h2⟩
  obtain⟨rfl,hk'⟩:=hk';have key:∃s',mask ((y,s0)::r0) ((y,s)::r)=(y,s')::mask r0 r/\(lX s0 s->lX s0 s'):=by
   induction s0 using Mine.Slot.casesOn with
   |un=>exact⟨.un,rfl,λ_ => .refl _⟩
   |val v=>exact⟨s,rfl,id⟩
   |own l=>exact⟨s,rfl,id⟩
  obtain⟨s',e,hl⟩:=key;have rest:=mask_aux r0 r hk';rw[e];refine⟨by show y::keys (mask r0 r)=y::keys r0;rw[rest.1],λx => ?_⟩;show lX (bif ab x y then s0 else lk r0 x) (bif ab x y then s else lk r x)->lX (bif ab x y then s0 else lk r0 x) (bif ab x y then s' else lk (mask r0 r) x);cases ab x y with
  |true=>exact hl
  |false=>exact rest.2 x
theorem ck.mask{ns:List Nm}{ρ0 ρ:Rho}(h:ck ns ρ0 ρ):ck ns ρ0 (mask ρ0 ρ):=
 let m:=yY (ns:=ns) h.keys h.le
 ⟨m.1,λx hx=>m.2 x (h.le x hx)⟩
theorem uV{ns:List Nm}{c:Bool}:∀{a b:Rho},keys a=keys b->keys (gP ns c a b)=keys a/\∀x,lk (gP ns c a b) x=bif mI x ns then oj c (lk a x) (lk b x)else oq (lk a x) (lk b x)
 |[],[],_=>⟨rfl,λx=>by show Mine.Slot.un=_;cases mI x ns<;>rfl⟩
 |[],(_,_)::_,h=>by injections h
 |(_,_)::_,[],h=>by injections h
 |(y,s)::r,(y',t)::q,h=>by
  have h':y=y'/\keys r=keys q:=by injection h with h1 h2;exact⟨h1,h2⟩
  obtain⟨rfl,h'⟩:=h';have ih:=uV (ns:=ns) (c:=c) h';refine⟨by show y::keys (gP ns c r q)=y::keys r;rw[ih.1],λx => ?_⟩;show(bif ab x y then(bif mI y ns then oj c s t else oq s t)else lk (gP ns c r q) x)=bif mI x ns then oj c (bif ab x y then s else lk r x) (bif ab x y then t else lk q x)else oq (bif ab x y then s else lk r x) (bif ab x y then t else lk q x)
  cases e:ab x y with
  |true=>rw[an.mp e];rfl
  |false=>exact ih.2 x
theorem ya{r s t:Mine.Slot}(h1:lX r s)(h2:lX r t):lX r (oq s t)/\kf (oq s t) s/\kf (oq s t) t:=by
 rcases h1 with rfl|⟨l,rfl,rfl⟩
 ·rcases h2 with rfl|⟨l,rfl,rfl⟩
  ·induction t using Mine.Slot.casesOn with
   |un=>exact⟨.refl _, .inl rfl, .inl rfl⟩
   |val v=>exact⟨.refl _, .inr (.inl rfl), .inr (.inl rfl)⟩
   |own l=>exact⟨.refl _, .inr (.inl rfl), .inr (.inl rfl)⟩
  ·exact⟨.inr ⟨l,rfl,rfl⟩, .inr (.inr ⟨l,rfl,rfl⟩), .inr (.inl rfl)⟩
 ·rcases h2 with rfl|⟨l',e,rfl⟩
  ·exact⟨.inr ⟨l,rfl,rfl⟩, .inr (.inl rfl), .inr (.inr ⟨l,rfl,rfl⟩)⟩
  ·injection e with e;subst e
   exact⟨.inr ⟨l,rfl,rfl⟩, .inr (.inl rfl), .inr (.inl rfl)⟩
theorem wN{s t:Mine.Slot}{c:Bool}:kf (oj c s t) (bif c then s else t):=by
 induction s using Mine.Slot.casesOn with
 |val a=>induction t using Mine.Slot.casesOn with
  |val b=>
   show kf (.val (eM c a b)) _;rw[cH];induction c using Bool.casesOn<;>exact .inr (.inl rfl)
  |_=>exact .inl rfl
 |own a=>induction t using Mine.Slot.casesOn with
  |own b=>induction c using Bool.casesOn<;>exact .inr (.inl rfl)
  |_=>exact .inl rfl
 |un=>exact .inl rfl
theorem uW{ns:List Nm}{c:Bool}{ρ a b:Rho}(ha:ck ns ρ a)(hb:ck ns ρ b):ck ns ρ (gP ns c a b)/\∀x,kf (lk (gP ns c a b) x) (lk (bif c then a else b) x):=by
 have hk:keys a=keys b:=ha.keys.trans hb.keys.symm;have m:=uV (ns:=ns) (c:=c) hk;refine⟨⟨m.1.trans ha.keys,λx hx => ?_⟩,λx => ?_⟩
 ·rw[m.2 x]
  have:mI x ns=false:=by rw[<-Bool.not_eq_true,mem_iff];exact hx
  rw[this];exact(ya (ha.le x hx) (hb.le x hx)).1
 ·rw[m.2 x]
  cases e:mI x ns with
  |true=>
   have:=wN (s:=lk a x) (t:=lk b x) (c:=c)
   induction c using Bool.casesOn<;>exact this
  |false=>
   have hx:x∉ns:=by rw[<-mem_iff,e];exact Bool.false_ne_true
   have k:=ya (ha.le x hx) (hb.le x hx);cases c
   ·exact k.2.2
   ·exact k.2.1
noncomputable def az(ns:List Nm)(ρ:Rho):gm->Prop
 | .next ρ'=>ck ns ρ ρ'
 | .brk ρ'=>ck ns ρ ρ'
 |_=>True
theorem az.from{ns:List Nm}{a b:Rho}{o:gm}(h:ck ns a b)(x:az ns b o):az ns a o:=by
 induction o using gm.casesOn with
 |next r=>exact h.trans x
 |brk r=>exact h.trans x
 |_=>trivial
theorem az.more{ns ms:List Nm}{a:Rho}{o:gm}(x:az ns a o)(h:∀z,z∈ns->z∈ms):az ms a o:=by
 induction o using gm.casesOn with
 |next r=>exact ck.more x h
 |brk r=>exact ck.more x h
 |_=>trivial
theorem az.seq{ns:List Nm}{ρ:Rho}{r:Res}{k:Rho->Res}(x:az ns ρ r.2)(y:∀ρ',az ns ρ' (k ρ').2):az ns ρ (seq r k).2:=by
 obtain⟨b,o⟩:=r
 induction o using gm.casesOn with
 |next r=>exact az.from x (y r)
 |brk r=>exact x
 |_=>trivial
theorem rJ:∀{ts:List Expr} {vs:List V} {ρ:Rho},ck (ts.filterMap nmT) ρ (f7 ts vs ρ).2
 |[],[],ρ => .refl _ _
 |[],_::_,ρ => .refl _ _
 |t::ts,vs,ρ=>by
  induction t using Expr.casesOn with
  |Name x p=>induction vs using List.casesOn with
   |nil=>exact .refl _ _
   |cons v vs=>
    rw[oA];exact(ck.put (aO ..)).trans ((rJ (ts:=ts) (vs:=vs)).more λz hz=>aG _ hz)
  |_=>exact .refl _ _
theorem pw{t:Expr}{v:V}{ρ:Rho}:ck (bh t) ρ (bU t v ρ).2:=by
 induction t using Expr.casesOn with
 |Name x p=>exact ck.put (List.mem_singleton.mpr rfl)
 |Tuple ts k p=>induction v using V.casesOn with
  |tup vs=>exact rJ
  |_=>exact .refl _ _
 |_=>exact .refl _ _
theorem kg{v:V}:∀{ts:List Expr} {ρ:Rho},ck (ts.flatMap oH) ρ (uv v ts ρ).2
 |[],ρ => .refl _ _
 |t::ts,ρ=>by
  induction t using Expr.casesOn with
  |Name x p=>exact(ck.put (aO ..)).trans ((kg (ts:=ts)).more λz hz=>aG _ hz)
  |_=>exact .refl _ _
theorem yZ{t:Expr}:∀z,z∈bh t->z∈oH t:=by
 intro z hz
 induction t using Expr.casesOn<;>first|exact hz|injections hz
theorem AP{E:Expr->R}{κ:List (Str×NameKind)}{μ:List Nm}{ρ:Rho}{ts:List Expr}{e:Expr}{o:Option (List Expr)}:az (bh (.Tuple ts 0 default)) ρ (CG E κ μ ρ ts e o).2:=by
 induction o using Option.casesOn with
 |none=>exact pw (t := .Tuple ts 0 default)
 |some es=>exact pw (t := .Tuple ts 0 default) (v := .tup (fO E es).2)
theorem y1{ok:Bool}{ρ:Rho}{x:Nm}{k v:R}{s:Mine.Slot}:az [x] ρ (CF ok ρ x k v s).2:=by
 induction s using Mine.Slot.casesOn with
 |own l=>
  show az [x] ρ (EW (ok&&k.1) ρ x l v k.2).2;generalize k.2=j
  induction j using V.casesOn with
  |int j=>exact ck.put (List.mem_singleton.mpr rfl)
  |_=>trivial
 |_=>trivial
theorem AQ{E:Expr->R}{κ:List (Str×NameKind)}{μ:List Nm}{ρ:Rho}{t e:Expr}:az (oH t) ρ (CH E κ μ ρ t e).2:=by
 induction t using Expr.casesOn with
 |Name x p=>exact ck.put (List.mem_singleton.mpr rfl)
 |Tuple ts k p=>exact AP (μ:=μ)
 |Subscript o i p=>induction o using Expr.casesOn with
  |Name x q=>exact y1
  |_=>trivial
 |_=>trivial
theorem qF{E:Expr->R}{κ:List (Str×NameKind)}{μ:List Nm}{ρ:Rho}{ts:List Expr}{e:Expr}:az (ts.flatMap oH) ρ (gR E κ μ ρ ts e).2:=by
 induction ts using List.casesOn with
 |nil=>trivial
 |cons t ts=>induction ts using List.casesOn with
  |nil=>
   rw[List.flatMap_cons,List.flatMap_nil,bY];exact AQ
  |cons t2 ts=>induction ts using List.casesOn with
   |nil=>exact kg
   |cons t3 ts=>induction ts using List.casesOn with
    |nil=>exact kg
    |cons _ _=>trivial
theorem wO{E:Expr->R}{κ:List (Str×NameKind)}{Φ:Fns}{ρ:Rho}{t:Expr}{op:Operator}{e:Expr}:az (oH t) ρ (qY E κ Φ ρ t op e).2:=by
 induction t using Expr.casesOn with
 |Name x p=>exact ck.put (List.mem_singleton.mpr rfl)
 |_=>trivial
theorem y2{ok:Bool}{ρ:Rho}{x:Nm}{v:R}{s:Mine.Slot}:az [x] ρ (CI ok ρ x v s).2:=by
 induction s using Mine.Slot.casesOn with
 |own l=>exact ck.put (List.mem_singleton.mpr rfl)
 |_=>trivial
theorem uX{E:Expr->R}{κ:List (Str×NameKind)}{ρ:Rho}{e:Expr}:az (CE e) ρ (oJ E κ ρ e).2:=by
 unfold CE oJ;generalize uu e=o
 induction o using Option.casesOn with
 |none=>trivial
 |some x=>exact y2
theorem rK{f:V->Rho->Res}{ns:List Nm}(hf:∀v ρ,az ns ρ (f v ρ).2):∀(xs:List V) {ρ0 ρ:Rho},ck ns ρ0 ρ->az ns ρ0 (dc f ρ0 xs ρ).2
 |[],ρ0,ρ,h=>h
 |x::xs,ρ0,ρ,h=>by
  have h1:=hf x ρ;rw[iP];cases e:(f x ρ).2 with
  |next r=>
   rw[e]at h1;exact rK hf xs (h.trans h1).mask
  |brk r=>
   rw[e]at h1;exact(h.trans h1).mask
  |ret v=>trivial
  |bad=>trivial
theorem m0{t:Rho->R}{f:Rho->Res}{ns:List Nm}(hf:∀ρ,az ns ρ (f ρ).2):∀(W:Nat) (ρ:Rho),az ns ρ (cS t f W ρ).2
 |0,ρ=>trivial
 |W+1,ρ=>by
  have h1:=hf ρ;rw[kP];cases(ad (t ρ).2).2 with
  |false=>exact ck.refl _ _
  |true=>
   simp only[cond_true];cases e:(f ρ).2 with
   |next r=>
    rw[e]at h1;exact az.from h1 (m0 hf W r)
   |brk r=>rw[e]at h1;exact h1
   |ret v=>trivial
   |bad=>trivial
theorem th:∀{k:Nat} {s:Stmt},fits k s=true->fits (k+1) s=true/\fw (k+1) s=fw k s
 |0,s,h=>by injections h
 |k+1,s,h=>by
  have lists:∀ss:List Stmt,aR (fits k) ss=true->aR (fits (k+1)) ss=true/\a0 (fw (k+1)) ss=a0 (fw k) ss:=λss=>by
   induction ss with
   |nil=>intro _;exact⟨rfl,rfl⟩
   |cons a r ih=>
    intro hs;have hs':fits k a=true/\aR (fits k) r=true:=bc hs;have h1:=th hs'.1;have h2:=ih hs'.2;exact⟨Bool.and_eq_true_iff.mpr ⟨h1.1,h2.1⟩,by rw[l6,l6,h1.2,h2.2]⟩
  induction s using Stmt.casesOn with
  |For t it b els p=>
   have h':aR (fits k) b=true:=h;have:=lists b h';exact⟨this.1,by show oH t++a0 (fw (k+1)) b=oH t++a0 (fw k) b;rw[this.2]⟩
  |While t b els p=>
   have h':aR (fits k) b=true:=h;have:=lists b h';exact⟨this.1,this.2⟩
  |If t a b p=>
   have h':(aR (fits k) a&&aR (fits k) b)=true:=h;rw[aK]at h';have h1:=lists a h'.1;have h2:=lists b h'.2;exact⟨by show(aR (fits (k+1)) a&&aR (fits (k+1)) b)=true;rw[h1.1,h2.1];rfl,by show a0 (fw (k+1)) a++a0 (fw (k+1)) b=a0 (fw k) a++a0 (fw k) b;rw[h1.2,h2.2]⟩
  |_=>exact⟨rfl,rfl⟩
theorem py{k:Nat}{s:Stmt}(h:fits k s=true):∀j,fits (k+j) s=true/\fw (k+j) s=fw k s
 |0=>⟨h,rfl⟩
 |j+1=>by
  have ih:=py h j;have:=th ih.1;exact⟨this.1,this.2.trans ih.2⟩
theorem Dd{j k:Nat}{s:Stmt}(h:fits j s=true)(h':fits k s=true):fw j s=fw k s:=by
 rcases Nat.le_total j k with e|e
 ·obtain⟨d,rfl⟩:=Nat.le.dest e
  exact(py h d).2.symm
 ·obtain⟨d,rfl⟩:=Nat.le.dest e
  exact(py h' d).2
theorem iY{j k:Nat}:∀{ss:List Stmt},aR (fits j) ss=true->aR (fits k) ss=true->a0 (fw j) ss=a0 (fw k) ss
 |[],_,_=>rfl
 |a::r,h,h'=>by
  have h1:fits j a=true/\aR (fits j) r=true:=bc h;have h2:fits k a=true/\aR (fits k) r=true:=bc h';rw[l6,l6,Dd h1.1 h2.1,iY h1.2 h2.2]
theorem iZ{k:Nat}:∀{ss:List Stmt},aR (fits k) ss=true->aR (fits (k+1)) ss=true
 |[],_=>rfl
 |a::r,h=>by
  have h1:fits k a=true/\aR (fits k) r=true:=bc h;exact Bool.and_eq_true_iff.mpr ⟨(th h1.1).1,iZ h1.2⟩
theorem ib{f:Stmt->Bool}:∀{a b:List Stmt},aR f (a++b)=(aR f a&&aR f b)
 |[],b=>rfl
 |x::a,b=>by rw[List.cons_append,xO,xO,ib (a:=a),Bool.and_assoc]
theorem i0{f:Stmt->List Nm}:∀{a b:List Stmt},a0 f (a++b)=a0 f a++a0 f b
 |[],b=>rfl
 |x::a,b=>by rw[List.cons_append,l6,l6,i0 (a:=a),co]
theorem wP{ns:List Nm}{okc c:Bool}{a b:Res}:(∃ra rb,a.2 = .next ra/\b.2 = .next rb/\(qZ ns okc c a b).2 = .next (gP ns c ra rb))\/(qZ ns okc c a b).2 = .bad:=by
 obtain⟨a1,a2⟩:=a;obtain⟨b1,b2⟩:=b
 induction a2 using gm.casesOn with
 |next ra=>induction b2 using gm.casesOn with
  |next rb=>exact .inl ⟨ra,rb,rfl,rfl,rfl⟩
  |_=>exact .inr rfl
 |_=>exact .inr rfl
theorem ti{Φ:Fns}{τ:Tau}{μ:List Nm}{W:Nat}{κ:List (Str×NameKind)}:∀(n:Nat) (ss:List Stmt) (ρ:Rho) (k:Nat),aR (fits k) ss=true->az (a0 (fw k) ss) ρ (ex Φ τ μ W κ n ss ρ).2
 |0,ss,ρ,k,_=>trivial
 |n+1,[],ρ,k,_=>ck.refl _ _
 |n+1,s::rest,ρ,0,h=>by
  have h1:(fits 0 s&&aR (fits 0) rest)=true:=h;exact aa h1
 |n+1,s::rest,ρ,k+1,h=>by
  have ih:=ti (Φ:=Φ) (τ:=τ) (μ:=μ) (W:=W) (κ:=κ) n;have h1:fits (k+1) s=true/\aR (fits (k+1)) rest=true:=bc h;have inR:∀z,z∈a0 (fw (k+1)) rest->z∈a0 (fw (k+1)) (s::rest):=λz hz=>List.mem_append_right _ hz
  have inS:∀z,z∈fw (k+1) s->z∈a0 (fw (k+1)) (s::rest):=λz hz=>List.mem_append_left _ hz
  have tail:∀ρ',az (a0 (fw (k+1)) (s::rest)) ρ' (ex Φ τ μ W κ n rest ρ').2:=λρ'=>(ih rest ρ' (k+1) h1.2).more inR
  induction s using Stmt.casesOn with
  |Assign ts e p=>exact az.from ck.freeze (az.seq (qF.more inS) tail)
  |AugAssign t op e p=>exact az.from ck.freeze (az.seq (wO.more inS) tail)
  |Expr e p=>exact az.from ck.freeze (az.seq (uX.more inS) tail)
  |Pass p=>exact tail ρ
  |Break p=>exact ck.refl _ _
  |Return v p=>induction v using Option.casesOn<;>trivial
  |If t a b p=>
   have h2:aR (fits k) a=true/\aR (fits k) b=true:=by
    have:(aR (fits k) a&&aR (fits k) b)=true:=h1.1
    rwa [aK]at this
   have ea:a0 (fw (k+1)) a=a0 (fw k) a:=iY (iZ h2.1) h2.1;have eb:a0 (fw (k+1)) b=a0 (fw k) b:=iY (iZ h2.2) h2.2;have inA:∀z,z∈a0 (fw k) a->z∈a0 (fw (k+1)) (.If t a b p::rest):=λz hz=>inS z (List.mem_append_left _ hz)
   have inB:∀z,z∈a0 (fw k) b->z∈a0 (fw (k+1)) (.If t a b p::rest):=λz hz=>inS z (List.mem_append_right _ hz)
   refine az.from ck.freeze (b:=freeze (bd 40 t) ρ) ?_;show az _ (freeze (bd 40 t) ρ) (bif bJ a&&bJ b&&aR (fits 20) a&&aR (fits 20) b then _ else _:Res).2;cases hc:(bJ a&&bJ b&&aR (fits 20) a&&aR (fits 20) b)with
   |true=>
    simp only[cond_true];simp only[aK]at hc;refine az.seq ?_ tail;have sa:=ih a (freeze (bd 40 t) ρ) k h2.1;have sb:=ih b (freeze (bd 40 t) ρ) k h2.2
    rcases wP (ns:=a0 (fw 20) a++a0 (fw 20) b) (okc:=(ev Φ τ 40 κ (freeze (bd 40 t) ρ) t).1&&(ad (ev Φ τ 40 κ (freeze (bd 40 t) ρ) t).2).1) (c:=(ad (ev Φ τ 40 κ (freeze (bd 40 t) ρ) t).2).2) (a:=ex Φ τ μ W κ n a (freeze (bd 40 t) ρ)) (b:=ex Φ τ μ W κ n b (freeze (bd 40 t) ρ))with⟨ra,rb,e1,e2,ej⟩|ej
    ·rw[ej]
     rw[e1]at sa;rw[e2]at sb;have e20:a0 (fw 20) a++a0 (fw 20) b=a0 (fw k) a++a0 (fw k) b:=by rw[iY hc.1.2 h2.1,iY hc.2 h2.2]
     rw[e20];have sa':ck (a0 (fw k) a++a0 (fw k) b) (freeze (bd 40 t) ρ) ra:=ck.more sa λz hz=>List.mem_append_left _ hz
     have sb':ck (a0 (fw k) a++a0 (fw k) b) (freeze (bd 40 t) ρ) rb:=ck.more sb λz hz=>List.mem_append_right _ hz
     exact(uW sa' sb').1.more λz hz=>by
      rcases eJ hz with hz|hz
      ·exact inA z hz
      ·exact inB z hz
    ·rw[ej];trivial
   |false=>
    simp only[cond_false];unfold kQ;have fa:aR (fits (k+1)) (a++rest)=true:=by rw[ib,iZ h2.1,h1.2];rfl
    have fb:aR (fits (k+1)) (b++rest)=true:=by rw[ib,iZ h2.2,h1.2];rfl
    have sa:=(ih (a++rest) (freeze (bd 40 t) ρ) (k+1) fa).more (ms:=a0 (fw (k+1)) (.If t a b p::rest)) λz hz=>by
     rw[i0,ea]at hz
     rcases eJ hz with hz|hz
     ·exact inA z hz
     ·exact inR z hz
    have sb:=(ih (b++rest) (freeze (bd 40 t) ρ) (k+1) fb).more (ms:=a0 (fw (k+1)) (.If t a b p::rest)) λz hz=>by
     rw[i0,eb]at hz
     rcases eJ hz with hz|hz
     ·exact inB z hz
     ·exact inR z hz
    dsimp only;cases(ad (ev Φ τ 40 κ (freeze (bd 40 t) ρ) t).2).2 with
    |true=>exact sa
    |false=>exact sb
  |For t it b els p=>
   induction els using List.casesOn with
   |cons _ _=>trivial
   |nil=>
    have h2:aR (fits k) b=true:=h1.1;refine az.from ck.freeze (b:=freeze (bd 40 it) ρ) (az.seq ?_ tail);generalize freeze (bd 40 it) ρ=ρ1;refine az.more (ns:=oH t++a0 (fw k) b) ?_ inS;dsimp only;refine rK (λv ρ' => ?_) _ (ck.refl _ ρ1);dsimp only;exact az.from ((pw).more λz hz=>List.mem_append_left _ (yZ z hz)) ((ih b _ k h2).more λz hz=>List.mem_append_right _ hz)
  |While t b els p=>
   induction els using List.casesOn with
   |cons _ _=>trivial
   |nil=>
    have h2:aR (fits k) b=true:=h1.1;refine az.from ck.freeze (b:=freeze (bd 40 t) ρ) (az.seq ?_ tail);generalize freeze (bd 40 t) ρ=ρ1;exact(m0 (λρ'=>ih b ρ' k h2) W ρ1).more inS
  |_=>trivial
theorem m4{x:Nm}:∀{ρ:Rho},x∉keys ρ->lk ρ x = .un
 |[],_=>rfl
 |(y,s)::r,h=>by
  have h':x≠y/\x∉keys r:=by simpa[keys]using h
  show(bif ab x y then s else lk r x)=_;have:ab x y=false:=by rw[<-Bool.not_eq_true,an];exact h'.1
  rw[this];exact m4 h'.2
theorem m5{x:Nm}{t:Mine.Slot}:∀{ρ:Rho},x∈keys ρ->lk (put ρ x t) x=t
 |[],h=>by injections h
 |(y,s)::r,h=>by
  rw[z8];cases c:ab x y with
  |true=>
   show(bif ab x y then t else lk r x)=t;rw[c];rfl
  |false=>
   show(bif ab x y then s else lk (put r x t) x)=t;rw[c];have h':x∈keys r:=by
    rcases bu h with e|h
    ·rw[an.mpr e]at c;cases c
    ·exact h
   exact m5 h'
section
variable {G:Cfg} {A:Around} {env:Env} {X:Addr->Prop} {κ:List (Str×NameKind)} {ρ:Rho} {O:Nm->Option Addr} {Φ:Fns}
noncomputable def fq(G:Cfg)(env:Env)(X:Addr->Prop)(O:Nm->Option Addr)(s:Shared):gm->Flow->Shared->Prop
 | .next ρ', .next,s'=>∃O',cY G env X O' ρ' s'/\Mv env O O' s s'
 | .brk ρ', .brk,s'=>∃O',cY G env X O' ρ' s'/\Mv env O O' s s'
 | .ret v, .ret u,s'=>∃O',ak G (am env X O') s' v u/\Mv env O O' s s'
 |_,_,_=>False
theorem fq.from{O':Nm->Option Addr}{s s' s'':Shared}{o:gm}{f:Flow}(m:Mv env O O' s s')(h:fq G env X O' s' o f s''):fq G env X O s o f s'':=by
 induction o using gm.casesOn<;>cases f<;>first|exact h.elim|(obtain⟨O2,h1,h2⟩:=h;exact⟨O2,h1,m.trans h2⟩)
noncomputable def eU(G:Cfg)(A:Around)(env:Env)(X:Addr->Prop)(ρ:Rho)(t:Sem Flow)(r:Res):Prop:=
 r.1=true->∀O s,cY G env X O ρ s->∀(E:Value->Shared->Prop) (Q:Flow->Shared->Prop),(∀f s',fq G env X O s r.2 f s'->Q f s')->wpAny (model G.p G.w) A t Q E s
theorem cU{x:Nm}{b:Addr}{P:Addr->Prop}(h:am env P (upd O x none) b):am env P O b:=by
 rcases h with h|h|⟨y,h⟩
 ·exact .inl h
 ·exact .inr (.inl h)
 ·unfold upd at h
  split at h
  ·injections h
  ·exact .inr (.inr ⟨y,h⟩)
theorem wQ{s s1:Shared}(k:aM s s1){h':Heap}{tk:Nat}{x:Str}(kp:∀b o,¬gS env x b->s1.heap.get? b=some o->h'.get? b=some o)(hle:s1.toks<=tk):Mv env O (upd O (nm x) none) s { s1 with heap:=h',toks:=tk }:=by
 obtain⟨h1,t1,rfl,k1,l1⟩:=k;exact⟨h',tk,rfl,λb o nb e=>kp b o (λpl=>nb (.inr (.inl pl.own))) (k1 b o e),λb o _ f=>cU f,ah l1 hle⟩
theorem m6(En:aw env κ){x:Str}{p pos:Pos}{e:Expr}{v:V}(he:ia G A env X ρ (eval e env) v)(hx:ag (kd κ (nm x))=true)(hs:swapsWith e (some (.Name x p)) pos.line env=pure false):
 eU G A env X ρ (exec (.Assign [.Name x p] e pos) env) (true, .next (put ρ (nm x) (.val v))):=by
 intro _ O s S E' Q q;refine wpAny_Assign_Name (he O s S _ _ λu s1 k1 r1=>cI (S.keeps k1) En hx r1 λh' tk hle S' kp al => ?_) hs;exact q _ _ ⟨_,S',wQ k1 kp hle⟩
theorem tm{h:Shared}(S:cY G env X O ρ h){a:Addr}(d:h.heap.get? a=none){b:Addr}(f:am env X O b):b≠a:=λe=>by
 subst e;obtain⟨o,e'⟩:=S.alive b f;rw[d]at e';cases e'
theorem wR{x:Str}{p pos:Pos}{e:Expr}{l:List V}(En:aw env κ)(he:mW G A env X ρ (eval e env) l)(hx:ag (kd κ (nm x))=true)(hs:swapsWith e (some (.Name x p)) pos.line env=pure false):
 eU G A env X ρ (exec (.Assign [.Name x p] e pos) env) (true, .next (put ρ (nm x) (.own l))):=by
 intro _ O s S E' Q q;refine wpAny_Assign_Name (he O s S _ _ λa vs m s1 k1 d el rl => ?_) hs;obtain⟨S1,on1⟩:=S.more k1 (Z:=λb=>b=a) λb hb=>by rw[hb];exact⟨d,_,el⟩
 have ne:=λb (f:am env X O b)=>tm S d f
 refine yX (l:=l) (X:=X) (X1:=λb=>X b\/b=a) S1 En hx (.inr rfl) (λb hb=>⟨.inl hb,ne b (.inl hb)⟩) (λh=>ne a (.inr (.inl h)) rfl) el ?_ λh' tk hle S' kp al => ?_
 ·refine Reps.on ⟨λ_ _ _ e=>e,λb o _ f => ?_,aq _⟩ rl
  rcases f with(f|f)|f|f
  ·exact .inl (.inl f)
  ·exact .inr f
  ·exact .inl (.inr (.inl f))
  ·exact .inl (.inr (.inr f))
 ·refine q _ _ ⟨_,S', ?_⟩
  obtain⟨h1,t1,e1,kk,l1⟩:=k1;subst e1;refine⟨h',tk,rfl,λb o nb e=>kp b o (λpl=>nb (.inr (.inl pl.own))) (kk b o e),λb o e f => ?_,ah l1 hle⟩
  rcases f with f|f|⟨y,f⟩
  ·exact .inl f
  ·exact .inr (.inl f)
  ·unfold upd at f
   split at f
   ·injection f with f;subst f;rw[d]at e;injections e
   ·exact .inr (.inr ⟨y,f⟩)
theorem AR {E:Ev} (En:aw env κ) (GE:aL G A env X ρ (E κ ρ)) {es:List Expr} {b:Expr} {p pos:Pos} {l:List V} {n:Int}
 (o1:(E κ ρ (.List es p)).1=true) (o2:(E κ ρ b).1=true) (e1:(E κ ρ (.List es p)).2 = .list l) (e2:unh (E κ ρ b).2 = .int n) (hn : -1000<=n/\n<=1000) (hl:l.length<=1000):
 mW G A env X ρ (eval (.BinOp (.List es p) .Mult b pos) env) (jG l n):=by
 intro O s S E' Q q;refine wpAny_BinOp (GE.ok _ o1 O s S _ _ λu s1 k1 r1=>GE.ok b o2 O s1 (S.keeps k1) _ _ λv s2 k2 r2 => ?_);have r2:=r2.unh;rw[e1]at r1;rw[e2]at r2;obtain⟨t,rfl⟩:=ak.int_iff.mp r2;refine bA (oO (Seen.of (r1.on (Kp.on k2))) hn.2 ⋯ hl _ _ λvs tk r hle => ?_);refine q _ vs.toArray 0 _ (Kp.trans k1 (Kp.trans k2 (Kp.push s2 _ tk hle))) ?_ (di _ rfl) ?_
 ·cases e:s.heap.get? s2.heap.objs.size with
  |none=>rfl
  |some o=>exact absurd (Heap.lt_size (Kp.keep k2 _ o (Kp.keep k1 _ o e))) (dl _)
 ·exact Reps.addNew (by simpa using r) (Kp.push s2 _ tk hle) (cf _ (aq _))
theorem De {E:Ev} (Fa:aU G A Φ) (En:aw env κ) (GE:aL G A env X ρ (E κ ρ)) {a b:Expr} {pos:Pos} {l l':List V}
 (o1:(look κ ρ (E κ ρ) a).1=true) (o2:(E κ ρ b).1=true) (e1:unh (look κ ρ (E κ ρ) a).2 = .list l) (e2:unh (E κ ρ b).2 = .list l') (hl:l.length+l'.length<=cap):
 mW G A env X ρ (eval (.BinOp a .Add b pos) env) (l++l'):=by
 intro O s S E' Q q;refine wpAny_BinOp (nO Fa En GE o1 O s S _ _ λu s1 k1 r1=>GE.ok b o2 O s1 (S.keeps k1) _ _ λv s2 k2 r2 => ?_);have r1:=r1.unh;have r2:=r2.unh;rw[e1]at r1;rw[e2]at r2;refine bA (oN (r1.keeps k2) r2 hl _ _ λvs tk r hle => ?_);refine q _ vs.toArray 0 _ (Kp.trans k1 (Kp.trans k2 (Kp.push s2 _ tk hle))) ?_ (di _ rfl) ?_
 ·cases e:s.heap.get? s2.heap.objs.size with
  |none=>rfl
  |some o=>exact absurd (Heap.lt_size (Kp.keep k2 _ o (Kp.keep k1 _ o e))) (dl _)
 ·exact Reps.addNew (by simpa using r) (Kp.push s2 _ tk hle) (cf _ (aq _))
noncomputable def eV(e:Expr):Bool:=Nat.beq e.ctorIdx 8||Nat.beq e.ctorIdx 9||Nat.beq e.ctorIdx 10
inductive jQ:Expr->Prop
 |list (es:List Expr) (p:Pos):jQ (.List es p)
 |mult (es:List Expr) (p:Pos) (b:Expr) (q:Pos):jQ (.BinOp (.List es p) .Mult b q)
 |add (a b:Expr) (q:Pos):jQ (.BinOp a .Add b q)
 |range (p q:Pos) (bs:List Expr) (r s:Pos):jQ (.Call (.Name "list" p) [.Call (.Name "range" q) bs [] r] [] s)
theorem y3{a b:Expr}{p:Pos}(h:xP a=true):jQ (.BinOp a .Mult b p):=by
 induction a using Expr.casesOn with
 |List es q=>exact .mult es q b p
 |_=>exact aa h
theorem wS{e:Expr}(h:Aj (hU e)=true):jQ e:=by
 generalize c:hU e=o at h
 induction o using Option.casesOn with
 |none=>exact aa h
 |some x=>
  obtain⟨p,q,rfl⟩:=iW c;have h:=bc h;obtain⟨bs,hb⟩:=Option.isSome_iff_exists.mp h.2;obtain⟨p',q',e2⟩:=kZ hb;rw[e2,iU h.1];exact .range p p' bs q' q
theorem pA{e:Expr}(h:iN e=true):jQ e:=by
 induction e using Expr.casesOn with
 |List es p=>exact .list es p
 |BinOp a op b q=>induction op using Operator.casesOn with
  |Add=>exact .add a b q
  |Mult=>exact y3 h
  |_=>exact aa h
 |_=>exact wS h
theorem AS{xs l:List V}{v:V}(ok:(dv .Mult (.list xs) v).1=true)(h:(dv .Mult (.list xs) v).2 = .list l):∃i,v = .int i/\Aa i xs.length=true/\jG xs i=l:=by
 induction v using V.casesOn with
 |int i=>exact⟨i,rfl,ok,V.list.inj h⟩
 |_=>exact aa ok
theorem Df{l:List V}{u v:V}(ok:(dv .Add u v).1=true)(h:(dv .Add u v).2 = .list l):∃xs ys,u = .list xs/\v = .list ys/\xs.length+ys.length<=cap/\xs++ys=l:=by
 induction u using V.casesOn with
 |list xs=>induction v using V.casesOn with
  |list ys=>exact⟨xs,ys,rfl,rfl,aY ok,V.list.inj h⟩
  |_=>exact aa ok
 |int i=>induction v using V.casesOn with
  |int j=>injections h
  |_=>exact aa ok
 |str i=>induction v using V.casesOn with
  |str j=>injections h
  |_=>exact aa ok
 |_=>exact aa ok
theorem AT(Fa:aU G A Φ)(En:aw env κ){τ:Tau}{n:Nat}{e:Expr}{l:List V}(hf:iN e=true)(ok:(ev Φ τ (n+2) κ ρ e).1=true)(hv:(ev Φ τ (n+2) κ ρ e).2 = .list l):mW G A env X ρ (eval e env) l:=by
 have GE:=(gV Fa τ (n+1) κ env X ρ En).1
 rcases pA hf with⟨es,p⟩|⟨es,p,b,q⟩|⟨a,b,q⟩|⟨p,q,bs,r,s⟩
 ·rw[<-V.list.inj hv]
  exact AO GE ok
 ·have o2:=bc ok
  have o1:=bc o2.1;obtain⟨i,hb,ht,e⟩:=AS (xs:=(fO (ev Φ τ n κ ρ) es).2) o2.2 hv;have ht:=kT ht;rw[<-e];exact AR En GE o1.1 o1.2 rfl hb ⟨ht.1,ht.2.1⟩ ht.2.2
 ·have o2:=bc ok
  have o1:=bc o2.1;obtain⟨xs,ys,ha,hb,hl,e⟩:=Df o2.2 hv;rw[<-e];exact De Fa En GE o1.1 o1.2 ha hb hl
 ·obtain⟨l',e,h⟩:=rx (p:=p) (p':=q) (q':=r) (pos:=s) Fa En GE ok
  rw[<-V.list.inj (e.symm.trans hv)];exact h
theorem lc{e:Expr}(h:eV e=false)(t:Expr)(k:Nat):swapsWith e (some t) k env=pure false:=by
 induction e using Expr.casesOn<;>first|rfl|exact aa h.symm
theorem jQ.comp{e:Expr}(h:jQ e):eV e=false:=by
 induction h using jQ.casesOn<;>rfl
theorem lg (En:aw env κ) {dk:Bool} {e:Expr} {b:Bool} {p pos:Pos} {x:Str} {v:V} {t:Option (Value->Sem Unit)->Sem Value} (he:ia G A env X ρ (eval e env) v) (hev:∀u,evalThenUse e env u=(t (some u)>>=λ_=>pure ()))
 (hsw:swapsWith e (some (.Name x p)) pos.line env=pure b) (run:∀O s,cY G env X O ρ s->∃res,v=wM dk res/\x8 G A env X O s dk res t)
 (hx:ag (kd κ (nm x))=true):eU G A env X ρ (exec (.Assign [.Name x p] e pos) env) (true, .next (put ρ (nm x) (.val v))):=by
 induction b using Bool.casesOn with
 |false=>exact m6 En he hx hsw
 |true=>
  intro _ O s S E' Q q;rw[exec_Assign_Name_used _ _ _ _ hsw,hev];refine ae (dw (ae ?_));obtain⟨res,e,run⟩:=run O s S;rw[e]at q;refine ae (bK (run (some (assign (.Name x p) env)) E' (λ_ s'=>Q .next s') λacc C s' Rn => ?_) (λ_ s' hq=>ar (ar hq)) λ_ _ e=>e);have lst:=Rn.lst;obtain⟨m',hns⟩:=Rn.ns;have alC:∃o,s'.heap.get? C=some o:=by obtain⟨o,_,_,eo,_⟩:=hns;exact⟨o,eo⟩
  obtain⟨S1,on1⟩:=S.more Rn.keeps (Z:=λb=>b=C) λb hb=>by rw[hb];exact⟨Rn.loc,alC⟩
  have neC:=λb (f:am env X O b)=>tm S Rn.loc f
  have neA:=λb (f:am env X O b)=>tm S Rn.dead f
  refine wpAny_assign_Name (cI S1 En hx (v:=wM dk res) (lst.rep ⟨λ_ _ _ e=>e,λb o _ f => ?_,aq _⟩ (λo e=>e) λfa => ?_) λh' tk hle S' kp al => ?_)
  ·rcases f with(f|f)|f|f
   ·exact .inl (.inl f)
   ·exact .inr (.inr f)
   ·exact .inl (.inr (.inl f))
   ·exact .inl (.inr (.inr f))
  ·rcases fa with(f|f)|f|f
   ·exact neA _ (.inl f) rfl
   ·exact Rn.ne f.symm
   ·exact neA _ (.inr (.inl f)) rfl
   ·exact neA _ (.inr (.inr f)) rfl
  ·have nplC:¬gS env x C:=λpl=>neC C (.inr (.inl pl.own)) rfl
   refine⟨m', ?_,λh'' hs => ?_⟩
   ·obtain⟨o,es,ep,eo,r⟩:=hns
    exact⟨o,es,ep,kp _ _ nplC eo,r⟩
   ·have S2:cY G env X (upd O (nm x) none) (put ρ (nm x) (.val (wM dk res))) { s' with heap:=h'',toks:=tk }:=
     S'.less (Z:=λb=>b=C) (λb hb => .inr hb) (λb hb=>⟨.inl hb,neC b (.inl hb)⟩) (λb hb=>neC b (.inr (.inl hb))) (λb o nb e=>(hs.2 b nb).trans e) (aq _)
    refine q _ _ ⟨_,S2, ?_⟩;obtain⟨h1,t1,e1,kk,l1⟩:=Rn.keeps;subst e1;refine⟨h'',tk,rfl,λb o nb e=>(hs.2 b λh => ?_).trans (kp b o (λpl=>nb (.inr (.inl pl.own))) (kk b o e)),λb o _ f=>cU f,ah l1 hle⟩;rw[h,Rn.loc]at e;injections e
theorem uY (Fa:aU G A Φ) (En:aw env κ) {τ:Tau} {n:Nat} {e:Expr} {p pos:Pos} {x:Str} (hc:eV e=true)
 (ok:(ev Φ τ (n+1) κ ρ e).1=true) (hx:ag (kd κ (nm x))=true):eU G A env X ρ (exec (.Assign [.Name x p] e pos) env) (true, .next (put ρ (nm x) (.val (ev Φ τ (n+1) κ ρ e).2))):=by
 have GE:=λκ env X ρ h=>(gV (G:=G) (A:=A) Fa τ n κ env X ρ h).1
 have GT:=λκ env X ρ h=>(gV (G:=G) (A:=A) Fa τ n κ env X ρ h).2
 have he:=(gV (G:=G) (A:=A) Fa τ (n+1) κ env X ρ En).1.ok e ok
 induction e using Expr.casesOn with
 |ListComp elt gs scope cp=>exact lg (dk:=false) En he (λ_=>rfl) rfl (λO s S=>rD (pos:=cp) Fa En GE GT ok S) hx
 |DictComp kx vx gs scope cp=>exact lg (dk:=true) En he (λ_=>rfl) rfl (λO s S=>rE (pos:=cp) Fa En GE ok S) hx
 |SetComp elt gs scope p=>exact aa ok
 |_=>exact aa hc
end
end
section
open PySem PySem.W PySem.Calls PyProof.Rows
noncomputable abbrev tn:=Str×V×Value
noncomputable def tq:List tn->Rho->Rho
 |[],ρ=>ρ
 |tr::L,ρ=>tq L (put ρ (nm tr.1) (.val tr.2.1))
noncomputable def tz(G:Cfg)(A:Around)(env:Env)(f:Value->Sem Unit)(tr:tn):Prop:=
 ∀(s:Shared) (E:Value->Shared->Prop) (Q:Unit->Shared->Prop),wpAny (model G.p G.w) A (storeName env tr.1 tr.2.2) Q E s->wpAny (model G.p G.w) A (f tr.2.2) Q E s
section
variable {G:Cfg} {A:Around} {env:Env} {X:Addr->Prop} {κ:List (Str×NameKind)} {ρ:Rho} {O:Nm->Option Addr} {Φ:Fns}
theorem wU (En:aw env κ) {L:List tn} {O:Nm->Option Addr} {ρ:Rho} {s:Shared} {fs:List (Value->Sem Unit)} (S:cY G env X O ρ s) (hT:∀tr∈L,ak G (am env X O) s tr.2.1 tr.2.2)
 (hx:∀tr∈L,ag (kd κ (nm tr.1))=true) (hf:oK (tz G A env) fs L) {E:Value->Shared->Prop} {Q:Unit->Shared->Prop}
 (q:∀O' h' tk,s.toks<=tk->cY G env X O' (tq L ρ) { s with heap:=h',toks:=tk }->(∀b o,¬fH env b->s.heap.get? b=some o->h'.get? b=some o)->(∀b,am env pv O' b->am env pv O b)->Q () { s with heap:=h',toks:=tk }):
 wpAny (model G.p G.w) A (assignInOrder fs (L.map λtr=>tr.2.2)) Q E s:=by
 induction L generalizing O ρ s fs with
 |nil=>cases hf with
  |nil=>exact ar (q O s.heap s.toks (aq _) S (λ_ _ _ e=>e) λb f=>f)
 |cons tr L ih=>cases hf with
  |cons h1 hr=>
   refine wpAny_assignInOrder_more (h1 s _ _ (cI S En (hx tr (aO ..)) (hT tr (aO ..)) λh' tk hle S1 kp al => ?_));refine ih (s:={ s with heap:=h',toks:=tk }) S1 (λt m=>(hT t (aG _ m)).on ⟨λb o nb e=>kp b o (λpl=>nb (.inr (.inl pl.own))) e,λb o _ f=>cU f,hle⟩) (λt m=>hx t (aG _ m)) hr λO' h2 tk2 hle2 S2 kp2 sub2 => ?_
   exact q O' h2 tk2 (ah hle hle2) S2 (λb o nb e=>kp2 b o nb (kp b o (λpl=>nb pl.own) e)) λb f=>cU (sub2 b f)
theorem li:∀(L:List tn) (ρ:Rho) (y:Nm),(∀tr∈L,y≠nm tr.1)->lk (tq L ρ) y=lk ρ y
 |[],_,_,_=>rfl
 |tr::L,ρ,y,h=>(li L _ y λt m=>h t (aG _ m)).trans ((gb _ _ ρ y).2 (h tr (aO ..)))
theorem yb(L:List tn):∀(ρ:Rho),(L.map λtr=>nm tr.1).Nodup->∀tr∈L,lk (tq L ρ) (nm tr.1)=if nm tr.1∈keys ρ then Mine.Slot.val tr.2.1 else .un:=by
 induction L with
 |nil=>exact λ_ _ _ m=>nomatch m
 |cons tr L ih=>
  intro ρ hn t m;rw[aC,List.nodup_cons]at hn
  rcases bu m with rfl|m
  ·show lk (tq L (put ρ (nm t.1) (Mine.Slot.val t.2.1))) (nm t.1)=_
   rw[li L _ _ λt' m' e=>hn.1 (List.mem_map.mpr ⟨t',m',e.symm⟩)]
   by_cases hk:nm t.1∈keys ρ
   ·rw[if_pos hk];exact m5 hk
   ·rw[if_neg hk];exact m4 (by rw[k9];exact hk)
  ·have:=ih (put ρ (nm tr.1) (Mine.Slot.val tr.2.1)) hn.2 t m
   rw[k9]at this;exact this
theorem y4{L L':List tn}(hp:L.Perm L')(hn:(L.map λtr=>nm tr.1).Nodup)(ρ:Rho)(y:Nm):lk (tq L ρ) y=lk (tq L' ρ) y:=by
 by_cases h:∃tr∈L,y=nm tr.1
 ·obtain⟨tr,m,rfl⟩:=h
  rw[yb L ρ hn tr m,yb L' ρ ((hp.map _).nodup_iff.mp hn) tr (hp.mem_iff.mp m)]
 ·have h1:∀tr∈L,y≠nm tr.1:=λtr m e=>h ⟨tr,m,e⟩
  rw[li L ρ y h1,li L' ρ y λtr m=>h1 tr (hp.mem_iff.mpr m)]
noncomputable def wV:Expr->Option Str
 | .Name id _=>some id
 |_=>none
structure Ir(G:Cfg)(A:Around)(env:Env)(P:Addr->Prop)(h:Shared)(ts:List Expr)(us:List Value)(L:List tn):Prop where
 names:(L.map λtr=>nm tr.1)=bh (.Tuple ts 0 default)
 vals:(L.map λtr=>tr.2.2)=us
 ids:ts.filterMap wV=L.map (·.1)
 len:ts.length=us.length
 rep:∀tr∈L,ak G P h tr.2.1 tr.2.2
 each:(assignEach ts env).length=ts.length/\(assignEach ts env).findIdx? (·.1)=none/\oK (tz G A env) ((assignEach ts env).map (·.2)) L
end
end
section
open PySem PySem.W PySem.Calls PyProof.Rows
theorem i4{α β:Type}{f g:α->Option β}(hfg:∀a b,f a=some b->g a=some b):∀{l:List α},(l.filterMap f).length=l.length->l.filterMap f=l.filterMap g
 |[],_=>rfl
 |a::l,h=>by
  rw[List.filterMap_cons]at h |-;rw[List.filterMap_cons];cases e:f a with
  |none=>
   rw[e]at h;have:=List.length_filterMap_le f l;simp only[aP]at h
   omega
  |some b=>
   rw[e]at h;rw[hfg a b e];simp only[aP]at h |-;rw[i4 hfg ⋯]
noncomputable def HF(ts:List Expr)(m:Sem (Option (List Str))):Prop:=m=pure none\/(m=pure (some (ts.filterMap wV))/\(ts.filterMap wV).length=ts.length)
theorem HF.ite{ts:List Expr}{c:Prop}[Decidable c]{m:Sem (Option (List Str))}(h:¬c->HF ts m):HF ts (if c then pure none else m):=by
 by_cases e:c
 ·rw[if_pos e];exact .inl rfl
 ·rw[if_neg e];exact h e
theorem AU{es:List Expr}(h:d8 es=false)(hf:¬es.all (foldedForSure 8)=true):¬es.all (constantsAlone 8)=true:=λe=>by
 unfold d8 at h;rw[e,(Bool.not_eq_true _).mp hf]at h;exact aa h.symm
theorem pB{α β:Type}{f g:α->Option β}{l:List α}(h:(l.filterMap f).length=l.length)(hfg:∀a b,f a=some b->g a=some b):l.filterMap f=l.filterMap g:=i4 hfg h
theorem Dg{c:Prop}[Decidable c]{x y:Str}(h:(if c then some x else none)=some y):some x=some y:=by
 by_cases e:c
 ·rw[if_pos e]at h;exact h
 ·rw[if_neg e]at h;exact aD h
theorem wW{ts es:List Expr}{k k':Nat}{p p':Pos}{env:Env}(hc:d8 es=false):HF ts (swappedStores [.Tuple ts k p] (.Tuple es k' p') env):=by
 unfold swappedStores;dsimp only;refine .ite λ_ => .ite λ_ => .ite λhn => .ite λhf => ?_
 rw[if_neg (AU hc hf)];rw[Bool.or_eq_true,not_or,bne_iff_ne,ne_eq,Decidable.not_not]at hn;have e:=pB (g:=wV) hn.1 λa b h=>by
  induction a using Expr.casesOn with
  |Name id q=>exact Dg h
  |_=>exact aD h
 exact .inr ⟨by rw[e],by rw[<-e];exact hn.1⟩
section
variable {G:Cfg} {A:Around} {env:Env} {X:Addr->Prop} {κ:List (Str×NameKind)} {ρ:Rho} {O:Nm->Option Addr} {Φ:Fns}
theorem rL:∀(L:List tn),oK (tz G A env) (L.map λtr=>bindName env tr.1) L
 |[] => .nil
 |tr::L => .cons (λs E Q h=>wpAny_bindName h) (rL L)
theorem AV{P:Addr->Prop}{h:Shared}:∀{ts:List Expr} {vs:List V} {us:List Value} {ρ':Rho},(f7 ts vs ρ').1=true->Reps G P h vs us->∃L,Ir G A env P h ts us L/\∀ρ,(f7 ts vs ρ).2=tq L ρ
 |[],[],us,ρ',_,r=>by
  rw[Reps.nil_iff.mp r];exact⟨[],⟨rfl,rfl,rfl,rfl,(λ_ m=>nomatch m),rfl,rfl, .nil⟩,λ_=>rfl⟩
 |[],_::_,us,ρ',ok,r=>aa ok
 |t::ts,vs,us,ρ',ok,r=>by
  induction t using Expr.casesOn with
  |Name x p=>induction vs using List.casesOn with
   |nil=>exact aa ok
   |cons v vs=>
    obtain⟨u,us,rfl,r1,r2⟩:=Reps.cons_iff.mp r;obtain⟨L,I,pe⟩:=AV (ts:=ts) ok r2;refine⟨(x,v,u)::L,⟨congrArg (nm x :: ·) I.names,congrArg (u :: ·) I.vals,congrArg (x :: ·) I.ids,congrArg (· + 1) I.len,cJ ⟨r1,I.rep⟩,congrArg (· + 1) I.each.1, ?_, .cons (λs E Q h=>wpAny_assign_Name h) I.each.2.2⟩,λρ=>pe _⟩;show((false,assign (.Name x p) env)::assignEach ts env).findIdx? (·.1)=none;rw[List.findIdx?_cons,I.each.2.1];rfl
  |_=>exact aa ok
theorem pC (En:aw env κ) {ρ':Rho} {ts:List Expr} {us:List Value} {L L':List tn} {fs:List (Value->Sem Unit)} {h:Shared} {s s2:Shared} (I:Ir G A env (am env X O) h ts us L) (pe:ρ'=tq L ρ) (pm:L'.Perm L) (S:cY G env X O ρ s) (k:aM s s2) (kp:aM h s2)
 (nd:(L.map λtr=>nm tr.1).Nodup) (hx:iq κ (bh (.Tuple ts 0 default))=true) (hf:oK (tz G A env) fs L') {E:Value->Shared->Prop} {Q:Flow->Shared->Prop} (q:∀f s',fq G env X O s (.next ρ') f s'->Q f s'):
 wpAny (model G.p G.w) A (assignInOrder fs (L'.map λtr=>tr.2.2)) (λ_=>Q .next) E s2:=by
 refine wU (X:=X) (L:=L') En (S.keeps k) (λtr m=>(I.rep tr (pm.mem_iff.mp m)).on (Kp.on kp)) (λtr m=>cq hx _ (by rw[<-I.names];exact List.mem_map.mpr ⟨tr,pm.mem_iff.mp m,rfl⟩)) hf λO' h' tk' hle S4 kp' sub => ?_
 obtain⟨O2,S5,f5⟩:=S4.coarse (ρ':=ρ') λy => .inr (.inl (by rw[pe];exact y4 pm.symm nd ρ y))
 refine q _ _ ⟨O2,S5, ?_⟩;obtain⟨h1,t1,rfl,kk,l1⟩:=k;exact⟨h',tk',rfl,λb o nb e=>kp' b o (λh=>nb (.inr (.inl h))) (kk b o e),λb o e f=>sub b (f5 _ b f),ah l1 hle⟩
theorem wX (Fh:A.handled=none) (En:aw env κ) {E:Expr->R} (GE:aL G A env X ρ E) {ts es:List Expr} {k k':Nat} {p p' pos:Pos} (o1:l0 (fO E es)=true) (o2:(f7 ts (fO E es).2 ρ).1=true)
 (o3:d8 es=false) (o4:d7 (bh (.Tuple ts 0 default))=true) (o5:iq κ (bh (.Tuple ts 0 default))=true):
 eU G A env X ρ (exec (.Assign [.Tuple ts k p] (.Tuple es k' p') pos) env) (true, .next (f7 ts (fO E es).2 ρ).2):=by
 intro _ O s S E' Q q;have o1:=bc o1;rw[exec_Assign_arm];refine ae (dw ?_);rw[show swapsWithSole [.Tuple ts k p] (.Tuple es k' p') pos.line env=pure false from rfl];refine ae (ar ?_);rw[if_neg nofun,arm_eval_Tuple];refine ae (ae (dw (ae (eP GE p' o1.1 O s S _ _ λus s1 k1 r1 => ?_))));obtain⟨L,I,pe⟩:=AV (A:=A) (env:=env) o2 r1;refine wpAny_newTuple ?_ (by rw[<-r1.length];exact d9 (aY o1.2));have pe:=pe ρ;have k2:=Kp.push s1 { cls := .type "tuple",data := .seq us.toArray } s1.toks;have hT:(s1.heap.push { cls := .type "tuple",data := .seq us.toArray }).IsTuple s1.heap.objs.size us.toArray:=⟨_,di _ rfl,rfl,_,rfl⟩
 have nd:(L.map λtr=>nm tr.1).Nodup:=by rw[I.names];exact nodup_iff.mp o4
 have he:∀{h3:Heap},(∀b o,b≠(s1.heap.push { cls := .type "tuple",data := .seq us.toArray }).objs.size->(s1.heap.push { cls := .type "tuple",data := .seq us.toArray }).get? b=some o->h3.get? b=some o)->aM s { s1 with heap:=h3 }/\aM s1 { s1 with heap:=h3 }:=λ{h3} h=>by
  have kk:∀b o,s1.heap.get? b=some o->h3.get? b=some o:=λb o e=>h b o (Nat.ne_of_lt (Heap.lt_size (Kp.keep k2 b o e))) (Kp.keep k2 b o e)
  exact⟨Kp.trans k1 (Kp.heap s1.toks kk),Kp.heap s1.toks kk⟩
 rcases wW (ts:=ts) (k:=k) (p:=p) (k':=k') (p':=p') (env:=env) o3 with hsw|⟨hsw,hlen⟩
 ·rw[hsw]
  refine ae (ar (ae ?_));show wpAny _ A (assign (.Tuple ts k p) env (.ref s1.heap.objs.size)) _ _ _;refine bK (wpAny_assign_Tuple Fh hT (by rw[I.each.1,I.len];simp) I.each.2.1 λh' e => ?_) (λ_ _ h=>ar h) λ_ _ e=>e
  have:=pC (E:=E') En I pe (List.Perm.refl _) S (he e).1 (he e).2 nd o5 I.each.2.2 q;rw[I.vals]at this
  simpa using this
 ·rw[hsw]
  refine ae (ar ?_);show wpAny _ A (do
   rule "assign.swapped-stores"
   let items <-unpackItems (.ref s1.heap.objs.size) (ts.filterMap wV).length none
   assignInOrder ((ts.filterMap wV).reverse.map λn=>bindName env n) items.reverse
   pure .next) Q E' _
  rw[show(ts.filterMap wV).length=us.toArray.size by rw[hlen,I.len];simp];refine ae (wpAny_rule (ae (wpAny_unpackItems_tuple Fh hT λh' e=>ae ?_)));refine bK ?_ (λ_ _ h=>ar h) λ_ _ e=>e
  have:=pC (E:=E') En I pe (List.reverse_perm L) S (he e).1 (he e).2 nd o5 (rL L.reverse) q;rw[List.map_reverse,List.map_reverse,I.vals]at this;rw[I.ids,List.map_reverse,dQ];exact this
end
end
section
open PySem PySem.W PySem.Calls PyProof.Rows
section
variable {prog:Program} {w:World} {A:Around} {E:Value->Shared->Prop} {s:Shared}
theorem uZ {l:Addr} {items:Array Value} {n:Nat} {k:Int} {t:Tok} {v:Value} {Q:Unit->Shared->Prop} (ho:s.heap.get? l=some { cls := .type "list",data := .seq items n })
 (h0:0<=k) (hfit:k<2^63) (hn:k<items.size)
 (hQ:∀h' n',h'.get? l=some { cls := .type "list",data := .seq (items.setIfInBounds k.toNat v) n' }->Heap.SameBut l s.heap h'->Q () { s with heap:=h' }):
 wpAny (model prog w) A (setItem (.ref l) (.int k t) v) Q E s:=by
 have hl:s.heap.IsList l items:=⟨_,ho,rfl,_,rfl⟩;unfold setItem
 try with_reducible refine bQ ?_
 first|refine ae (ar ?_)|skip
 refine ae (wpAny_sequenceKey hl.typeIs nofun ?_);refine ae (wpAny_callSpecial?_slot (name:=Str.ofString "__setitem__") hl.typeIs slot_list_setitem
  (wpAny_call_entry slot_list_setitem hl.typeIs entry_list_setitem ?_ (args_list_setitem _ _ _)))
 show wpAny _ _ (Builtin.List.listSubscript? (.int k t)>>=_) _ _ s;refine ae (wpAny_listSubscript_int (fitsIndex_of h0 hfit) ?_);clear hfit;obtain⟨j,rfl⟩:=Int.eq_ofNat_of_zero_le h0;have hj:j<items.size:=⋯;have hx':items[j]? = some items[j]:=Array.getElem?_eq_getElem hj;show wpAny _ _ ((seqItemAt l j>>=λr=>pure (r.map (j,·)))>>=_) _ _ s;refine ae (ae (wpAny_seqItemAt ho rfl (ar ?_)));rw[hx'];show wpAny _ _ (setSeqItemAt l j v>>=_) _ _ s;have hfin:=get?_update_seq ho (·.setIfInBounds j v);refine ae (wpAny_setSeqItemAt ho rfl ?_)
 first
  |exact ae (ar (ar ⟨.none,rfl,ar (hQ _ _ hfin (Heap.SameBut.update ..))⟩))
  |exact ar ⟨.none,rfl,ar (hQ _ _ hfin (Heap.SameBut.update ..))⟩
end
section
variable {G:Cfg} {A:Around} {env:Env} {X:Addr->Prop} {κ:List (Str×NameKind)} {ρ:Rho} {O:Nm->Option Addr} {Φ:Fns}
theorem AW{s s1:Shared}(k:aM s s1){h':Heap}{tk:Nat}{x:Nm}{a:Addr}(hO:O x=some a)(kp:∀b o,b≠a->s1.heap.get? b=some o->h'.get? b=some o)(hle:s1.toks<=tk):Mv env O O s { s1 with heap:=h',toks:=tk }:=by
 obtain⟨h1,t1,rfl,k1,l1⟩:=k;exact⟨h',tk,rfl,λb o nb e=>kp b o (λh=>nb (.inr (.inr ⟨x,h▸hO⟩))) (k1 b o e),λb o _ f=>f,ah l1 hle⟩
theorem AX{e o i:Expr}{p:Pos}{k:Nat}:swapsWith e (some (.Subscript o i p)) k env=pure false:=by
 induction e using Expr.casesOn<;>rfl
theorem AY{e:Expr}{ts:List Expr}{k l:Nat}{p:Pos}:swapsWith e (some (.Tuple ts k p)) l env=pure false:=by
 induction e using Expr.casesOn<;>rfl
theorem u3{e:Expr}{ts:List Expr}{k:Nat}{p:Pos}(h:mQ e=none):swappedStores [.Tuple ts k p] e env=pure none:=by
 induction e using Expr.casesOn with
 |Tuple es k p=>exact aD h.symm
 |_=>rfl
theorem u4 {E:Expr->R} (En:aw env κ) (GE:aL G A env X ρ E) {x:Str} {p p' pos:Pos} {i e:Expr} {l:List V} {j:Int} (hl:lk ρ (nm x) = .own l) (hj:(E i).2 = .int j) (oi:(E i).1=true) (oe:(E e).1=true) (hx:ag (kd κ (nm x))=true)
 (h0:0<=j) (h1:j<l.length) (hc:l.length<=cap):eU G A env X ρ (exec (.Assign [.Subscript (.Name x p) i p'] e pos) env) (true, .next (put ρ (nm x) (.own (kO l j.toNat (E e).2)))):=by
 intro _ O s S E' Q q;have hx':ag (env.kindOf x)=true:=(En.names x).trans hx;have pl:=En.plain x (by rw[hx'];rfl);refine wpAny_Assign_Subscript (GE.ok e oe O s S _ _ λu s1 k1 r1 => ?_) (AX (env:=env) (o := .Name x p) (i:=i) (p:=p') (k:=pos.line));have S1:=S.keeps k1;obtain⟨g,F,hg⟩:=S1.look;have hs:=hg x hx';rw[hl]at hs;obtain⟨a,vs,e1,e2,⟨m,e3⟩,rr⟩:=hs;refine wpAny_Name (dG En.kind F hx' pl.2 e1 ?_) pl.1;refine GE.ok i oi O s1 S1 _ _ λv s2 k2 r2 => ?_
 rw[hj]at r2;obtain⟨t,rfl⟩:=ak.int_iff.mp r2;have e3':=Kp.keep k2 _ _ e3;have S2:=S1.keeps k2;have rr2:=Reps.on (Kp.on (X:=am env X O) k2) rr;have hsz:vs.size=l.length:=by rw[<-c0,<-rr2.length]
 unfold cap at hc;refine uZ e3' h0 ⋯ ⋯ λh' n' el hs => ?_
 have kp:∀b o,b≠a->s2.heap.get? b=some o->h'.get? b=some o:=λb o nb e=>(hs.2 b nb).trans e
 have S3:=S2.own_set (h':={ s2 with heap:=h' }) (l':=kO l j.toNat (E e).2) hx' hl e2 kp (aq _) el (by
  unfold kO;rw[Array.toList_setIfInBounds];exact Reps.set rr2 (r1.on (Kp.on k2)))
 exact q _ _ ⟨O,S3,AW (tk:=s2.toks) (Kp.trans k1 k2) e2 kp (aq _)⟩
theorem u5{E:Expr->R}(En:aw env κ)(GE:aL G A env X ρ E){x:Str}{p q' pos spos:Pos}{e:Expr}{l:List V}(hl:lk ρ (nm x) = .own l)(oe:(E e).1=true)(hx:ag (kd κ (nm x))=true)(hq:q'.endLine=pos.line)(hc:l.length<=cap):
 eU G A env X ρ (exec (.Expr (.Call (.Attribute (.Name x p) "append" q') [e] [] pos) spos) env) (true, .next (put ρ (nm x) (.own (l++[(E e).2])))):=by
 intro _ O s S E' Q q;have hx':ag (env.kindOf x)=true:=(En.names x).trans hx;have pl:=En.plain x (by rw[hx'];rfl);have hi:interactive env=false:=by unfold interactive;rw[En.kind];rfl
 refine wpAny_Expr ?_ hi rfl;have hst:starEach [e] env=[(false,eval e env)]:=gr GE oe [];refine wpAny_Call_append rfl (by rw[hst];rfl) (by rw[hq];exact beq_self_eq_true _) (by rw[hst];rfl) ?_;obtain⟨g,F,hg⟩:=S.look;have hs:=hg x hx';rw[hl]at hs;obtain⟨a,vs,e1,e2,⟨m,e3⟩,rr⟩:=hs;refine wpAny_Name (dG En.kind F hx' pl.2 e1 ⟨a,vs,rfl,⟨_,_,e3,rfl,rfl,rfl⟩, ?_⟩) pl.1;refine GE.ok e oe O s S _ _ λu s1 k1 r1 => ?_
 have e3':=Kp.keep k1 _ _ e3;have S1:=S.keeps k1;have rr1:=Reps.on (Kp.on (X:=am env X O) k1) rr;have hsz:vs.size=l.length:=by rw[<-c0,<-rr1.length]
 refine append_at e3' (λh' hs el => ?_) (by rw[hsz];exact d9 hc);have kp:∀b o,b≠a->s1.heap.get? b=some o->h'.get? b=some o:=λb o nb e=>(hs.2 b nb).trans e
 have S2:=S1.own_set (h':={ s1 with heap:=h' }) (l':=l++[(E e).2]) hx' hl e2 kp (aq _) el (by
  rw[Array.toList_push];exact Reps.append rr1 (Reps.cons r1 Reps.nil))
 exact q _ _ ⟨O,S2,AW (tk:=s1.toks) k1 e2 kp (aq _)⟩
theorem Dh{a b:List Nat}{t t':Tok}{s:Shared}{P:Addr->Prop}(h:a.length+b.length<=cap):aS G A P (inplaceOp .Add (.str (tx a) t) (.str (tx b) t')) (.str (a++b)) s:=
 fx λE Q q=>PyProof.Rows.iadd_str (by rw[<-q8];exact q) (by rw[aV,aV];exact d9 h)
theorem Fc{op:Operator}{v w:V}{u u':Value}{s:Shared}{P:Addr->Prop}(ob:(dv op v w).1=true)(oa:qX op v=true)(r:ak G P s v u)(r':ak G P s w u'):aS G A P (inplaceOp op u u') (dv op v w).2 s:=by
 induction v using V.casesOn with
 |int i=>
  obtain⟨t,rfl⟩:=ak.int_iff.mp r;refine iQ (c:=λu'=>inplaceOp op (.int i t) u') r' ob λj t' _ => ?_
  induction op using Operator.casesOn with
  |Add=>exact bx λE Q q=>iadd_int (q _ _)
  |Sub=>exact bx λE Q q=>isub_int (q _ _)
  |_=>exact aa oa
 |str a=>
  obtain⟨t,rfl⟩:=ak.str_iff.mp r
  induction op using Operator.casesOn with
  |Add=>exact j5 (c:=λu'=>inplaceOp .Add (.str (tx a) t) u') r' ob λb t' ok=>Dh (aY ok)
  |_=>exact aa oa
 |_=>exact aa oa
theorem AZ{E:Expr->R}(En:aw env κ)(GE:aL G A env X ρ E){x:Str}{p pos:Pos}{op:Operator}{e:Expr}{v:V}(hl:lk ρ (nm x) = .val v)(oe:(E e).1=true)(hx:ag (kd κ (nm x))=true)(ob:(dv op v (E e).2).1=true)(oa:qX op v=true):
 eU G A env X ρ (exec (.AugAssign (.Name x p) op e pos) env) (true, .next (put ρ (nm x) (.val (dv op v (E e).2).2))):=by
 intro _ O s S E' Q q;have hx':ag (env.kindOf x)=true:=(En.names x).trans hx;have pl:=En.plain x (by rw[hx'];rfl);obtain⟨g,F,hg⟩:=S.look;have hs:=hg x hx';rw[hl]at hs;obtain⟨u,e1,r0⟩:=hs;exact wpAny_AugAssign_Name (dG En.kind F hx' pl.2 e1 (GE.ok e oe O s S _ _ λu' s1 k1 r1=>Fc ob oa (r0.on (Kp.on k1)) r1 _ _ λw s2 k2 r2=>
  cI ((S.keeps k1).keeps k2) En hx r2 λh' tk' hle S' kp al=>q _ _ ⟨_,S',wQ (Kp.trans k1 k2) kp hle⟩))
theorem wY{E:Expr->R}(En:aw env κ)(GE:aL G A env X ρ E){x y:Str}{p p' pos:Pos}{e:Expr}(oe:(E e).1=true)(hx:ag (kd κ (nm x))=true)(hy:ag (kd κ (nm y))=true):
 eU G A env X ρ (exec (.Assign [.Name x p, .Name y p'] e pos) env) (true, .next (put (put ρ (nm x) (.val (E e).2)) (nm y) (.val (E e).2))):=by
 intro _ O s S E' Q q;refine wpAny_Assign_two (GE.ok e oe O s S _ _ λu s1 k1 r1=>wpAny_assign_Name (cI (S.keeps k1) En hx r1 λh' tk hle S' kp al=>wpAny_assign_Name (cI (v:=(E e).2) (s:={ s1 with heap:=h',toks:=tk }) S' En hy ?_ λh2 tk2 hle2 S2 kp2 al2 => ?_)))
 ·exact r1.on ⟨λb o nb e=>kp b o (λpl=>nb (.inr (.inl pl.own))) e,λb o _ f=>cU f,hle⟩
 ·refine q _ _ ⟨_,S2, ?_⟩
  obtain⟨h1,t1,e1,kk,l1⟩:=k1;subst e1;exact⟨h2,tk2,rfl,λb o nb e=>kp2 b o (λpl=>nb (.inr (.inl pl.own))) (kp b o (λpl=>nb (.inr (.inl pl.own))) (kk b o e)),λb o _ f=>cU (cU f),ah l1 (ah hle hle2)⟩
theorem tA{E:Expr->R}(En:aw env κ)(GE:aL G A env X ρ E){x y z:Str}{p p' p'' pos:Pos}{e:Expr}(oe:(E e).1=true)(hx:ag (kd κ (nm x))=true)(hy:ag (kd κ (nm y))=true)(hz:ag (kd κ (nm z))=true):
 eU G A env X ρ (exec (.Assign [.Name x p, .Name y p', .Name z p''] e pos) env) (true, .next (put (put (put ρ (nm x) (.val (E e).2)) (nm y) (.val (E e).2)) (nm z) (.val (E e).2))):=by
 intro _ O s S E' Q q;refine wpAny_Assign_three (GE.ok e oe O s S _ _ λu s1 k1 r1=>wpAny_assign_Name (cI (S.keeps k1) En hx r1 λh' tk hle S' kp al=>wpAny_assign_Name (cI (v:=(E e).2) (s:={ s1 with heap:=h',toks:=tk }) S' En hy ?_ λh2 tk2 hle2 S2 kp2 al2=>
  wpAny_assign_Name (cI (v:=(E e).2) (s:={ s1 with heap:=h2,toks:=tk2 }) S2 En hz ?_ λh3 tk3 hle3 S3 kp3 al3 => ?_))))
 ·exact r1.on ⟨λb o nb e=>kp b o (λpl=>nb (.inr (.inl pl.own))) e,λb o _ f=>cU f,hle⟩
 ·exact(ak.on (h':={ s1 with heap:=h',toks:=tk }) ⟨λb o nb e=>kp b o (λpl=>nb (.inr (.inl pl.own))) e,λb o _ f=>cU f,hle⟩ r1).on ⟨λb o nb e=>kp2 b o (λpl=>nb (.inr (.inl pl.own))) e,λb o _ f=>cU f,hle2⟩
 ·refine q _ _ ⟨_,S3, ?_⟩
  obtain⟨h1,t1,e1,kk,l1⟩:=k1;subst e1;exact⟨h3,tk3,rfl,λb o nb e=>kp3 b o (λpl=>nb (.inr (.inl pl.own))) (kp2 b o (λpl=>nb (.inr (.inl pl.own))) (kp b o (λpl=>nb (.inr (.inl pl.own))) (kk b o e))),λb o _ f=>cU (cU (cU f)),ah l1 (ah hle (ah hle2 hle3))⟩
theorem tC (Fa:aU G A Φ) {E:Expr->R} (En:aw env κ) (GE:aL G A env X ρ E) {ts:List Expr} {k:Nat} {p pos:Pos} {e:Expr} (hne:mQ e=none) (oe:(E e).1=true) (ot:(bU (.Tuple ts 0 default) (E e).2 ρ).1=true)
 (hx:iq κ (bh (.Tuple ts 0 default))=true):eU G A env X ρ (exec (.Assign [.Tuple ts k p] e pos) env) (true, .next (bU (.Tuple ts 0 default) (E e).2 ρ).2):=by
 intro _ O s S E' Q q;refine wpAny_Assign_stores (GE.ok e oe O s S _ _ λu s1 k1 r1 => ?_) (AY (env:=env) (ts:=ts) (k:=k) (p:=p) (l:=pos.line)) (u3 hne);show wpAny _ A (assign (.Tuple ts k p) env u) _ _ s1;refine wJ (t := .Tuple ts k p) Fa.none En ot (λx hm=>cq hx x hm) (S.keeps k1) r1 E' _ λs2 S2 mv => ?_
 refine q _ _ ⟨_,S2, ?_⟩;obtain⟨h1,t1,e1,kk,l1⟩:=k1;subst e1;obtain⟨h2,t2,e3,k2,al,l2⟩:=mv;subst e3;exact⟨h2,t2,rfl,λb o nb e=>k2 b o (λx _ pl=>nb (.inr (.inl pl.own))) (kk b o e),λb o _ f=>am.upd f,ah l1 l2⟩
theorem eU.of{t:Sem Flow}{r:Res}{o:gm}(h:eU G A env X ρ t (true,o))(e:r.2=o):eU G A env X ρ t r:=λ_ O s S E Q q=>h rfl O s S E Q (by rw[e]at q;exact q)
theorem A0(Fa:aU G A Φ)(En:aw env κ){τ:Tau}{e:Expr}{pos p:Pos}{x:Str}(h1:(ev Φ τ 40 κ ρ e).1=true)(h2:ag (kd κ (nm x))=true):eU G A env X ρ (exec (.Assign [.Name x p] e pos) env) (true, .next (put ρ (nm x) (.val (ev Φ τ 40 κ ρ e).2))):=by
 generalize hc:eV e=b
 induction b using Bool.casesOn with
 |false=>exact m6 En ((gV Fa τ 40 κ env X ρ En).1.ok _ h1) h2 (lc hc _ _)
 |true=>
  exact uY (n:=39) Fa En hc h1 h2
theorem wZ{μ:List Nm}{x:Nm}{e:Expr}{v:V}:(∃l,v = .list l/\iN e=true/\iO μ x e v = .own l)\/iO μ x e v = .val v:=by
 induction v using V.casesOn with
 |list l=>
  show(∃l',V.list l = .list l'/\iN e=true/\(bif mI x μ&&iN e then Mine.Slot.own l else .val (.list l)) = .own l')\/(bif mI x μ&&iN e then Mine.Slot.own l else .val (.list l)) = .val (.list l);generalize h:(mI x μ&&iN e)=b
  induction b using Bool.casesOn with
  |true=>exact .inl ⟨l,rfl,(bc h).2,rfl⟩
  |false=>exact .inr rfl
 |_=>exact .inr rfl
theorem y5(Fa:aU G A Φ)(En:aw env κ){τ:Tau}{μ:List Nm}{e:Expr}{pos p:Pos}{x:Str}:eU G A env X ρ (exec (.Assign [.Name x p] e pos) env) (CH (ev Φ τ 40 κ ρ) κ μ ρ (.Name x p) e):=λok=>by
 have ok':=bc ok;refine eU.of (o := .next (put ρ (nm x) (iO μ (nm x) e (ev Φ τ 40 κ ρ e).2))) ?_ rfl ok
 rcases wZ (μ:=μ) (x:=nm x) (e:=e) (v:=(ev Φ τ 40 κ ρ e).2)with⟨l,hv,hf,h⟩|h
 ·rw[h]
  exact wR En (AT Fa En (n:=38) hf ok'.1 hv) ok'.2 (lc (pA hf).comp _ _)
 ·rw[h];exact A0 Fa En ok'.1 ok'.2
theorem w0{e:Expr}{es:List Expr}(h:mQ e=some es):∃k p,e = .Tuple es k p:=by
 induction e using Expr.casesOn with
 |Tuple es' k p=>rw[<-bR h];exact⟨k,p,rfl⟩
 |_=>exact aD h
theorem A3(Fa:aU G A Φ)(En:aw env κ){E:Expr->R}(GE:∀X,aL G A env X ρ E){μ:List Nm}{ts:List Expr}{e:Expr}{k:Nat}{p pos:Pos}:eU G A env X ρ (exec (.Assign [.Tuple ts k p] e pos) env) (CG E κ μ ρ ts e (mQ e)):=by
 generalize h:mQ e=o
 induction o using Option.casesOn with
 |some es=>
  obtain⟨k',p',rfl⟩:=w0 h;intro ok;have a1:=bc ok;have a2:=bc a1.1;have a3:=bc a1.2;have a4:=bc a3.1;exact(wX Fa.none En (GE X) a2.1 a2.2 ((Bool.not_eq_true' _).mp a4.1) a4.2 a3.2).of rfl ok
 |none=>
  intro ok;have a1:=bc ok;have a2:=bc a1.1;exact(tC Fa En (GE X) h a2.1 a2.2 a1.2).of rfl ok
theorem A4(En:aw env κ){E:Expr->R}(GE:aL G A env X ρ E){x:Str}{i e:Expr}{p p' pos:Pos}:eU G A env X ρ (exec (.Assign [.Subscript (.Name x p) i p'] e pos) env) (CF (ag (kd κ (nm x))) ρ (nm x) (E i) (E e) (lk ρ (nm x))):=by
 generalize hl:lk ρ (nm x)=sl
 induction sl using Mine.Slot.casesOn with
 |own l=>
  show eU G A env X ρ _ (EW (ag (kd κ (nm x))&&(E i).1) ρ (nm x) l (E e) (E i).2);generalize hj:(E i).2=j
  induction j using V.casesOn with
  |int j=>
   intro ok;have a1:=bc ok;have a2:=bc a1.1;have a3:=bc a2.2;have a4:=bc a1.2;have a5:=bc a4.1;exact(u4 En GE hl hj a3.2 a2.1 a3.1 (aY a5.1) (aY a5.2) (aY a4.2)).of rfl ok
  |_=>exact λok=>aa ok
 |_=>exact λok=>aa ok
theorem gf{v:V}{t:Expr}{ts:List Expr}(h:(uv v (t::ts) ρ).1=true):∃x p,t = .Name x p/\(uv v ts (put ρ (nm x) (.val v))).1=true:=by
 induction t using Expr.casesOn with
 |Name x p=>exact⟨x,p,rfl,h⟩
 |_=>exact aa h
theorem A5(Fa:aU G A Φ)(En:aw env κ){τ:Tau}{μ:List Nm}{t e:Expr}{pos:Pos}:eU G A env X ρ (exec (.Assign [t] e pos) env) (CH (ev Φ τ 40 κ ρ) κ μ ρ t e):=by
 induction t using Expr.casesOn with
 |Name x p=>exact y5 Fa En
 |Tuple ts k p=>exact A3 (μ:=μ) Fa En λX=>(gV Fa τ 40 κ env X ρ En).1
 |Subscript o i p'=>induction o using Expr.casesOn with
  |Name x p=>exact A4 En (gV Fa τ 40 κ env X ρ En).1
  |_=>exact λok=>aa ok
 |_=>exact λok=>aa ok
theorem u6(Fa:aU G A Φ)(En:aw env κ){τ:Tau}{μ:List Nm}{ts:List Expr}{e:Expr}{pos:Pos}:eU G A env X ρ (exec (.Assign ts e pos) env) (gR (ev Φ τ 40 κ ρ) κ μ ρ ts e):=by
 have GE:=(gV (G:=G) (A:=A) Fa τ 40 κ env X ρ En).1
 induction ts using List.casesOn with
 |nil=>exact λok=>aa ok
 |cons t ts=>induction ts using List.casesOn with
  |nil=>exact A5 Fa En
  |cons t2 ts=>induction ts using List.casesOn with
   |nil=>
    intro ok;have a1:=bc ok;have a2:=bc a1.1;obtain⟨x,p,rfl,b2⟩:=gf a2.2;obtain⟨y,p',rfl,_⟩:=gf b2;have hn:=cq a1.2;exact(wY En GE a2.1 (hn _ (aO ..)) (hn _ (aG _ (aO ..)))).of rfl ok
   |cons t3 ts=>induction ts using List.casesOn with
    |nil=>
     intro ok;have a1:=bc ok;have a2:=bc a1.1;obtain⟨x,p,rfl,b2⟩:=gf a2.2;obtain⟨y,p',rfl,b3⟩:=gf b2;obtain⟨z,p'',rfl,_⟩:=gf b3;have hn:=cq a1.2;exact(tA En GE a2.1 (hn _ (aO ..)) (hn _ (aG _ (aO ..))) (hn _ (aG _ (aG _ (aO ..))))).of rfl ok
    |cons _ _=>exact λok=>aa ok
theorem Fd{x:Nm}(h1:ag (kd κ x)=true)(h:(rd κ Φ ρ x).1=true):∃v,lk ρ x = .val v/\(rd κ Φ ρ x).2=v:=by
 unfold rd at h |-;rw[h1]at h |-;generalize lk ρ x=sl at h |-
 induction sl using Mine.Slot.casesOn with
 |val v=>exact⟨v,rfl,rfl⟩
 |_=>exact aa h
theorem A6(Fa:aU G A Φ)(En:aw env κ){τ:Tau}{t:Expr}{op:Operator}{e:Expr}{pos:Pos}:eU G A env X ρ (exec (.AugAssign t op e pos) env) (qY (ev Φ τ 40 κ ρ) κ Φ ρ t op e):=by
 induction t using Expr.casesOn with
 |Name x p=>
  intro ok;have a5:=bc ok;have a4:=bc a5.1;have a3:=bc a4.1;have a2:=bc a3.1;obtain⟨v,h1,h2⟩:=Fd a2.1 a2.2;have b4:=a4.2;have b5:=a5.2;rw[h2]at b4 b5;refine(AZ En (gV Fa τ 40 κ env X ρ En).1 h1 a3.2 a2.1 b4 b5).of ?_ ok;show gm.next (put ρ (nm x) (.val (dv op (rd κ Φ ρ (nm x)).2 (ev Φ τ 40 κ ρ e).2).2))=_;rw[h2]
 |_=>exact λok=>aa ok
noncomputable def G1(e:Expr)(x:Str×Expr):Prop:=∃p q pos,e = .Call (.Attribute (.Name x.1 p) "append" q) [x.2] [] pos/\q.endLine=pos.line
theorem w5{e:Expr}{x:Str×Expr}(h:uu e=some x):G1 e x:=by
 induction e using Expr.casesOn with
 |Call f as kw pos=>induction f using Expr.casesOn with
  |Attribute o m q=>induction o using Expr.casesOn with
   |Name y p=>induction as using List.casesOn with
    |nil=>exact aD h
    |cons a as=>
     have h:(bif ab (nm m) (nm "append")&&(q.endLine==pos.line)&&as.isEmpty&&kw.isEmpty then some (y,a)else none)=some x:=h;generalize c:(ab (nm m) (nm "append")&&(q.endLine==pos.line)&&as.isEmpty&&kw.isEmpty)=b at h
     induction b using Bool.casesOn with
     |true=>
      have c1:=bc c;have c2:=bc c1.1;have c3:=bc c2.1;rw[<-bR h,iU c3.1,List.isEmpty_iff.mp c2.2,List.isEmpty_iff.mp c1.2];exact⟨p,q,pos,rfl,eq_of_beq c3.2⟩
     |false=>exact aD h
   |_=>exact aD h
  |_=>exact aD h
 |_=>exact aD h
theorem A7(En:aw env κ){E:Expr->R}(GE:aL G A env X ρ E){x:Str}{a:Expr}{p q pos spos:Pos}(hq:q.endLine=pos.line):eU G A env X ρ (exec (.Expr (.Call (.Attribute (.Name x p) "append" q) [a] [] pos) spos) env) (CI (ag (kd κ (nm x))) ρ (nm x) (E a) (lk ρ (nm x))):=by
 generalize hl:lk ρ (nm x)=sl
 induction sl using Mine.Slot.casesOn with
 |own l=>
  intro ok;have a1:=bc ok;have a2:=bc a1.1;exact(u5 En GE hl a2.1 a2.2 hq (aY a1.2)).of rfl ok
 |_=>exact λok=>aa ok
theorem y6(Fa:aU G A Φ)(En:aw env κ){τ:Tau}{e:Expr}{pos:Pos}:eU G A env X ρ (exec (.Expr e pos) env) (oJ (ev Φ τ 40 κ ρ) κ ρ e):=by
 unfold oJ;generalize h:uu e=o
 induction o using Option.casesOn with
 |none=>exact λok=>aa ok
 |some x=>
  obtain⟨p,q,pos',rfl,hq⟩:=w5 h;exact A7 En (gV Fa τ 40 κ env X ρ En).1 hq
end
end
section
open PySem PySem.W PySem.Calls PyProof.Rows
section
variable {G:Cfg} {A:Around} {env:Env} {X:Addr->Prop} {κ:List (Str×NameKind)} {ρ:Rho} {O:Nm->Option Addr} {Φ:Fns}
noncomputable def tD(M:Model)(A:Around)(env:Env)(E:Value->Shared->Prop):List (List Stmt)->(Flow->Shared->Prop)->Shared->Prop
 |[],Q,s=>Q .next s
 |a::r,Q,s=>wpAny M A (execs a env) (λf s'=>match f with
  | .next=>tD M A env E r Q s'
  |f=>Q f s') E s
theorem eF {M:Model} {E:Value->Shared->Prop} {st:Stmt} {a:List Stmt} {r:List (List Stmt)} {Q:Flow->Shared->Prop} {s:Shared}
 (h:wpAny M A (exec st env) (λf s'=>match f with
   | .next=>tD M A env E (a::r) Q s'
   |f=>Q f s') E s):tD M A env E ((st::a)::r) Q s:=
 wpAny_execs_cons (bK h (λf s' h'=>by induction f using Flow.casesOn<;>exact h') λ_ _ e=>e)
noncomputable def i5(G:Cfg)(A:Around)(env:Env)(X:Addr->Prop)(ρ:Rho)(segs:List (List Stmt))(r:Res):Prop:=
 r.1=true->∀O s,cY G env X O ρ s->∀(E:Value->Shared->Prop) (Q:Flow->Shared->Prop),(∀f s',fq G env X O s r.2 f s'->Q f s')->tD (model G.p G.w) A env E segs Q s
theorem fq.next{s s':Shared}{o:gm}(h:fq G env X O s o .next s'):∃ρ' O',o = .next ρ'/\cY G env X O' ρ' s'/\Mv env O O' s s':=by
 induction o using gm.casesOn with
 |next ρ'=>obtain⟨O',h1,h2⟩:=h;exact⟨ρ',O',rfl,h1,h2⟩
 |_=>exact h.elim
theorem fq.other{s s':Shared}{o:gm}{f:Flow}(hf:f ≠ .next)(h:fq G env X O s o f s'):(∀ρ',o ≠ .next ρ'):=by
 induction o using gm.casesOn with
 |next ρ'=>induction f using Flow.casesOn<;>first|exact absurd rfl hf|exact h.elim
 |_=>intro _ e;injections e
theorem jz{st:Stmt}{a:List Stmt}{r:List (List Stmt)}{q:Res}{k:Rho->Res}(h1:eU G A env X ρ (exec st env) q)(h2:∀ρ',i5 G A env X ρ' (a::r) (k ρ')):i5 G A env X ρ ((st::a)::r) (seq q k):=by
 intro ok O s S E Q post;obtain⟨b,o⟩:=q;have hb:b=true:=by
  induction o using gm.casesOn with
  |next ρ'=>have:(b&&(k ρ').1)=true:=ok;rw[aK]at this;exact this.1
  |_=>exact ok
 refine eF (h1 hb O s S E _ λf s' hf => ?_)
 by_cases hn:f = .next
 ·subst hn
  obtain⟨ρ',O',e,S',m⟩:=fq.next hf;have e:o = .next ρ':=e;subst e;have ok':(b&&(k ρ').1)=true:=ok;rw[aK]at ok';exact h2 ρ' ok'.2 O' s' S' E Q λf' s'' h'=>post f' s'' (fq.from m h')
 ·have ho:=fq.other hn hf
  have e2:(seq (b,o) k).2=o:=by
   induction o using gm.casesOn with
   |next ρ'=>exact absurd rfl (ho ρ')
   |_=>rfl
  rw[e2]at post;have hq:=post f s' hf
  induction f using Flow.casesOn<;>first|exact absurd rfl hn|exact hq
theorem eh{ns:List Nm}{segs:List (List Stmt)}{r:Res}(h:i5 G A env X (freeze ns ρ) segs r):i5 G A env X ρ segs r:=by
 intro ok O s S E Q post;obtain⟨O',S',f⟩:=S.coarse (ρ':=freeze ns ρ) (rH ns ρ);refine h ok O' s S' E Q λf' s' hr=>post f' s' (fq.from ⟨s.heap,s.toks,rfl,λ_ _ _ e=>e,λb o _ fb=>f _ b fb,aq _⟩ hr)
theorem A8(Fa:aU G A Φ)(En:aw env κ){τ:Tau}{t:Expr}{b:List Stmt}{pos:Pos}{f:Rho->Res}{W:Nat}(hb:∀ρ',i5 G A env X ρ' [b] (f ρ')):
 eU G A env X ρ (exec (.While t b [] pos) env) (cS (λρ=>ev Φ τ 40 κ ρ t) f W ρ):=by
 intro ok O s S E Q post;refine wpAny_While (codeAny_whileLoop (λn s'=>∃ρ' O',cY G env X O' ρ' s'/\Mv env O O' s s'/\(cS (λρ=>ev Φ τ 40 κ ρ t) f n ρ').1=true/\(cS (λρ=>ev Φ τ 40 κ ρ t) f n ρ').2=(cS (λρ=>ev Φ τ 40 κ ρ t) f W ρ).2) (λn s' hI => ?_) W ⟨ρ,O,S,Mv.refl s,ok,rfl⟩);obtain⟨ρ',O',S',m,o1,o2⟩:=hI
 induction n using Nat.casesOn with
 |zero=>cases o1
 |succ n=>
  rw[kP]at o1 o2;have GT:=(gV (G:=G) (A:=A) Fa τ 40 κ env X ρ' En).2;cases hc:(ad (ev Φ τ 40 κ ρ' t).2).2 with
  |false=>
   rw[hc]at o1 o2;simp only[cond_false,aK]at o1 o2;refine GT.ok t o1.1 o1.2 O' s' S' _ _ λs2 k2 => ?_
   rw[hc];simp only[Bool.false_eq_true,if_false];refine wpAny_execs_nil (post .next s2 ?_);rw[<-o2];exact⟨O',S'.keeps k2,m.trans (Mv.of_keeps k2)⟩
  |true=>
   rw[hc]at o1 o2;simp only[cond_true]at o1 o2;have hz:(ev Φ τ 40 κ ρ' t).1=true/\(ad (ev Φ τ 40 κ ρ' t).2).1=true/\(f ρ').1=true:=by
    cases e:(f ρ').2<;>rw[e]at o1<;>simp only[aK]at o1
    ·exact⟨o1.1.1.1,o1.1.1.2,o1.1.2⟩
    ·exact⟨o1.1.1,o1.1.2,o1.2⟩
    ·exact⟨o1.1.1,o1.1.2,o1.2⟩
    ·exact⟨o1.1.1,o1.1.2,o1.2⟩
   refine GT.ok t hz.1 hz.2.1 O' s' S' _ _ λs2 k2 => ?_
   rw[hc];simp only[if_true];have S2:=S'.keeps k2;have m2:=m.trans (Mv.of_keeps k2);have body:=hb ρ' hz.2.2 O' s2 S2;refine bK (body _ (λfl s3=>match fl with
    | .next| .cont=>∃m',m'<n+1/\∃ρ'' O'',cY G env X O'' ρ'' s3/\Mv env O O'' s s3/\(cS (λρ=>ev Φ τ 40 κ ρ t) f m' ρ'').1=true/\(cS (λρ=>ev Φ τ 40 κ ρ t) f m' ρ'').2=(cS (λρ=>ev Φ τ 40 κ ρ t) f W ρ).2
    | .brk=>Q .next s3
    | .ret v=>Q (.ret v) s3) λfl s3 hr => ?_) (λfl s3 h=>by induction fl using Flow.casesOn<;>exact h) λ_ _ e=>e
   cases e:(f ρ').2 with
   |next ρ''=>
    rw[e]at hr o1 o2
    induction fl using Flow.casesOn with
    |next=>
     obtain⟨O3,S3,m3⟩:=hr;simp only[aK]at o1;exact⟨n,Nat.lt_succ_self n,ρ'',O3,S3,m2.trans m3,o1.2,o2⟩
    |_=>exact hr.elim
   |brk ρ''=>
    rw[e]at hr o2
    induction fl using Flow.casesOn with
    |brk=>
     obtain⟨O3,S3,m3⟩:=hr;refine post .next s3 ?_;rw[<-o2];exact⟨O3,S3,m2.trans m3⟩
    |_=>exact hr.elim
   |ret v=>
    rw[e]at hr o2
    induction fl using Flow.casesOn with
    |ret u=>
     obtain⟨O3,r3,m3⟩:=hr;refine post (.ret u) s3 ?_;rw[<-o2];exact⟨O3,r3,m2.trans m3⟩
    |_=>exact hr.elim
   |bad=>rw[e]at hr;induction fl using Flow.casesOn<;>exact hr.elim
theorem It.draw {t:Expr} {X0:Addr->Prop} {hp:Shared} {it:Value} {fp wr:List Addr} {xs:List V} {St:Nat->Heap->Prop} (I:It G A t X0 hp it fp wr xs St) {i:Nat} {s:Shared} {Y:Addr->Prop} (hi:i<xs.length) (st:St i s.heap) (on:On X0 Y hp s) (al:bB Y s.heap) (hw:∀b∈wr,Y b)
 {E:Value->Shared->Prop} {N:Shared->Prop} {P:Value->Shared->Prop}
 (q:∀v h' tk,s.toks<=tk->ak G Y { s with heap:=h',toks:=tk } (xs.getD i .none) v->St (i+1) h'->(∀b o,b∉wr->s.heap.get? b=some o->h'.get? b=some o)->P v { s with heap:=h',toks:=tk }):
 wpAny (model G.p G.w) A (pyNext it) (λr s₁=>match r with
  |none=>N s₁
  |some v=>wpAny (model G.p G.w) A (letOwnedTupleGo t it v) (λ_ s₂=>P v s₂) E s₁) E s:=
 bK (I.item i s Y hi st on al hw E P q) (λr s1 h=>by obtain⟨v,rfl,h⟩:=h;exact h) λ_ _ e=>e
inductive G2(G:Cfg)(env:Env)(X:Addr->Prop)(O:Nm->Option Addr)(wr:List Addr)(St:Nat->Heap->Prop)(xs:List V)(F:V->Rho->Res)(ρ:Rho)(s4:Shared)(i:Nat)(s':Shared):Prop
 |mk (ρ':Rho) (O':Nm->Option Addr) (_:i<=xs.length) (_:cY G env (λb=>X b\/b∈wr) O' ρ' s') (_:St i s'.heap) (_:∃h tk,s'={ s4 with heap:=h,toks:=tk }/\s4.toks<=tk)
  (_:∀b o,¬am env pv O b->b∉wr->s4.heap.get? b=some o->s'.heap.get? b=some o) (_:∀b o,s4.heap.get? b=some o->am env pv O' b->am env pv O b)
  (_:(dc F ρ (xs.drop i) ρ').1=true) (_:(dc F ρ (xs.drop i) ρ').2=(dc F ρ xs ρ).2)
theorem Fe(Fa:aU G A Φ)(En:aw env κ){τ:Tau}{t it:Expr}{b:List Stmt}{pos:Pos}{f:Rho->Res}(hb:∀(X:Addr->Prop) ρ',i5 G A env X ρ' [b] (f ρ'))(oi:(ci κ (ev Φ τ 40 κ ρ) t it).1=true)(ht:iq κ (bh t)=true):
 eU G A env X ρ (exec (.For t it b [] pos) env) (dc (λv ρ=>((bU t v ρ).1&&(f (bU t v ρ).2).1,(f (bU t v ρ).2).2)) ρ (ci κ (ev Φ τ 40 κ ρ) t it).2 ρ):=by
 generalize hF:(λv ρ=>((bU t v ρ).1&&(f (bU t v ρ).2).1,(f (bU t v ρ).2).2):V->Rho->Res)=F;intro ok O s S E Q post;have GE:=(gV (G:=G) (A:=A) Fa τ 40 κ env X ρ En).1;have htn:∀x∈bh t,ag (kd κ x)=true:=λx hx=>cq ht x hx
 refine wpAny_For ?_ (x6 GE oi);refine x4 (t:=t) Fa En GE oi O s S _ _ λitv s4 k4 I4 => ?_
 obtain⟨s1,fp,wr,St,k1,k14,I,st4,nfp,nwr⟩:=I4;generalize hxs:(ci κ (ev Φ τ 40 κ ρ) t it).2=xs at I ok post;have live4:=I.live _ _ st4;have S1:=S.keeps k1;have dead:∀b,(∃o,s1.heap.get? b=some o)->b∉wr:=λb ⟨o,e⟩ hb=>by rw[nwr b hb]at e;injections e
 obtain⟨S4,_⟩:=S1.more k14 (Z:=λb=>b∈wr) λb hb=>⟨nwr b hb,live4 b (I.sub b hb)⟩
 have fpN:∀b∈fp,¬am env pv O b:=λb hb f=>nfp b hb (f.elim (λh=>h.elim) Or.inr)
 have away:∀{O':Nm->Option Addr} {ρ':Rho} {h:Shared},cY G env (λb=>X b\/b∈wr) O' ρ' h->∀{h':Shared},(∀b o,b∉wr->h.heap.get? b=some o->h'.heap.get? b=some o)->h.toks<=h'.toks->cY G env X O' ρ' h':=λ{O' ρ' h} S' {h'} k le=>
  S'.less (Z:=λb=>b∈wr) (λb hb => .inr hb) (λb hb=>⟨.inl hb,dead b (S1.alive b (.inl hb))⟩) (λb hb=>dead b (S1.alive b (.inr (.inl hb)))) (λb o nz e=>k b o nz e) le
 refine codeAny_forLoop_any (λn s'=>∃i,n=xs.length-i/\G2 G env X O wr St xs F ρ s4 i s') (λn s' hI => ?_) xs.length
  ⟨0,rfl,ρ,O,bw _,S4,st4,⟨s4.heap,s4.toks,rfl,aq _⟩,λb o _ _ e=>e,λb o _ f=>f,ok,rfl⟩
 obtain⟨i,rfl,ρ',O',hi,S',st',⟨h',tk',e',le'⟩,kp,off,o1,o2⟩:=hI;have mvT:∀{O'':Nm->Option Addr} {h'':Heap} {tk'':Nat},(∀b o,¬am env pv O b->b∉wr->s4.heap.get? b=some o->h''.get? b=some o)->(∀b o,s4.heap.get? b=some o->am env pv O'' b->am env pv O b)->s4.toks<=tk'' ->
  Mv env O O'' s { s4 with heap:=h'',toks:=tk'' }:=λ{O'' h'' tk''} kp' off' le4=>by
  obtain⟨h4,t4,e4,kk4,l4⟩:=k4;subst e4;exact⟨h'',tk'',rfl,λb o nb e=>kp' b o nb (dead b ⟨o,Kp.keep k1 b o e⟩) (kk4 b o e),λb o e f=>off' b o (kk4 b o e) f,ah l4 le4⟩
 by_cases hlt:i<xs.length
 ·rw[td hlt]at o1 o2
  generalize hx:xs.getD i .none=x at o1 o2;have oF:(F x ρ').1=true:=by
   rw[iP]at o1;generalize (F x ρ').2=o at o1
   induction o using gm.casesOn with
   |next r=>exact(bc o1).1
   |_=>exact o1
  have eF1:(F x ρ').1=((bU t x ρ').1&&(f (bU t x ρ').2).1):=by rw[<-hF]
  have eF2:(F x ρ').2=(f (bU t x ρ').2).2:=by rw[<-hF]
  rw[eF1,aK]at oF;have onX:On (am env X O) (am env (λb=>X b\/b∈wr) O') s1 s':=⟨λb o nb e=>kp b o (λf=>nb (f.elim (λh=>h.elim) Or.inr)) (dead b ⟨o,e⟩) (Kp.keep k14 b o e),λb o e f=>by
   rcases f with(f|f)|f|f
   ·exact .inl f
   ·exact absurd f (dead b ⟨o,e⟩)
   ·exact .inr (.inl f)
   ·rcases off b o (Kp.keep k14 b o e) (.inr (.inr f))with f|f|f
    ·exact f.elim
    ·exact .inr (.inl f)
    ·exact .inr (.inr f),ah (Kp.le k14) (by rw[e'];exact le')⟩
  refine I.draw (Y:=am env (λb=>X b\/b∈wr) O') hlt st' onX S'.full (λb hb => .inl (.inr hb)) λv h2 tk2 hle2 rv st2 k2 => ?_
  have S2:cY G env (λb=>X b\/b∈wr) O' ρ' { s' with heap:=h2,toks:=tk2 }:=S'.skip (Z:=λb=>b∈wr) (λb hb => .inr hb) (λb hb=>dead b (S1.alive b (.inr (.inl hb)))) (λb o nz e=>k2 b o nz e) (λb hb=>I.live _ _ st2 b (I.sub b hb)) hle2;rw[hx]at rv;refine wJ (s:={ s' with heap:=h2,toks:=tk2 }) Fa.none En oF.1 htn S2 rv _ _ λs3 S3 mv3 => ?_
  obtain⟨h3,tk3,e3,k3,al3,hle3⟩:=mv3;have hle':s4.toks<=s'.toks:=by rw[e'];exact le'
  have own4:∀b,fH env b->∀c∈fp,b≠c:=λb hb c hc e=>nfp c hc (.inr (.inl (e▸hb)))
  have st3:St (i+1) h3:=I.frame _ _ _ st2 λb hb o e=>k3 b o (λy _ pl=>own4 b pl.own b hb rfl) e
  have hs3:s3.heap=h3:=by rw[e3]
  have kp3:∀b o,¬am env pv O b->b∉wr->s4.heap.get? b=some o->s3.heap.get? b=some o:=λb o nb nw e=>by
   rw[hs3];exact k3 b o (λy _ pl=>nb (.inr (.inl pl.own))) (k2 b o nw (kp b o nb nw e))
  have off3:∀b o,s4.heap.get? b=some o->am env pv (kX O' (bh t)) b->am env pv O b:=λb o e fb=>off b o e (am.upd fb)
  have same3:∃h tk,s3={ s4 with heap:=h,toks:=tk }/\s4.toks<=tk:=⟨h3,tk3,by rw[e3,e'],ah hle' (ah hle2 hle3)⟩;refine bK (hb (λb=>X b\/b∈wr) _ oF.2 _ s3 S3 _ (λfl s5=>match fl with
   | .next| .cont=>∃m',m'<xs.length-i/\∃i,m'=xs.length-i/\G2 G env X O wr St xs F ρ s4 i s5
   | .brk=>Q .next s5
   | .ret v=>Q (.ret v) s5) λfl s5 hr => ?_) (λfl s5 h=>by induction fl using Flow.casesOn<;>exact h) λ_ _ e=>e
  have fin:∀{O5:Nm->Option Addr},Mv env (kX O' (bh t)) O5 s3 s5->(∃h tk,s5={ s4 with heap:=h,toks:=tk }/\s4.toks<=tk)/\(∀b o,¬am env pv O b->b∉wr->s4.heap.get? b=some o->s5.heap.get? b=some o) /\
   (∀b o,s4.heap.get? b=some o->am env pv O5 b->am env pv O b\/b∈wr)/\(∀b o,b∈fp->s3.heap.get? b=some o->s5.heap.get? b=some o):=λ{O5} mv5=>by
   obtain⟨h5,t5,e5,on5⟩:=mv5;subst e5;obtain⟨h3',tk3',e3',l3'⟩:=same3;have l35:s4.toks<=t5:=ah (by rw[e3'];exact l3') on5.tk;refine⟨⟨h5,t5,by rw[e3'],l35⟩,λb o nb nw e => ?_,λb o e fb => ?_,λb o hb e => ?_⟩
   ·refine on5.keep b o (λf=>nb (off3 b o e f)) (kp3 b o nb nw e)
   ·by_cases hw:b∈wr
    ·exact .inr hw
    ·by_cases nb:am env pv O b
     ·exact .inl nb
     ·exact .inl (off3 b o e (on5.off b o (kp3 b o nb hw e) fb))
   ·refine on5.keep b o (λf => ?_) e
    obtain⟨o4,e4⟩:=live4 b hb;exact fpN b hb (off3 b o4 e4 f)
  cases e:(f (bU t x ρ').2).2 with
  |next ρ''=>
   rw[e]at hr
   induction fl using Flow.casesOn with
   |next=>
    obtain⟨O5,S5,mv5⟩:=hr;obtain⟨g1,g2,g3,g4⟩:=fin mv5;obtain⟨O6,S6,f6⟩:=S5.coarse (ρ':=mask ρ ρ'') (tf ρ ρ'');have un:dc F ρ (x::xs.drop (i+1)) ρ'=((F x ρ').1&&(dc F ρ (xs.drop (i+1)) (mask ρ ρ'')).1,(dc F ρ (xs.drop (i+1)) (mask ρ ρ'')).2):=by
     rw[iP,eF2,e]
    rw[un]at o1 o2;simp only[aK]at o1;refine⟨xs.length-(i+1),⋯,i+1,rfl,mask ρ ρ'',O6,hlt,S6,I.frame _ _ _ (hs3▸st3) λb hb o e=>g4 b o hb e,g1,g2,λb o e fb => ?_,o1.2,o2⟩;have fb5:=f6 pv b fb
    rcases g3 b o e fb5 with h|h
    ·exact h
    ·rcases fb5 with f|f|⟨y,f⟩
     ·exact f.elim
     ·exact .inr (.inl f)
     ·exact absurd (Or.inr h) (S5.apart y b f).1
   |_=>exact hr.elim
  |brk ρ''=>
   rw[e]at hr
   induction fl using Flow.casesOn with
   |brk=>
    obtain⟨O5,S5,mv5⟩:=hr;obtain⟨⟨h5,t5,e5,l5⟩,g2,g3,g4⟩:=fin mv5;have S5':=away S5 (h':=s5) (λ_ _ _ e=>e) (aq _);obtain⟨O6,S6,f6⟩:=S5'.coarse (ρ':=mask ρ ρ'') (tf ρ ρ'');have un:dc F ρ (x::xs.drop (i+1)) ρ'=((F x ρ').1, .next (mask ρ ρ'')):=by
     rw[iP,eF2,e]
    rw[un]at o2;refine post .next s5 ?_;rw[<-o2];refine⟨O6,S6, ?_⟩;subst e5;refine mvT g2 (λb o e fb => ?_) l5;have fb5:=f6 pv b fb
    rcases g3 b o e fb5 with h|h
    ·exact h
    ·rcases fb5 with f|f|⟨y,f⟩
     ·exact f.elim
     ·exact .inr (.inl f)
     ·exact absurd (Or.inr h) (S5.apart y b f).1
   |_=>exact hr.elim
  |ret v=>
   rw[e]at hr
   induction fl using Flow.casesOn with
   |ret u=>
    obtain⟨O5,r5,mv5⟩:=hr;obtain⟨⟨h5,t5,e5,l5⟩,g2,g3,g4⟩:=fin mv5;have un:dc F ρ (x::xs.drop (i+1)) ρ'=((F x ρ').1, .ret v):=by
     rw[iP,eF2,e]
    rw[un]at o2;refine post (.ret u) s5 ?_;rw[<-o2];subst e5;refine⟨λy=>match O5 y with|some a=>if a∈wr then none else some a|none=>none,r5.on ⟨λ_ _ _ e=>e,λb o _ fb => ?_,aq t5⟩,mvT g2 (λb o e fb => ?_) l5⟩
    ·rcases fb with f|f|⟨y,f⟩
     ·exact .inl (.inl f)
     ·exact .inr (.inl f)
     ·dsimp only at f
      split at f
      ·split at f
       ·cases f
       ·injection f with f;subst f;exact .inr (.inr ⟨y,by assumption⟩)
      ·cases f
    ·rcases fb with f|f|⟨y,f⟩
     ·exact f.elim
     ·exact .inr (.inl f)
     ·dsimp only at f
      split at f
      ·rename_i a ha
       split at f
       ·cases f
       ·rename_i hw
        injection f with f;subst f
        exact(g3 _ o e (.inr (.inr ⟨y,ha⟩))).elim id λh=>absurd h hw
      ·cases f
   |_=>exact hr.elim
  |bad=>rw[e]at hr;induction fl using Flow.casesOn<;>exact hr.elim
 ·have hi':i=xs.length:=⋯
  subst hi';refine I.done s' st' _ _ λh2 tk2 hle2 k2 => ?_
  refine wpAny_execs_nil (post .next _ ?_);rw[List.drop_length]at o2;have e2:(dc F ρ xs ρ).2 = .next ρ':=o2.symm;rw[e2];refine⟨O',away S' (h':={ s' with heap:=h2,toks:=tk2 }) k2 hle2, ?_⟩;subst e';exact mvT (λb o nb nw e=>k2 b o nw (kp b o nb nw e)) off (ah le' hle2)
end
end
section
open PySem PySem.W PySem.Calls PyProof.Rows
section
variable {G:Cfg} {A:Around} {env:Env} {X:Addr->Prop} {κ:List (Str×NameKind)} {ρ:Rho} {O:Nm->Option Addr} {Φ:Fns}
theorem fq.coarser{s s':Shared}{ρ1 ρ2:Rho}(h:fq G env X O s (.next ρ1) .next s')(l:∀x,kf (lk ρ2 x) (lk ρ1 x)):fq G env X O s (.next ρ2) .next s':=by
 obtain⟨O',S,h1,t,e,on⟩:=h;obtain⟨O2,S2,f⟩:=S.coarse l;exact⟨O2,S2,h1,t,e,on.trans ⟨λb o nb hb=>hb,λb o _ fb=>f _ b fb,aq _⟩⟩
theorem Di(Fa:aU G A Φ)(En:aw env κ){τ:Tau}{t:Expr}{a b:List Stmt}{pos:Pos}{ns:List Nm}{ra rb:Res}(ha:i5 G A env X ρ [a] ra)(hb:i5 G A env X ρ [b] rb)(sa:az ns ρ ra.2)(sb:az ns ρ rb.2):
 eU G A env X ρ (exec (.If t a b pos) env) (qZ ns ((ev Φ τ 40 κ ρ t).1&&(ad (ev Φ τ 40 κ ρ t).2).1) (ad (ev Φ τ 40 κ ρ t).2).2 ra rb):=by
 have GT:=(gV (G:=G) (A:=A) Fa τ 40 κ env X ρ En).2;intro ok O s S E Q post;obtain⟨ba,oa⟩:=ra;obtain⟨bb,ob⟩:=rb
 induction oa using gm.casesOn with
 |next ρa=>
  induction ob using gm.casesOn with
  |next ρb=>
   have ok':(((ev Φ τ 40 κ ρ t).1&&(ad (ev Φ τ 40 κ ρ t).2).1)&&(bif (ad (ev Φ τ 40 κ ρ t).2).2 then ba else bb))=true:=ok;simp only[aK]at ok';obtain⟨⟨o1,o2⟩,o3⟩:=ok';have post':∀f s',fq G env X O s (.next (gP ns (ad (ev Φ τ 40 κ ρ t).2).2 ρa ρb)) f s'->Q f s':=post
   refine wpAny_If (GT.ok t o1 o2 O s S _ _ λs1 k1 => ?_);have mo:=uW (ns:=ns) (c:=(ad (ev Φ τ 40 κ ρ t).2).2) (ρ:=ρ) (a:=ρa) (b:=ρb) sa sb;cases hc:(ad (ev Φ τ 40 κ ρ t).2).2 with
   |true=>
    rw[hc]at o3 post' mo;simp only[cond_true]at o3 mo;simp only[if_true];refine bK (ha o3 O s1 (S.keeps k1) E (λf s'=>f = .next/\fq G env X O s1 (.next ρa) .next s') λf s' hr => ?_) (λf s' h => ?_) λ_ _ e=>e
    ·induction f using Flow.casesOn with
     |next=>exact⟨rfl,hr⟩
     |_=>exact hr.elim
    ·induction f using Flow.casesOn with
     |next=>exact post' _ _ (fq.from (Mv.of_keeps k1) (fq.coarser h.2 mo.2))
     |_=>cases h.1
   |false=>
    rw[hc]at o3 post' mo;simp only[cond_false]at o3 mo;simp only[Bool.false_eq_true,if_false];refine bK (hb o3 O s1 (S.keeps k1) E (λf s'=>f = .next/\fq G env X O s1 (.next ρb) .next s') λf s' hr => ?_) (λf s' h => ?_) λ_ _ e=>e
    ·induction f using Flow.casesOn with
     |next=>exact⟨rfl,hr⟩
     |_=>exact hr.elim
    ·induction f using Flow.casesOn with
     |next=>exact post' _ _ (fq.from (Mv.of_keeps k1) (fq.coarser h.2 mo.2))
     |_=>cases h.1
  |_=>injections ok
 |_=>injections ok
theorem u7(Fa:aU G A Φ)(En:aw env κ){τ:Tau}{μ:List Nm}{W:Nat}:∀(n:Nat) (segs:List (List Stmt)) (X:Addr->Prop) (ρ:Rho),i5 G A env X ρ segs (ex Φ τ μ W κ n segs.flatten ρ)
 |0,segs,X,ρ=>λok=>absurd ok Bool.false_ne_true
 |n+1,[],X,ρ=>λok O s S E Q post=>post .next s ⟨O,S,Mv.refl s⟩
 |n+1,[]::r,X,ρ=>λok O s S E Q post=>wpAny_execs_nil (u7 Fa En (n+1) r X ρ ok O s S E Q post)
 |n+1,(st::a)::r,X,ρ=>by
  have ih:=u7 Fa En (τ:=τ) (μ:=μ) (W:=W) n;have fl:((st::a)::r).flatten=st::(a::r).flatten:=rfl;rw[fl];have one:∀(b:List Stmt) (X:Addr->Prop) (ρ':Rho),i5 G A env X ρ' [b] (ex Φ τ μ W κ n b ρ'):=λb X ρ'=>by
   have:=ih [b] X ρ'
   rwa [show[b].flatten=b by simp]at this
  induction st using Stmt.casesOn with
  |Assign ts e p=>exact eh (jz (u6 Fa En) λρ'=>ih (a::r) X ρ')
  |AugAssign t op e p=>exact eh (jz (A6 Fa En) λρ'=>ih (a::r) X ρ')
  |Expr e p=>exact eh (jz (y6 Fa En) λρ'=>ih (a::r) X ρ')
  |Pass p=>exact λok O s S E Q post=>eF (wpAny_Pass (ih (a::r) X ρ ok O s S E Q post))
  |Break p=>exact λok O s S E Q post=>eF (wpAny_Break (post .brk s ⟨O,S,Mv.refl s⟩))
  |Return v p=>
   induction v using Option.casesOn with
   |none=>exact λok O s S E Q post=>eF (wpAny_Return_none (post (.ret .none) s ⟨O,ak.none_iff.mpr rfl,Mv.refl s⟩))
   |some e=>
    refine eh (ns:=bd 40 e) ?_;intro ok O s S E Q post;have GE:=(gV (G:=G) (A:=A) Fa τ 40 κ env X (freeze (bd 40 e) ρ) En).1;exact eF (wpAny_Return_some (GE.ok e ok O s S _ _ λu s1 k1 r1=>post (.ret u) s1 ⟨O,r1,Mv.of_keeps k1⟩))
  |If t b c p=>
   refine eh (ns:=bd 40 t) ?_;show i5 G A env X (freeze (bd 40 t) ρ) _ (bif bJ b&&bJ c&&aR (fits 20) b&&aR (fits 20) c then _ else _:Res);cases hc:(bJ b&&bJ c&&aR (fits 20) b&&aR (fits 20) c)with
   |true=>
    simp only[cond_true];simp only[aK]at hc;refine jz (Di Fa En (one b X _) (one c X _) ?_ ?_) λρ'=>ih (a::r) X ρ'
    ·exact(ti n b _ 20 hc.1.2).more λz hz=>List.mem_append_left _ hz
    ·exact(ti n c _ 20 hc.2).more λz hz=>List.mem_append_right _ hz
   |false=>
    simp only[cond_false];have GT:=(gV (G:=G) (A:=A) Fa τ 40 κ env X (freeze (bd 40 t) ρ) En).2;intro ok O s S E Q post;unfold kQ at ok post;simp only[aK]at ok;obtain⟨⟨o1,o2⟩,o3⟩:=ok;dsimp only at post;refine eF (wpAny_If (GT.ok t o1 o2 O s S _ _ λs1 k1 => ?_));cases hc2:(ad (ev Φ τ 40 κ (freeze (bd 40 t) ρ) t).2).2 with
    |true=>
     rw[hc2]at o3 post;simp only[cond_true]at o3 post;simp only[if_true];exact ih (b::a::r) X _ o3 O s1 (S.keeps k1) E Q λf s' h=>post f s' (fq.from (Mv.of_keeps k1) h)
    |false=>
     rw[hc2]at o3 post;simp only[cond_false]at o3 post;simp only[Bool.false_eq_true,if_false];exact ih (c::a::r) X _ o3 O s1 (S.keeps k1) E Q λf s' h=>post f s' (fq.from (Mv.of_keeps k1) h)
  |For t it b els p=>
   induction els using List.casesOn with
   |cons _ _=>exact λok=>absurd ok Bool.false_ne_true
   |nil=>
    refine eh (ns:=bd 40 it) (jz ?_ λρ'=>ih (a::r) X ρ');intro ok;simp only[aK]at ok;exact Fe Fa En (f:=ex Φ τ μ W κ n b) (λX ρ'=>one b X ρ') ok.1.1 ok.1.2 ok.2
  |While t b els p=>
   induction els using List.casesOn with
   |cons _ _=>exact λok=>absurd ok Bool.false_ne_true
   |nil=>exact eh (ns:=bd 40 t) (jz (A8 Fa En (f:=ex Φ τ μ W κ n b) λρ'=>one b X ρ') λρ'=>ih (a::r) X ρ')
  |_=>exact λok=>absurd ok Bool.false_ne_true
end
theorem ml{kindOf:Str->Option NameKind}:∀{bs:List (Str×Value)} {m:Str->Option Value} {x:Str},(∀b∈bs,b.1≠x)->bindL kindOf bs m x=m x/\bindC kindOf bs m x=m x
 |[],m,x,_=>⟨rfl,rfl⟩
 |(n,v)::r,m,x,h=>by
  have hn:x≠n:=λe=>h _ (aO ..) e.symm
  have hr:=λb hb=>h b (aG _ hb)
  constructor
  ·unfold bindL
   rw[(ml hr).1]
   split
   ·show(if x=n then _ else _)=_;rw[if_neg hn]
   ·rfl
  ·unfold bindC
   rw[(ml hr).2]
   split
   ·rfl
   ·show(if x=n then _ else _)=_;rw[if_neg hn]
theorem yc{kindOf:Str->Option NameKind}:∀{bs:List (Str×Value)} {m:Str->Option Value} {x:Str} {u:Value},(bs.map (·.1)).Nodup->(x,u)∈bs->(kindOf x=some .local->bindL kindOf bs m x=some u)/\(kindOf x≠some .local->bindC kindOf bs m x=some u):=by
 intro bs
 induction bs with
 |nil=>exact λ_ h=>absurd h cj
 |cons b r ih=>
  obtain⟨n,v⟩:=b;intro m x u hn h;rw[aC,List.nodup_cons]at hn
  rcases bu h with e|h
  ·injection e with e1 e2
   subst e1;subst e2;have off:=λm=>ml (kindOf:=kindOf) (bs:=r) (m:=m) (x:=x) λb hb e=>hn.1 (List.mem_map.mpr ⟨b,hb,e⟩)
   constructor
   ·intro hk
    unfold bindL;rw[(off _).1,if_pos hk];show(if x=x then some u else _)=_;rw[if_pos rfl]
   ·intro hk
    unfold bindC;rw[(off _).2,if_neg hk];show(if x=x then some u else _)=_;rw[if_pos rfl]
  ·have ih:=λm=>ih (m:=m) hn.2 h
   constructor
   ·intro hk;unfold bindL;exact(ih _).1 hk
   ·intro hk;unfold bindC;exact(ih _).2 hk
structure eG(G:Cfg)(a:Addr)(d:Def):Prop where
 ex:∃(o:Obj) (fd:FuncData) (ids:List Str),G.h0.get? a=some o/\o.data = .func fd/\G.h0.CodeRec fd.code fd.qualname/\fd.body = .stmts d.body/\fd.closure=[]/\fd.scope.names=d.κ/\fd.scope.kind = .function /\
  fd.scope.isCoroutine=false/\fd.scope.isGenerator=false/\fd.globals=mainGlobals/\fd.builtins=builtinsNs/\ids.map nm=d.params/\ids.Nodup /\
  (∀us:List Value,us.length=ids.length->bindArgs fd ⟨us,[]⟩=pure (ids.zip us))/\(∀x∈ids,fd.scope.names.lookup x=some .local\/fd.scope.names.lookup x=some .cell)
 once:j9 d.κ
 nofree:∀x,(x,NameKind.free)∉d.κ
 plain:∀x k,(x,k)∈d.κ->(x==("__debug__":Str))=false/\(x==("__classdict__":Str))=false
theorem nP(bs:List (Nm×V)):∀(κ:List (Str×NameKind)) (x:Nm),lk (dD κ bs) x = .un\/∃v,sO bs x=some v/\lk (dD κ bs) x = .val v
 |[],x => .inl rfl
 |(y,k)::r,x=>by
  have ih:=nP bs r x;unfold dD at ih |-;rw[List.filterMap_cons];cases hk:ag (some k)with
  |false=>simpa[hk]using ih
  |true=>
   simp only[hk,cond_true];cases hb:sO bs (nm y)with
   |none=>
    show lk ((nm y, .un)::_) x = .un\/∃v,_/\lk ((nm y, .un)::_) x = .val v;rw[jZ];cases e:ab x (nm y)with
    |true=>exact .inl rfl
    |false=>exact ih
   |some v=>
    show lk ((nm y, .val v)::_) x = .un\/∃v',_/\lk ((nm y, .val v)::_) x = .val v';rw[jZ];cases e:ab x (nm y)with
    |true=>exact .inr ⟨v,by rw[an.mp e];exact hb,rfl⟩
    |false=>exact ih
theorem w6{G:Cfg}{X:Addr->Prop}{h:Shared}:∀{ids:List Str} {as:List V} {us:List Value} {x:Str} {v:V},Reps G X h as us->sO (nF (ids.map nm) as) (nm x)=some v->∃u,(x,u)∈ids.zip us/\ak G X h v u
 |[],as,us,x,v,_,e=>by induction as using List.casesOn<;>injections e
 |i::ids,[],us,x,v,_,e=>by injections e
 |i::ids,y::as,us,x,v,r,e=>by
  obtain⟨u,us',rfl,h1,h2⟩:=Reps.cons_iff.mp r;have e':(bif ab (nm x) (nm i)then some y else sO (nF (ids.map nm) as) (nm x))=some v:=e;cases hx:ab (nm x) (nm i)with
  |true=>
   rw[hx]at e'
   injection e' with e'
   subst e';rw[dB (an.mp hx)];exact⟨u,aO ..,h1⟩
  |false=>
   rw[hx]at e';obtain⟨u',m,h3⟩:=w6 h2 e';exact⟨u',aG _ m,h3⟩
theorem jA{ids:List Str}{us:List Value}(h:us.length=ids.length):(ids.zip us).map (·.1)=ids:=by
 rw[List.map_fst_zip ⋯]
theorem i6{α:Type}:∀{l:List (Str×α)} {x:Str} {c:α},l.Pairwise (λa b=>a.1≠b.1)->(x,c)∈l->l.lookup x=some c
 |(y,d)::r,x,c,p,h=>by
  rw[List.pairwise_cons]at p;rw[List.lookup_cons]
  rcases bu h with e|h
  ·injection e with e1 e2
   subst e1;subst e2;rw[show(x==x)=true from beq_self_eq_true x]
  ·have:(x==y)=false:=by
    rw[<-Bool.not_eq_true];exact λe=>p.1 _ h (eq_of_beq e).symm
   rw[this];exact i6 p.2 h
theorem eX:∀{names:List (Str×NameKind)} {n:Nat} {acc:List (Str×Addr)},j9 names->(∀x∈acc,∀k,(x.1,k)∉names)->acc.Pairwise (λx y=>x.1≠y.1)->(cellsFrom n names acc).Pairwise λx y=>x.1≠y.1
 |[],n,acc,_,_,p=>p
 |(m,k)::r,n,acc,ho,ha,p=>by
  have ho':nm m∉r.map (λx=>nm x.1)/\j9 r:=by
   unfold j9 at ho;rw[aC,List.nodup_cons]at ho;exact ho
  unfold cellsFrom
  split
  ·refine eX ho'.2 (λx hx k' hk' => ?_) (List.pairwise_cons.mpr ⟨λy hy e => ?_,p⟩)
   ·rcases bu hx with e|hx
    ·subst e
     exact ho'.1 (List.mem_map.mpr ⟨_,hk',rfl⟩)
    ·exact ha x hx k' (aG _ hk')
   ·have e:m=y.1:=e
    exact ha y hy k (by rw[<-e];exact aO ..)
  ·exact eX ho'.2 (λx hx k' hk'=>ha x hx k' (aG _ hk')) p
section
variable {G:Cfg} {A:Around} {Φ:Fns}
theorem u8{d:Def}{ids:List Str}(h:uw d=true)(hg:ay (kd d.κ (nm "chr"))=true)(hids:ids.map nm=d.params):∃x r,ids=x::r/\d.κ.lookup x=some .local:=by
 unfold uw at h;rw[<-hids]at h
 induction ids using List.casesOn with
 |nil=>have h:(!ay (kd d.κ (nm "chr")))=true:=h;rw[hg]at h;exact aa h
 |cons x r=>
  have h:(!ay (kd d.κ (nm "chr"))||Ak (kd d.κ (nm x)))=true:=h;rw[hg,bW]at h;have h:Ak (d.κ.lookup x)=true:=h;refine⟨x,r,rfl, ?_⟩;generalize d.κ.lookup x=o at h |-
  induction o using Option.casesOn with
  |none=>exact aa h
  |some k=>induction k using NameKind.casesOn<;>first|rfl|exact aa h
theorem rM {prog:Program} {w:World} {s:Shared} {R:Result->Shared->Prop} {a:Addr} {o:Obj} {fd:FuncData} {body:List Stmt} {vals:List Value} {binds:List (Str×Value)}
 (hroom:A.depth<recursionLimit) (ho:s.heap.get? a=some o) (hdata:o.data = .func fd) (hlim:s.heap.NoLimit) (hcd:s.heap.CodeRec fd.code fd.qualname)
 (hbody:fd.body = .stmts body) (hbind:bindArgs fd ⟨vals,[]⟩=pure binds) (hclo:fd.closure=[])
 (hkind:∀x∈binds,fd.scope.names.lookup x.1=some .local\/(fd.scope.names.lookup x.1=some .cell/\((cellsFrom (s.heap.objs.size+1) fd.scope.names []).lookup x.1).isSome=true))
 (h:∀s₁,s.toks<=s₁.toks->((∃n v r,binds=(n,v)::r/\fd.scope.names.lookup n=some .local)->s.toks<s₁.toks)->InCallC s (callEnvC fd s.heap.objs.size a).locals (bindL (callEnvC fd s.heap.objs.size a).kindOf binds λ_=>none) (callEnvC fd s.heap.objs.size a).cells
    (bindC (callEnvC fd s.heap.objs.size a).kindOf binds λ_=>none) s₁ ->
   wpAny (model prog w) (A.deeper (callEnvC fd s.heap.objs.size a)) (execs body (callEnvC fd s.heap.objs.size a)) (λf s'=>R (.ok (.ret (match f with| .ret v=>v|_ => .none))) s')
    (λe s'=>wpAny (model prog w) (A.deeper (callEnvC fd s.heap.objs.size a)) (leaving (callEnvC fd s.heap.objs.size a) e) (λ_ s''=>R (.error e) s'') (λe' s''=>R (.error e') s'') s') s₁)
 (hco:fd.scope.isCoroutine=false) (hgen:fd.scope.isGenerator=false) (hk:fd.scope.kind = .function):codeAny (model prog w) A (.call (.ref a) ⟨vals,[]⟩) R s:=by
 refine codeAny_call_function hroom ho hdata hco hgen hbody hcd ?_;rw[hbind,hclo];refine ar ?_
 by_cases hb:∃n v r,binds=(n,v)::r/\fd.scope.names.lookup n=some .local
 ·obtain⟨n,v,r,rfl,hl⟩:=id hb
  refine wu (wt hk hl) (wpAny_newFunctionEnv_cells hk hkind λenv he s' x hlt => ?_);subst he;exact⟨hlim.keeps x.toInCall.keep,codeAny_func (h s' (Nat.le_of_lt hlt) (λ_=>hlt) x)⟩
 ·refine bA (wpAny_newFunctionEnv_cells hk hkind λenv he s' x hle => ?_)
  subst he;exact⟨hlim.keeps x.toInCall.keep,codeAny_func (h s' hle (λk=>absurd k hb) x)⟩
theorem Ff {a:Addr} {d:Def} {τ:Tau} {W:Nat} (hd:eG G a d) (hroom:A.depth<recursionLimit) (hlim:G.h0.NoLimit) (Fa:∀e,aU G (A.deeper e) Φ) {X:Addr->Prop} {s:Shared} {as:List V} {us:List Value} (old:uf G s.heap) (off:Av G X) (al:bB X s.heap)
 (r:Reps G X s as us) (ok:(dF Φ τ W d as).1=true):aS G A X (call (.ref a) us) (dF Φ τ W d as).2 s:=by
 obtain⟨o,fd,ids,ho,hdata,hcd,hbody,hclo,hnames,hkind,hco,hgen,hgl,hbu,hids,hnd,hbind,hloc⟩:=hd.ex;unfold dF at ok |-;simp only[aK]at ok;obtain⟨⟨hlen,hpos⟩,ok⟩:=ok;have hlen':us.length=ids.length:=by
  have:=eH hlen;rw[<-hids,aW]at this;rw[this,<-r.length]
 intro E Q q;have ho':s.heap.get? a=some o:=old a o ho;have hlim':s.heap.NoLimit:=hlim.keeps old;have hcd':s.heap.CodeRec fd.code fd.qualname:=hcd.keeps old;refine wpAny_call (rM hroom ho' hdata hlim' hcd' hbody (hbind us hlen') hclo (λx hx => ?_) (λs₁ hle hlt C => ?_) hco hgen hkind)
 ·have hm:x.1∈ids:=by rw[<-jA hlen'];exact List.mem_map.mpr ⟨x,hx,rfl⟩
  rcases hloc x.1 hm with h|h
  ·exact .inl h
  ·refine .inr ⟨h, ?_⟩
   obtain⟨c,hc⟩:=cO (n:=s.heap.objs.size+1) (acc:=[]) (mem_of_lookup h);obtain⟨c',e⟩:=eE hc;rw[e];rfl
 ·generalize henv:callEnvC fd s.heap.objs.size a=env at C |-
  have eScope:env.scope=fd.scope:=by rw[<-henv];rfl
  have eLoc:env.locals=s.heap.objs.size:=by rw[<-henv];rfl
  have eCells:env.cells=cellsFrom (s.heap.objs.size+1) fd.scope.names []:=by rw[<-henv];rfl
  have eKind:∀x,env.kindOf x=d.κ.lookup x:=λx=>by show env.scope.names.lookup x=_;rw[eScope,hnames]
  have noF:∀x,env.kindOf x≠some .free:=λx e=>hd.nofree x (mem_of_lookup (eKind x▸e))
  have En:aw env d.κ:=
   { kind:=by rw[eScope];exact hkind
     names:=λx=>by rw[eKind,bW]
     free:=λx=>by rw[eKind,bW]
     glob:=λx=>by rw[eKind,bW]
     plain:=λx h=>by
      rw[eKind]at h;cases e:d.κ.lookup x with
      |none=>rw[e]at h;injections h
      |some k=>exact hd.plain x k (mem_of_lookup e)
     globals:=by rw[<-henv];exact hgl
     builtins:=by rw[<-henv];exact hbu }
  have kp:∀b o,s.heap.get? b=some o->s₁.heap.get? b=some o:=C.toInCall.keep
  have above:∀b,fH env b->s.heap.objs.size<=b:=λb hb=>by
   rcases hb with e|⟨x,m⟩
   ·rw[e,eLoc];exact aq _
   ·have:=C.above x b m
    rw[eLoc]at this;exact Nat.le_of_lt this
  have dead:∀b,fH env b->s.heap.get? b=none:=λb hb=>cf _ (above b hb)
  have cellsOnce:env.cells.Pairwise λx y=>x.1≠y.1:=by
   rw[eCells];exact eX (hnames▸hd.once) (λ_ h=>nomatch h) List.Pairwise.nil
  have aliveOwn:∀b,fH env b->∃o,s₁.heap.get? b=some o:=λb hb=>by
   rcases hb with e|⟨x,m⟩
   ·obtain⟨o',_,_,e',_⟩:=C.toInCall.ns;rw[e];exact⟨o',e'⟩
   ·obtain⟨o',e',_⟩:=C.cell x b (i6 cellsOnce m);exact⟨o',e'⟩
  have on:On X (am env X λ_=>none) s s₁:=⟨λb o _ e=>kp b o e,λb o e f=>by
   rcases f with f|f|⟨y,f⟩
   ·exact f
   ·rw[dead b f]at e;injections e
   ·(cases f),hle⟩
  have S:cY G env X (λ_=>none) (dD d.κ (nF d.params as)) s₁:=
   { old:=λb o e=>kp b o (old b o e)
     new:=λb f=>by
      rcases f with f|f|⟨y,f⟩
      ·exact off b f
      ·cases e:G.h0.get? b with
       |none=>rfl
       |some o=>
        have:=old b o e;rw[dead b f]at this;injections this
      ·cases f
     alive:=λb f=>by
      rcases f with f|f|⟨y,f⟩
      ·obtain⟨o,e⟩:=al b f;exact⟨o,kp b o e⟩
      ·exact aliveOwn b f
      ·cases f
     look:=by
      refine⟨λx=>if env.kindOf x=some .local then bindL env.kindOf (ids.zip us) (λ_=>none) x else bindC env.kindOf (ids.zip us) (λ_=>none) x,⟨⟨_,C.toInCall.ns,λx hx=>by rw[if_pos hx]⟩,λx hx => ?_,C.apart⟩,λx hx => ?_⟩
      ·have hc:env.kindOf x=some .cell:=by
        cases e:env.kindOf x with
        |none=>rw[e]at hx;injections hx
        |some k=>induction k using NameKind.casesOn<;>first|rfl|exact absurd e (noF x)|(rw[e]at hx;injections hx)
       have hm:(x,NameKind.cell)∈fd.scope.names:=mem_of_lookup (by have:=eKind x;rw[hc]at this;rw[hnames];exact this.symm);obtain⟨c,hcm⟩:=cO (n:=s.heap.objs.size+1) (acc:=[]) hm;obtain⟨c',e⟩:=eE hcm;have e':env.cells.lookup x=some c':=by rw[eCells];exact e
       refine⟨c',e', ?_⟩
       skip
       rw[if_neg (by rw[hc];decide)];exact C.cell x c' e'
      ·rcases nP (nF d.params as) d.κ (nm x)with e|⟨v,e1,e2⟩
       ·rw[e];trivial
       ·rw[e2]
        rw[<-hids]at e1;obtain⟨u,m,hr⟩:=w6 r e1;refine⟨u, ?_,hr.on on⟩;have b:=yc (kindOf:=env.kindOf) (m:=λ_=>none) (by rw[jA hlen'];exact hnd) m;dsimp only
        by_cases hk:env.kindOf x=some .local
        ·rw[if_pos hk];exact b.1 hk
        ·rw[if_neg hk];exact b.2 hk
     inj:=λx y a e=>nomatch e
     apart:=λx a e=>nomatch e
     pos:=λch=>by
      obtain⟨x,r',e,hl⟩:=u8 hpos ((En.glob "chr").symm.trans ch) hids;refine dz (bw _) (hlt ?_);subst e
      induction us using List.casesOn with
      |nil=>exact aa (show false=true from(congrArg (Nat.beq 0) hlen').symm)
      |cons u us'=>exact⟨x,u,r'.zip us',rfl,hnames▸hl⟩ }
  obtain⟨hh,tk,es1⟩:=C.toInCall.same;have fin:∀O' s',Mv env (λ_=>none) O' s₁ s'->aM s s'/\∀v u,ak G (am env X O') s' v u->ak G X s' v u:=λO' s' mv=>by
   obtain⟨h',tk',e,m⟩:=mv;subst e;refine⟨⟨h',tk',by rw[es1],λb o e => ?_,ah hle m.tk⟩,λv u hr=>hr.on ⟨λ_ _ _ e=>e,λb o e xb => .inl xb,aq _⟩⟩;refine m.keep b o (λf => ?_) (kp b o e)
   rcases f with f|f|⟨y,f⟩
   ·exact f
   ·rw[dead b f]at e;injections e
   ·cases f
  unfold kR at ok q;have X0:=u7 (G:=G) (A:=A.deeper env) (Fa env) En (τ:=τ) (μ:=a0 (hZ 20) d.body) (W:=W) 200 [d.body] X (dD d.κ (nF d.params as));have fl:[d.body].flatten=d.body:=by simp
  rw[fl]at X0;generalize ex Φ τ (a0 (hZ 20) d.body) W d.κ 200 d.body (dD d.κ (nF d.params as))=res at X0 ok q;obtain⟨b,out⟩:=res;have X2:∀(E:Value->Shared->Prop) (Q:Flow->Shared->Prop) (hb:b=true),(∀f s',fq G env X (λ_=>none) s₁ out f s'->Q f s')->wpAny (model G.p G.w) (A.deeper env) (execs d.body env) Q E s₁:=λE Q hb hq=>
   bK (X0 hb _ s₁ S E Q hq) (λf s' h'=>by induction f using Flow.casesOn<;>exact h') λ_ _ e=>e
  induction out using gm.casesOn with
  |ret v=>
   refine X2 _ _ ok λf s' ho => ?_
   induction f using Flow.casesOn with
   |ret u=>
    obtain⟨O',h1,h2⟩:=ho;exact q u s' (fin O' s' h2).1 ((fin O' s' h2).2 _ _ h1)
   |_=>exact ho.elim
  |next ρ'=>
   refine X2 _ _ ok λf s' ho => ?_
   induction f using Flow.casesOn with
   |next=>
    obtain⟨O',h1,h2⟩:=ho;exact q .none s' (fin O' s' h2).1 (ak.none_iff.mpr rfl)
   |_=>exact ho.elim
  |_=>injections ok
end
end
section
open PySem PySem.W PySem.Calls PyProof.Rows
noncomputable def fT(G:Cfg)(n:Nat)(a:Addr)(F:List V->R):Prop:=∀A,ix n A->CQ G A (.ref a) /\
 ∀X s as us,uf G s.heap->Av G X->bB X s.heap->Reps G X s as us->(F as).1=true->aS G A X (call (.ref a) us) (F as).2 s
noncomputable def dn:List Str:=["raw","n","nt","norm","is_simple"]
structure kh(G:Cfg)(N:Addr)(mN mg mb:Str->Option Value):Prop where
 cls:ClsAt G.h0 G.C N mN
 noGA:mN "__getattribute__"=none
 noGet:mN "__getattr__"=none
 noSet:mN "__setattr__"=none
 noF:∀x∈dn,mN x=none
 noF0:∀x∈dn,typeLookup (.type "object") x=pure none
 glob:G.h0.Ns mainGlobals mg
 blt:G.h0.Ns builtinsNs mb
 bi:∀f v,E1 f->bootBuiltins f=some v->mg f=none/\mb f=some v
 lim:G.h0.NoLimit
 S:∃t,mN "S"=some (.str (tx [32]) t)
 T:∃t,mN "T"=some (.str (tx [9]) t)
 tp:∃ms,G.h0.Ns cStatics ms/\ms "thirdparty.any"=none
inductive Ia(h:Heap)(C N:Addr):Prop
 |mk (nm q:Str) (bs:List Value) (sn:List Str) (sub:List Value) (col:Option Bool) (dd:Option Addr) (k0 k1 k2 k3 k5:Option Value) (e:h.get? C=some (excClassObj nm q C N bs [.type "object"] true sn sub false col dd k0 k1 k2 k3 k5 "object.__new__"))
theorem kh.o{G:Cfg}{N:Addr}{mN mg mb:Str->Option Value}(B:kh G N mN mg mb){h:Heap}(old:uf G h):Ia h G.C N:=by
 obtain⟨nm,q,bs,sn,sub,col,dd,k0,k1,k2,k3,k5,e⟩:=B.cls.obj;exact⟨nm,q,bs,sn,sub,col,dd,k0,k1,k2,k3,k5,old _ _ e⟩
theorem ix.less{n m:Nat}{A:Around}(r:ix n A)(h:m<=n):ix m A:=⟨r.none,by have:=r.depth;omega,by have:=r.units;omega⟩
theorem ix.deeper{n:Nat}{A:Around}(r:ix (n+1) A)(e:Env):ix n (A.deeper e):=⟨r.none,by have:=r.depth;show A.depth+1+n<_;omega,by have:=r.units;show A.units+3+_+_<_;omega⟩
theorem nQ{G:Cfg}{A:Around}{a:Addr}{o:Obj}{fd:FuncData}(h:G.h0.get? a=some o)(hd:o.data = .func fd):CQ G A (.ref a):=λpos trees s E Q hp q=>
 Calls.callWith_function (o:=o) (fd:=fd) (bK q (λx s1 h1=>⟨⟨h1.1 _ _ h,hd⟩,h1.2⟩) λ_ _ e=>e)
theorem ki{G:Cfg}{n:Nat}{a:Addr}{d:Def}{τ:Tau}{W:Nat}{Φ:Fns}(hd:eG G a d)(hlim:G.h0.NoLimit)(Fa:∀A,ix n A->aU G A Φ):fT G (n+1) a (dF Φ τ W d):=λA r=>by
 obtain⟨o,fd,ids,ho,hdata,_⟩:=hd.ex;exact⟨nQ ho hdata,λX s as us old off al rp ok=>Ff hd (by have:=r.depth;omega) hlim (λe=>Fa _ (r.deeper e)) old off al rp ok⟩
section
variable {G:Cfg} {A:Around} {X:Addr->Prop} {N:Addr} {mN mg mb:Str->Option Value}
theorem Dj{h:Shared}{a:Addr}{raw n nt cnt b sm}(W:wv G X h.heap a raw n nt cnt b sm):∃m,h.heap.Inst a G.C m/\(∀x:Str,x∉dn->m x=none) /\
 (∀(name:Str) v,El (nm name) (.ws raw n nt cnt b sm)=(true,v)->∃u,name∈dn/\m name=some u/\handedOut u=pure u/\ak G X h v u):=by
 obtain⟨o,d,m,T,T2,t,vs,g,h1,h2,h3,h4,h5,h6,h60,h7,h8,h9,h10,h11,h12,h13,h14,h15,h16⟩:=W;refine⟨m,⟨o,g,h1,h3, .inr ⟨d,h2,h4,h6⟩⟩,λx hx => ?_,λname v e => ?_⟩
 ·unfold dn at hx
  simp only[List.mem_cons,cj,or_false,not_or]at hx;exact h60 x hx.1 hx.2.1 hx.2.2.1 hx.2.2.2.1 hx.2.2.2.2
 ·have e':(bif ab (nm name) (nm "n")then(true,V.int n)else bif ab (nm name) (nm "nt")then(true, .int nt)else bif ab (nm name) (nm "norm")then(true, .tup [.tup (cnt.map .int), .int b])else bif ab (nm name) (nm "is_simple")then(true, .bool sm)else bad)=(true,v):=e
  have wl:∀{x:Str},ab (nm name) (nm x)=true->name=x:=λh=>dB (an.mp h)
  cases c1:ab (nm name) (nm "n")with
  |true=>
   rw[c1]at e';injection e' with _ e'
   rw[wl c1,<-e'];obtain⟨t,e2⟩:=h8;exact⟨_,by simp[dn],e2,rfl,ak.int_iff.mpr ⟨t,rfl⟩⟩
  |false=>
  rw[c1]at e';cases c2:ab (nm name) (nm "nt")with
  |true=>
   rw[c2]at e';injection e' with _ e'
   rw[wl c2,<-e'];obtain⟨t,e2⟩:=h9;exact⟨_,by simp[dn],e2,rfl,ak.int_iff.mpr ⟨t,rfl⟩⟩
  |false=>
  rw[c2]at e';cases c3:ab (nm name) (nm "norm")with
  |true=>
   rw[c3]at e';injection e' with _ e'
   rw[wl c3,<-e'];have two:∀{cnt:List Int} {l:List Value},oK CJ l cnt->Reps G X h (cnt.map V.int) l:=λ{cnt l} h=>by
    induction h with
    |nil=>exact Reps.nil
    |cons a b ih=>exact Reps.cons (ak.int_iff.mpr a) ih
   exact⟨_,by simp[dn],h10,rfl,ak.tup_iff.mpr ⟨T,_,rfl,h12,h13,Reps.cons (ak.tup_iff.mpr ⟨T2,vs,rfl,h14,h15,two h16⟩) (Reps.cons (ak.int_iff.mpr ⟨t,rfl⟩) Reps.nil)⟩⟩
  |false=>
  rw[c3]at e';cases c4:ab (nm name) (nm "is_simple")with
  |true=>
   rw[c4]at e';injection e' with _ e'
   rw[wl c4,<-e'];exact⟨_,by simp[dn],h11,rfl,ak.bool_iff.mpr rfl⟩
  |false=>rw[c4]at e';cases e'
theorem qG{M:Model}{h:Heap}{C:Addr}{ms:Str->Option Value}(hs:h.Ns cStatics ms)(e:ms "thirdparty.any"=none):Looks M h (opaqueClassAbove (.ref C)) none:=
 Looks.andThen (a:=false) (λA Q E s k q=>ae (wpAny_nsGet (hs.keeps k) (by rw[e];exact ar q))) (by show Looks M h (if(!false)=true then pure none else _) none;rw[if_pos (show(!false)=true from rfl)];exact .now)
theorem y7{M:Model}{h:Heap}{x:Str}{t:Tok}:Looks M h (typeOf (.str x t)) (.type "str"):=Looks.of_pure rfl
theorem yd {prog:Program} {w:World} {E:Value->Shared->Prop} {s:Shared} {C:Addr} {nm q:Str} {bs:List Value} {sn:List Str} {sub:List Value} {col:Option Bool} {dd:Option Addr} {k0 k1 k2 k3 k5:Option Value} {newId:String} {ms:Str->Option Value} {name x:Str} {t:Tok} {expr:Bool} {Q:Value->Shared->Prop}
 (hC:s.heap.get? C=some (excClassObj nm q C N bs [.type "object"] true sn sub false col dd k0 k1 k2 k3 k5 newId)) (hn:s.heap.Ns N mN) (hv:mN name=some (.str x t)) (hs:s.heap.Ns cStatics ms) (e:ms "thirdparty.any"=none)
 (ma:findIn [] (.type "type") name=some none) {y:Option Value} (hB:typeLookup (.type "object") name=pure y) (hq:Q (.str x t) { s with toks:=s.toks+1 }):wpAny (model prog w) A (getAttr (.ref C) name expr) Q E s:=by
 have X:Frag.In [] s.heap:=λa o h=>by injections h
 have ho:Looks (model prog w) s.heap (opaqueClassAbove (.ref C)) none:=qG hs e;have ht:Looks (model prog w) s.heap (typeOf (.ref C)) (.type "type"):=λA Q E s k q=>wpAny_typeOf (T:="type") ⟨_,k _ _ hC,rfl⟩ q
 have hlk:Looks (model prog w) s.heap (typeLookup (.ref C) name) (some (.str x t)):=λA Q E s' k q=>by
  obtain⟨hh,g,d,tk,os⟩:=s';refine wpAny_typeLookup_exc (k _ _ hC) (hn.keeps k) ∅ hB ?_;rw[hv];exact q
 have hmro:mroOf (.type "object")=pure [.type "object"]:=∅;refine ae (wpAny_mkText (bQ (ae (ht _ _ _ _ (λ_ _ e=>e) (ae (looks_findIn X (show findIn [] (.type "type") "__getattribute__"=some (some (.builtin "type.__getattribute__"))by decide +kernel) _ _ _ _ (λ_ _ e=>e) ?_))))));dsimp only;rw[show(onTheHeap (Value.type "type")&&Value.builtin "type.__getattribute__"==Value.builtin "object.__getattribute__")=false from by decide +kernel,if_neg nofun];refine ae (looks_hook X (show(if onTheHeap (Value.type "type")then findIn [] (.type "type") "__getattr__" else some none)=some none by decide +kernel) _ _ _ _ (λ_ _ e=>e) (ae (wpAny_attempt (bQ ?_))))
 unfold callGetattribute;rw[show(expr&&onTheHeap (Value.builtin "type.__getattribute__"))=false from Bool.and_false _,if_neg nofun];unfold boundAndCalled;rw[KF.slot_tga.bind];refine ae (ar ?_);show wpAny _ _ (call (.builtin "type.__getattribute__") [.ref C, .str name s.toks]) _ _ _;refine wpAny_call ?_;refine codeAny_call_builtin KF.slot_tga.plain KF.entry_tga ?_;refine @check_slot (model prog w) _ _ { s with toks:=s.toks+1 } "type.__getattribute__" "type" "__getattribute__" (.ref C) [.str name s.toks] [] _ (by decide +kernel) (by decide +kernel) (ht.andThen (looks_subIn X (by decide +kernel))) (KF.args_tga (.ref C) (.str name s.toks)) ?_
 unfold Builtin.«type.__getattribute__»;refine ae (ar (ae (ho _ _ _ _ (λ_ _ e=>e) (ae (ht _ _ _ _ (λ_ _ e=>e) (ae (looks_findIn X ma _ _ _ _ (λ_ _ e=>e) ?_)))))));refine ae (ar (ae (hlk _ _ _ _ (λ_ _ e=>e) ?_)));dsimp only;rw[if_neg (by simp[Builtin.heldUnderItsOwnName])];refine ae (y7 _ _ _ _ (λ_ _ e=>e) ?_);rw[if_neg (by decide +kernel)];refine ae (looks_specialIn X (show specialIn [] (.str x t) "__get__"=some none from∅) _ _ _ _ (λ_ _ e=>e) ?_);dsimp only;refine ae (ar (ar ?_));show wpAny _ _ (handedOut (.str x t)) _ _ _;exact ar hq
theorem Dk (B:kh G N mN mg mb) {s:Shared} {x:V} {u:Value} {name:Str} {v:V} (old:uf G s.heap) (r:ak G X s x u)
 (e:El (nm name) x=(true,v)):aS G A X (getAttr u name true) v s:=by
 intro E Q q;obtain⟨nm',qn,bs,sn,sub,col,dd,k0,k1,k2,k3,k5,hC⟩:=B.o old;have wl:∀{x:Str},ab (nm name) (nm x)=true->name=x:=λh=>dB (an.mp h)
 induction x using V.casesOn with
 |ws raw n nt cnt b sm=>
  obtain⟨a,rfl,nx,W⟩:=ak.ws_iff.mp r;obtain⟨m,I,_,hf⟩:=Dj W;obtain⟨u,hm,e1,e2,r⟩:=hf name v e;obtain⟨hh,g,d,t,os⟩:=s;exact load_attr hC (B.cls.keeps old).ns B.noGA (B.noF _ hm) (B.noF0 _ hm) I e1 e2 (q _ _ (Kp.toks _ _) (r.on (Kp.on (Kp.toks _ _))))
 |obj a raw=>
  obtain⟨rfl,nx,W⟩:=ak.obj_iff.mp r;obtain⟨o,d,m,t,g,h1,h2,h3,h4,h5,h6,h7,h8⟩:=W;have e':(bif ab (nm name) (nm "raw")then(true,V.str raw)else bad)=(true,v):=e;cases c1:ab (nm name) (nm "raw")with
  |true=>
   rw[c1]at e';injection e' with _ e'
   subst e';have en:=wl c1;obtain⟨hh,g,d,t,os⟩:=s;exact load_attr hC (B.cls.keeps old).ns B.noGA (B.noF _ (by rw[en];simp[dn])) (B.noF0 _ (by rw[en];simp[dn])) ⟨o,by assumption,h1,h3, .inr ⟨_,h2,h4,h6⟩⟩ (by rw[en];exact h7) rfl (q _ _ (Kp.toks _ _) (ak.str_iff.mpr ⟨_,rfl⟩))
  |false=>rw[c1]at e';cases e'
 |cls=>
  rw[ak.cls_iff.mp r];obtain⟨ms,hs,es⟩:=B.tp;have e':(bif ab (nm name) (nm "S")then(true,V.str [32])else bif ab (nm name) (nm "T")then(true, .str [9])else bad)=(true,v):=e;cases c1:ab (nm name) (nm "S")with
  |true=>
   rw[c1]at e';injection e' with _ e'
   obtain⟨t,hv⟩:=B.S;rw[wl c1];subst e';exact yd (y:=none) hC (B.cls.keeps old).ns hv (hs.keeps old) es (by decide +kernel) (by rw[typeLookup_type,builtinLookup_eq_fast];kernel_rfl) (q _ _ (Kp.toks _ _) (ak.str_iff.mpr ⟨_,rfl⟩))
  |false=>
  rw[c1]at e';cases c2:ab (nm name) (nm "T")with
  |true=>
   rw[c2]at e';injection e' with _ e'
   obtain⟨t,hv⟩:=B.T;rw[wl c2];subst e';exact yd (y:=none) hC (B.cls.keeps old).ns hv (hs.keeps old) es (by decide +kernel) (by rw[typeLookup_type,builtinLookup_eq_fast];kernel_rfl) (q _ _ (Kp.toks _ _) (ak.str_iff.mpr ⟨_,rfl⟩))
  |false=>rw[c2]at e';cases e'
 |_=>injections e
theorem tE{α:Type}:∀{l:List (Nm×α)} {x:Nm} {v:α},sO l x=some v->(x,v)∈l
 |(y,w)::r,x,v,h=>by
  have h':(bif ab x y then some w else sO r x)=some v:=h;cases e:ab x y with
  |true=>rw[e]at h';injection h' with h';rw[an.mp e,h'];exact aO ..
  |false=>rw[e]at h';exact aG _ (tE h')
theorem A9 (B:kh G N mN mg mb) {n:Nat} {Φ:Fns} (hg:∀x∈Φ.glob,∃f u,x.1=nm f/\mg f=some u/\∀X (s:Shared),uf G s.heap->Av G X->ak G X s x.2 u)
 (hf:∀x∈Φ.fn,∃f a,x.1=nm f/\mg f=some (.ref a)/\fT G n a x.2)
 : ∀A,ix n A->aU G A Φ:=λA r=>
 { none:=r.none
   units:=by have:=r.units;omega
   names:=⟨mg,mb,B.glob,B.blt,λx v h=>by
    obtain⟨f,u,e1,e2,e3⟩:=hg _ (tE h);rw[dB e1];exact⟨u,e2,e3⟩,
    λf F h=>by
     obtain⟨f',a,e1,e2,e3⟩:=hf _ (tE h);rw[dB e1];exact⟨a,e2,(e3 A r).1,(e3 A r).2⟩,B.bi⟩
   attr:=λX s x u name v old r e=>Dk B old r e
   }
end
end
section
open PySem PySem.W PySem.Calls PyProof.Rows
section
variable {G:Cfg} {A:Around} {X:Addr->Prop}
structure ic(G:Cfg)(env:Env)(κ:List (Str×NameKind))(s s₁:Shared)(g:Str->Option Value)(ids:List Str)(us:List Value):Prop where
 En:aw env κ
 frame:du env s₁.heap g
 has:∀x u,(x,u)∈ids.zip us->g x=some u
 own:∀b,fH env b->s.heap.get? b=none/\∃o,s₁.heap.get? b=some o
 keeps:aM s s₁
theorem ye {a:Addr} {d:Def} (hd:eG G a d) (hroom:A.depth<recursionLimit) (hlim:G.h0.NoLimit) {s:Shared} {us:List Value} (old:uf G s.heap) (hlen:us.length=d.params.length)
 {E Q:Value->Shared->Prop} (h:∀env s₁ g ids,ids.map nm=d.params->ic G env d.κ s s₁ g ids us->∀E',wpAny (model G.p G.w) (A.deeper env) (execs d.body env) (λf s'=>Q (match f with| .ret v=>v|_ => .none) s') E' s₁):
 wpAny (model G.p G.w) A (call (.ref a) us) Q E s:=by
 obtain⟨o,fd,ids,ho,hdata,hcd,hbody,hclo,hnames,hkind,hco,hgen,hgl,hbu,hids,hnd,hbind,hloc⟩:=hd.ex;have hlen':us.length=ids.length:=by rw[hlen,<-hids,aW]
 have ho':s.heap.get? a=some o:=old a o ho;have hlim':s.heap.NoLimit:=hlim.keeps old;have hcd':s.heap.CodeRec fd.code fd.qualname:=hcd.keeps old;refine wpAny_call (rM hroom ho' hdata hlim' hcd' hbody (hbind us hlen') hclo (λx hx => ?_) (λs₁ hle hlt C => ?_) hco hgen hkind)
 ·have hm:x.1∈ids:=by rw[<-jA hlen'];exact List.mem_map.mpr ⟨x,hx,rfl⟩
  rcases hloc x.1 hm with h|h
  ·exact .inl h
  ·refine .inr ⟨h, ?_⟩
   obtain⟨c,hc⟩:=cO (n:=s.heap.objs.size+1) (acc:=[]) (mem_of_lookup h);obtain⟨c',e⟩:=eE hc;rw[e];rfl
 ·generalize henv:callEnvC fd s.heap.objs.size a=env at C |-
  have eScope:env.scope=fd.scope:=by rw[<-henv];rfl
  have eLoc:env.locals=s.heap.objs.size:=by rw[<-henv];rfl
  have eCells:env.cells=cellsFrom (s.heap.objs.size+1) fd.scope.names []:=by rw[<-henv];rfl
  have eKind:∀x,env.kindOf x=d.κ.lookup x:=λx=>by show env.scope.names.lookup x=_;rw[eScope,hnames]
  have noF:∀x,env.kindOf x≠some .free:=λx e=>hd.nofree x (mem_of_lookup (eKind x▸e))
  have En:aw env d.κ:=
   { kind:=by rw[eScope];exact hkind
     names:=λx=>by rw[eKind,bW]
     free:=λx=>by rw[eKind,bW]
     glob:=λx=>by rw[eKind,bW]
     plain:=λx h=>by
      rw[eKind]at h;cases e:d.κ.lookup x with
      |none=>rw[e]at h;injections h
      |some k=>exact hd.plain x k (mem_of_lookup e)
     globals:=by rw[<-henv];exact hgl
     builtins:=by rw[<-henv];exact hbu }
  have kp:∀b o,s.heap.get? b=some o->s₁.heap.get? b=some o:=C.toInCall.keep
  have above:∀b,fH env b->s.heap.objs.size<=b:=λb hb=>by
   rcases hb with e|⟨x,m⟩
   ·rw[e,eLoc];exact aq _
   ·have:=C.above x b m
    rw[eLoc]at this;exact Nat.le_of_lt this
  have cellsOnce:env.cells.Pairwise λx y=>x.1≠y.1:=by
   rw[eCells];exact eX (hnames▸hd.once) (λ_ h=>nomatch h) List.Pairwise.nil
  obtain⟨hh,tk,es1⟩:=C.toInCall.same;refine h env s₁ (λx=>if env.kindOf x=some .local then bindL env.kindOf (ids.zip us) (λ_=>none) x else bindC env.kindOf (ids.zip us) (λ_=>none) x) ids hids
   ⟨En,⟨⟨_,C.toInCall.ns,λx hx=>by rw[if_pos hx]⟩,λx hx => ?_,C.apart⟩,λx u m => ?_,λb hb=>⟨cf _ (above b hb), ?_⟩,⟨hh,tk,es1,λb o e=>by have:=kp b o e;rwa [es1]at this,by rwa [es1]at hle⟩⟩ _
  ·have hc:env.kindOf x=some .cell:=by
    cases e:env.kindOf x with
    |none=>rw[e]at hx;injections hx
    |some k=>induction k using NameKind.casesOn<;>first|rfl|exact absurd e (noF x)|(rw[e]at hx;injections hx)
   have hm:(x,NameKind.cell)∈fd.scope.names:=mem_of_lookup (by have:=eKind x;rw[hc]at this;rw[hnames];exact this.symm);obtain⟨c,hcm⟩:=cO (n:=s.heap.objs.size+1) (acc:=[]) hm;obtain⟨c',e⟩:=eE hcm;have e':env.cells.lookup x=some c':=by rw[eCells];exact e
   refine⟨c',e', ?_⟩;rw[if_neg (by rw[hc];decide)];exact C.cell x c' e'
  ·have b:=yc (kindOf:=env.kindOf) (m:=λ_=>none) (by rw[jA hlen'];exact hnd) m
   by_cases hk:env.kindOf x=some .local
   ·rw[if_pos hk];exact b.1 hk
   ·rw[if_neg hk];exact b.2 hk
  ·rcases hb with e|⟨x,m⟩
   ·obtain⟨o',_,_,e',_⟩:=C.toInCall.ns;rw[e];exact⟨o',e'⟩
   ·obtain⟨o',e',_⟩:=C.cell x b (i6 cellsOnce m);exact⟨o',e'⟩
theorem w7 {env:Env} {h:Shared} {g:Str->Option Value} {ρ:Rho} (old:uf G h.heap) (off:Av G X) (al:bB X h.heap) (F:du env h.heap g) (own:∀b,fH env b->G.h0.get? b=none/\∃o,h.heap.get? b=some o) (ch:ay (env.kindOf "chr")=false)
 (sl:∀x,ag (env.kindOf x)=true->ir G (am env X λ_=>none) h none (lk ρ (nm x)) (g x)):cY G env X (λ_=>none) ρ h where
 old:=old
 new:=λb f=>by
  rcases f with f|f|⟨y,f⟩
  ·exact off b f
  ·exact(own b f).1
  ·cases f
 alive:=λb f=>by
  rcases f with f|f|⟨y,f⟩
  ·exact al b f
  ·exact(own b f).2
  ·cases f
 look:=⟨g,F,sl⟩
 inj:=λx y a e=>nomatch e
 apart:=λx a e=>nomatch e
 pos:=λc=>aa (ch.symm.trans c)
structure tF(G:Cfg)(h:Heap)(x dx:Addr)(m:Str->Option Value):Prop where
 obj:∃o,h.get? x=some o/\o.cls = .ref G.C/\o.dict=some dx/\∀c,o.data ≠ .cls c
 ns:h.Ns1 dx m
 ne:dx≠x
 only:∀y,y∉dn->m y=none
variable {N:Addr} {mN mg mb:Str->Option Value}
theorem rN (B:kh G N mN mg mb) {s:Shared} {x dx:Addr} {m:Str->Option Value} {f:Str} {v:Value} (old:uf G s.heap) (K:tF G s.heap x dx m) (newx:G.h0.get? x=none) (hf:f∈dn)
 {E:Value->Shared->Prop} {Q:Unit->Shared->Prop} (q:∀h' tk,s.toks<=tk->tF G h' x dx (λy=>if y=f then some v else m y)->(∀b o,b≠x->b≠dx->s.heap.get? b=some o->h'.get? b=some o)->Q () { s with heap:=h',toks:=tk }):
 wpAny (model G.p G.w) A (setAttr (.ref x) f v) Q E s:=by
 obtain⟨nm',qn,bs,sn,sub,col,dd,k0,k1,k2,k3,k5,hC⟩:=B.o old;obtain⟨o,ho,hc,hd,hn⟩:=K.obj;have hxC:x≠G.C:=λe=>by
  obtain⟨_,_,_,_,_,_,_,_,_,_,_,_,hC0⟩:=B.o λ_ _ e=>e
  rw[<-e,newx]at hC0;exact aD hC0
 obtain⟨hh,g,d,t,os⟩:=s;refine bA (store_attr F.store_object hC (B.cls.keeps old).ns B.noSet (B.noF f hf) (B.noF0 f hf) hxC ⟨o,ho,hc,hn, .inr ⟨dx,hd,K.ne,K.ns⟩⟩ (λh' tk' I kp sx hle => ?_) (ns:=dn) (λy hy => ?_) (by rw[sizeLine_eq];decide))
 ·obtain⟨o1,e1,c1,d1,_,dd1⟩:=sx o ho
  have ed:=dd1 dx hd;obtain⟨o2,e2,c2,n2,dr⟩:=I;obtain rfl:=bR (e1.symm.trans e2)
  rcases dr with⟨hn0,_⟩|⟨d',hd',ne',ns'⟩
  ·rw[ed]at hn0;injections hn0
  ·obtain rfl:=bR (ed.symm.trans hd')
   refine q h' tk' hle ⟨⟨o1,e1,c2,ed,n2⟩,ns',K.ne,λy hy => ?_⟩ λb o' nb nd e=>kp b o' nb (λo₀ dx' g0 gd=>by
    obtain rfl:=bR (ho.symm.trans g0);obtain rfl:=bR (hd.symm.trans gd);exact nd) e
   show(if y=f then some v else m y)=none;rw[if_neg (λe:y=f=>hy (e▸hf))];exact K.only y hy
 ·by_cases h:y∈dn
  ·exact h
  ·exact absurd (K.only y h) hy
noncomputable def X1(X:Addr->Prop)(x dx:Addr):Addr->Prop:=λb=>X b\/b=x\/b=dx
structure Tl(G:Cfg)(env:Env)(X:Addr->Prop)(g:Str->Option Value)(x dx:Addr)(m:Str->Option Value)(ρ:Rho)(h:Shared):Prop where
 old:uf G h.heap
 al:bB X h.heap
 F:du env h.heap g
 own:∀b,fH env b->G.h0.get? b=none/\b≠x/\b≠dx/\∃o,h.heap.get? b=some o
 K:tF G h.heap x dx m
 ch:ay (env.kindOf "chr")=false
 self:g "self"=some (.ref x)
 sl:∀y,ag (env.kindOf y)=true->ir G (am env (X1 X x dx) λ_=>none) h none (lk ρ (nm y)) (g y)
structure w8(G:Cfg)(X:Addr->Prop)(x dx:Addr):Prop where
 off:Av G X
 newx:G.h0.get? x=none
 newd:G.h0.get? dx=none
 nx:¬X x
 nd:¬X dx
variable {κ:List (Str×NameKind)} {ρ:Rho} {Φ:Fns} {env:Env} {g:Str->Option Value} {x dx:Addr} {m:Str->Option Value}
theorem Tl.sta{h:Shared}(T:Tl G env X g x dx m ρ h)(o1:w8 G X x dx):cY G env (X1 X x dx) (λ_=>none) ρ h:=
 w7 T.old (λb hb=>by rcases hb with h|h|h<;>first|exact o1.off b h|(rw[h];first|exact o1.newx|exact o1.newd))
  (λb hb=>by
    rcases hb with h|h|h
    ·exact T.al b h
    ·obtain⟨o,e,_⟩:=T.K.obj;rw[h];exact⟨o,e⟩
    ·obtain⟨o,_,_,e,_⟩:=T.K.ns;rw[h];exact⟨o,e⟩) T.F (λb hb=>⟨(T.own b hb).1,(T.own b hb).2.2.2⟩) T.ch T.sl
theorem Tl.move{h h':Shared}{m':Str->Option Value}(T:Tl G env X g x dx m ρ h)(o1:w8 G X x dx)(k:∀b o,b≠x->b≠dx->h.heap.get? b=some o->h'.heap.get? b=some o)(le:h.toks<=h'.toks)(K':tF G h'.heap x dx m'):Tl G env X g x dx m' ρ h' where
 old:=λb o e=>k b o (λh=>by rw[h,o1.newx]at e;injections e) (λh=>by rw[h,o1.newd]at e;injections e) (T.old b o e)
 al:=λb hb=>let⟨o,e⟩:=T.al b hb;⟨o,k b o (λh=>o1.nx (h▸hb)) (λh=>o1.nd (h▸hb)) e⟩
 F:=T.F.off λb o hb e=>k b o (T.own b hb).2.1 (T.own b hb).2.2.1 e
 own:=λb hb=>let⟨h1,h2,h3,o,e⟩:=T.own b hb;⟨h1,h2,h3,o,k b o h2 h3 e⟩
 K:=K'
 ch:=T.ch
 self:=T.self
 sl:=λy hy=>(T.sl y hy).on ⟨λb o nb e=>k b o (λh=>nb (.inl (.inr (.inl h)))) (λh=>nb (.inl (.inr (.inr h)))) e,λ_ _ _ f=>f,le⟩ λa e=>by injections e
theorem jB (B:kh G N mN mg mb) (Fa:aU G A Φ) (En:aw env κ) {τ:Tau} {s:Shared} (T:Tl G env X g x dx m ρ s) (o1:w8 G X x dx) (hs:ag (kd κ (nm "self"))=true) {f:Str} (hf:f∈dn) {e:Expr} {v:V} (ok:ev Φ τ 40 κ ρ e=(true,v)) (hc:eV e=false) {p p1 p2:Pos}
 {E:Value->Shared->Prop} {Q:Flow->Shared->Prop} (q:∀u s',Tl G env X g x dx (λy=>if y=f then some u else m y) ρ s'->ak G (am env (X1 X x dx) λ_=>none) s' v u->(∃h tk,s'={ s with heap:=h,toks:=tk }/\s.toks<=tk) ->
   (∀b o,b≠x->b≠dx->s.heap.get? b=some o->s'.heap.get? b=some o)->Q .next s'):wpAny (model G.p G.w) A (exec (.Assign [.Attribute (.Name "self" p) f p1] e p2) env) Q E s:=by
 have GE:=(gV (G:=G) (A:=A) Fa τ 40 κ env (X1 X x dx) ρ En).1;have hx:ag (env.kindOf "self")=true:=(En.names _).trans hs;have pl:=En.plain "self" (by rw[hx];rfl);refine plainObj_wpAny_Assign_Attribute (GE.ok e (by rw[ok]) _ s (T.sta o1) _ _ λu s1 k1 r1 => ?_) (lc hc _ _);have T1:Tl G env X g x dx m ρ s1:=T.move o1 (λb o _ _ h=>Kp.keep k1 b o h) (Kp.le k1)
  { obj:=let⟨o,h,r⟩:=T.K.obj;⟨o,Kp.keep k1 _ _ h,r⟩,ns:=T.K.ns.keeps (Kp.keep k1),ne:=T.K.ne,only:=T.K.only }
 refine wpAny_Name (dG En.kind T1.F hx pl.2 T1.self ?_) pl.1;refine rN B T1.old T1.K o1.newx hf λh' tk hle K' kp => ?_
 rw[ok]at r1;obtain⟨h1,t1,rfl,kk,l1⟩:=k1;exact q u _ (T1.move (h':={ s with heap:=h',toks:=tk }) o1 kp hle K') (r1.on ⟨λb o nb e=>kp b o (λh=>nb (.inl (.inr (.inl h)))) (λh=>nb (.inl (.inr (.inr h)))) e,λ_ _ _ f=>f,hle⟩) ⟨h',tk,rfl,ah l1 hle⟩ λb o nx nd e=>kp b o nx nd (kk b o e)
theorem Ba(B:kh G N mN mg mb):CQ G A (.ref G.C):=λpos trees s E Q hp q=>by
 have hst:(trees.any (λx=>x.fst)||([]:List (Option Str×Sem Value)).any λx=>x.fst.isNone)=false:=by rw[hp];rfl
 unfold callWith;refine ae (bQ (bK q (λas s₁ h₁ => ?_) λ_ _ x=>x));obtain⟨hk,hc⟩:=h₁;obtain⟨hh,g,d,t,os⟩:=s₁;obtain⟨nm',qn,bs,sn,sub,col,dd,k0,k1,k2,k3,k5,hC⟩:=B.o hk;have f1:=tc_lookup;have hT:(⟨hh,g,d,t,os⟩:Shared).TypeIs (.ref G.C) "type":=⟨_,hC,rfl⟩;refine ae (dw ?_);show wpAny _ _ (keeperOf (.ref G.C)>>=_) _ _ _;unfold keeperOf specialOf
 repeat(any_goals(first|assumption|with_reducible refine wpAny_loadPart_at hC ?_ |with_reducible refine wpAny_load' hC ?_ |wp_step))
 rw[if_pos (by rfl),hst];show wpAny _ _ (call (.ref G.C) as.pos as.kw>>=λr=>do holding [r] point;pure r) _ _ _;exact ae (bK hc (λr s' hr=>ae (bQ (wpAny_point (ar hr)))) λ_ _ x=>x)
theorem lj(env:Env)(b:List Stmt):∀a:List Stmt,execs (a++b) env=execs a env>>=(λf=>match f with
 | .next=>execs b env
 |f=>pure f)
 |[]=>by show execs b env=_;rw[show execs [] env=pure .next from rfl,pure_bind]
 |st::a=>by
  rw[List.cons_append,execs_cons,execs_cons,bind_assoc]
  congr 1
  funext f
  induction f using Flow.casesOn with
  |next=>exact lj env b a
  |_=>simp
theorem kj {M:Model} {E:Value->Shared->Prop} {s:Shared} {a b:List Stmt} {Q:Flow->Shared->Prop} (h:wpAny M A (execs a env) (λf s'=>(match f with
 | .next=>wpAny M A (execs b env) Q E s'
 |f=>Q f s')) E s):wpAny M A (execs (a++b) env) Q E s:=by
 rw[lj];exact ae (bK h (λf s' h'=>by induction f using Flow.casesOn<;>first|exact h'|exact ar h') λ_ _ e=>e)
noncomputable abbrev WsRun:=List Nat->Bool×Int×Int×List Int×Int
noncomputable def G3(run:WsRun):List V->R:=iL (mJ λs=>((run s).1, .ws s (run s).2.1 (run s).2.2.1 (run s).2.2.2.1 (run s).2.2.2.2 (decide ((run s).2.2.2.1.length<=1))))
noncomputable def jH(n nt:Int)(cnt:List Int)(b:Int):Rho:=[(nm "n", .val (.int n)),(nm "nt", .val (.int nt)),(nm "b", .val (.int b)),(nm "count", .val (.list (cnt.map .int)))]
inductive tG(Φ:Fns)(τ:Tau)(W:Nat)(d:Def)(run:WsRun):Prop
 |mk (p1 p2 p3 p4:Pos) (mid:List Stmt) (q:Nat->Pos) (e1 e2 e3 e4:Expr) (params:d.params=[nm "self",nm "ws"])
  (ch:ay (kd d.κ (nm "chr"))=false) (self:ag (kd d.κ (nm "self"))=true) (text:ag (kd d.κ (nm "ws"))=true) (ns:∀x∈(["n","nt","b","count"]:List Str),ag (kd d.κ (nm x))=true)
  (body:d.body = .Assign [.Attribute (.Name "self" p1) "raw" p2] (.Name "ws" p3) p4::(mid++[.Assign [.Attribute (.Name "self" (q 0)) "n" (q 1)] e1 (q 2),
    .Assign [.Attribute (.Name "self" (q 3)) "nt" (q 4)] e2 (q 5), .Assign [.Attribute (.Name "self" (q 6)) "norm" (q 7)] e3 (q 8), .Assign [.Attribute (.Name "self" (q 9)) "is_simple" (q 10)] e4 (q 11)]))
  (c1:eV e1=false) (c2:eV e2=false) (c3:eV e3=false) (c4:eV e4=false)
  (hmid:∀x raw,(run raw).1=true->∃ρ' μ,ex Φ τ μ W d.κ 200 mid (dD d.κ [(nm "self", .obj x raw),(nm "ws", .str raw)])=(true, .next ρ')/\lk ρ' (nm "self") = .val (.obj x raw)/\lk ρ' (nm "n") = .val (.int (run raw).2.1) /\
    lk ρ' (nm "nt") = .val (.int (run raw).2.2.1)/\lk ρ' (nm "b") = .val (.int (run raw).2.2.2.2)/\lk ρ' (nm "count") = .own ((run raw).2.2.2.1.map .int))
  (htail:∀raw,(run raw).1=true->∀n nt cnt b,run raw=(true,n,nt,cnt,b)->ev Φ τ 40 d.κ (jH n nt cnt b) e1=(true, .int n)/\ev Φ τ 40 d.κ (jH n nt cnt b) e2=(true, .int nt) /\
    ev Φ τ 40 d.κ (jH n nt cnt b) e3=(true, .tup [.tup (cnt.map .int), .int b])/\ev Φ τ 40 d.κ (jH n nt cnt b) e4=(true, .bool (decide (cnt.length<=1))))
theorem Dl{n nt:Int}{cnt:List Int}{b:Int}(x:Nm):lk (jH n nt cnt b) x = .un\/(x=nm "n"/\lk (jH n nt cnt b) x = .val (.int n))\/(x=nm "nt"/\lk (jH n nt cnt b) x = .val (.int nt))\/(x=nm "b"/\lk (jH n nt cnt b) x = .val (.int b)) \/
 (x=nm "count"/\lk (jH n nt cnt b) x = .val (.list (cnt.map .int))):=by
 have e:lk (jH n nt cnt b) x=bif ab x (nm "n")then .val (.int n)else bif ab x (nm "nt")then .val (.int nt)else bif ab x (nm "b")then .val (.int b)else bif ab x (nm "count")then .val (.list (cnt.map .int))else .un:=rfl
 rw[e];cases c1:ab x (nm "n")with
 |true=>exact .inr (.inl ⟨an.mp c1,rfl⟩)
 |false=>
 cases c2:ab x (nm "nt")with
 |true=>exact .inr (.inr (.inl ⟨an.mp c2,rfl⟩))
 |false=>
 cases c3:ab x (nm "b")with
 |true=>exact .inr (.inr (.inr (.inl ⟨an.mp c3,rfl⟩)))
 |false=>
 cases c4:ab x (nm "count")with
 |true=>exact .inr (.inr (.inr (.inr ⟨an.mp c4,rfl⟩)))
 |false=>exact .inl rfl
theorem pD{P:Addr->Prop}{h:Shared}:∀{cnt:List Int} {vs:List Value},Reps G P h (cnt.map V.int) vs->oK CJ vs cnt
 |[],vs,r=>by rw[Reps.nil_iff.mp r];exact .nil
 |i::cnt,vs,r=>by
  obtain⟨v,r',rfl,h1,h2⟩:=Reps.cons_iff.mp r;exact .cons (ak.int_iff.mp h1) (pD h2)
theorem Bb{P:Addr->Prop}{h:Shared}{cnt:List Int}{vs:List Value}(r:oK CJ vs cnt):Reps G P h (cnt.map V.int) vs:=by
 induction r with
 |nil=>exact Reps.nil
 |cons a b ih=>exact Reps.cons (ak.int_iff.mpr a) ih
end
end
section
open PySem PySem.W PySem.Calls PyProof.Rows
section
variable {G:Cfg} {A:Around} {X:Addr->Prop} {N:Addr} {mN mg mb:Str->Option Value} {Φ:Fns} {κ:List (Str×NameKind)} {env:Env} {g:Str->Option Value} {x dx:Addr} {m:Str->Option Value}
theorem Fg:∀{l:List Str} {a b:Str},l.map nm=[nm a,nm b]->l=[a,b]
 |[],_,_,h=>by cases h
 |[_],_,_,h=>by cases(List.cons.inj h).2
 |[x,y],_,_,h=>by rw[dB (List.cons.inj h).1,dB (List.cons.inj (List.cons.inj h).2).1]
 |_::_::_::_,_,_,h=>by cases(List.cons.inj (List.cons.inj h).2).2
noncomputable def jR(x dx:Addr)(s s':Shared):Prop:=(∃h tk,s'={ s with heap:=h,toks:=tk }/\s.toks<=tk)/\∀b o,b≠x->b≠dx->s.heap.get? b=some o->s'.heap.get? b=some o
theorem jR.trans{s s1 s2:Shared}(a:jR x dx s s1)(b:jR x dx s1 s2):jR x dx s s2:=by
 obtain⟨⟨h,t,rfl,l⟩,k⟩:=a;obtain⟨⟨h',t',rfl,l'⟩,k'⟩:=b;exact⟨⟨h',t',rfl,ah l l'⟩,λq o n1 n2 e=>k' q o n1 n2 (k q o n1 n2 e)⟩
theorem Bc (B:kh G N mN mg mb) (Fa:aU G A Φ) (En:aw env κ) {τ:Tau} {s:Shared} {raw:List Nat} {n nt:Int} {cnt:List Int} {b:Int} (T:Tl G env X g x dx m (jH n nt cnt b) s) (o1:w8 G X x dx) (hs:ag (kd κ (nm "self"))=true) (hm:∀y:Str,y≠"raw"->m y=none) (hr:∃t,m "raw"=some (.str (tx raw) t))
 {e1 e2 e3 e4:Expr} (c1:eV e1=false) (c2:eV e2=false) (c3:eV e3=false) (c4:eV e4=false) (v1:ev Φ τ 40 κ (jH n nt cnt b) e1=(true, .int n)) (v2:ev Φ τ 40 κ (jH n nt cnt b) e2=(true, .int nt))
 (v3:ev Φ τ 40 κ (jH n nt cnt b) e3=(true, .tup [.tup (cnt.map .int), .int b])) (v4:ev Φ τ 40 κ (jH n nt cnt b) e4=(true, .bool (decide (cnt.length<=1)))) {q:Nat->Pos} {E:Value->Shared->Prop} {Q:Flow->Shared->Prop}
 (k:∀s',jR x dx s s'->wv G X s'.heap x raw n nt cnt b (decide (cnt.length<=1))->Q .next s'):
 wpAny (model G.p G.w) A (execs [.Assign [.Attribute (.Name "self" (q 0)) "n" (q 1)] e1 (q 2), .Assign [.Attribute (.Name "self" (q 3)) "nt" (q 4)] e2 (q 5), .Assign [.Attribute (.Name "self" (q 6)) "norm" (q 7)] e3 (q 8), .Assign [.Attribute (.Name "self" (q 9)) "is_simple" (q 10)] e4 (q 11)] env) Q E s:=by
 refine wpAny_execs_cons (jB B Fa En T o1 hs (f:="n") nofun v1 c1 λw1 s4 T4 r4 e4 k4 => ?_);refine wpAny_execs_cons (jB B Fa En T4 o1 hs (f:="nt") nofun v2 c2 λw2 s5 T5 r5 e5 k5 => ?_);refine wpAny_execs_cons (jB B Fa En T5 o1 hs (f:="norm") nofun v3 c3 λw3 s6 T6 r6 e6 k6 => ?_);refine wpAny_execs_cons (jB B Fa En T6 o1 hs (f:="is_simple") nofun v4 c4 λw4 s7 T7 r7 e7 k7 => ?_);refine wpAny_execs_nil (k s7 (jR.trans ⟨e4,k4⟩ (jR.trans ⟨e5,k5⟩ (jR.trans ⟨e6,k6⟩ ⟨e7,k7⟩))) ?_);have l7:s6.toks<=s7.toks:=by obtain⟨_,_,rfl,l⟩:=e7;exact l
 have r6:=r6.on (X':=X) ⟨λb o nb e=>k7 b o (λh=>nb (.inl (.inr (.inl h)))) (λh=>nb (.inl (.inr (.inr h)))) e,λb o _ f => .inl (.inl f),l7⟩;clear l7 T6 T5 T4 T e7 e6 e5 e4 k4 k5 k6 k7;obtain⟨T,vT,rfl,nT,hT6,rT⟩:=ak.tup_iff.mp r6;obtain⟨w,l,eT,h1,h2⟩:=Reps.cons_iff.mp rT;obtain⟨w',l',rfl,h3',h4⟩:=Reps.cons_iff.mp h2;rw[Reps.nil_iff.mp h4]at eT;obtain⟨T2,vT2,rfl,nT2,hT2,rT2⟩:=ak.tup_iff.mp h1;obtain⟨tb2,rfl⟩:=ak.int_iff.mp h3';obtain⟨t1,rfl⟩:=ak.int_iff.mp r4;obtain⟨t2,rfl⟩:=ak.int_iff.mp r5;rw[ak.bool_iff.mp r7]at T7;obtain⟨o,a1,a2,a3,a4⟩:=T7.K.obj;have evT:vT = #[.ref T2, .int b tb2]:=Array.ext' eT
 subst evT;refine⟨o,dx,_,T,T2,tb2,vT2,a1,a2,a3,a4,T7.K.ne,o1.nd,T7.K.ns,λz z1 z2 z3 z4 z5 => ?_, ?_,⟨t1, ?_⟩,⟨t2, ?_⟩, ?_, ?_,nT,hT6,nT2,hT2,pD rT2⟩
 ·rw[if_neg z5,if_neg z4,if_neg z3,if_neg z2];exact hm z z1
 ·rw[if_neg nofun,if_neg nofun,if_neg nofun,if_neg nofun];exact hr
 ·rfl
 ·rfl
 ·rfl
 ·rfl
structure Fi(G:Cfg)(X:Addr->Prop)(s:Shared)(x dx:Addr)(s':Shared):Prop where
 old:uf G s'.heap
 al:bB X s'.heap
 o1:w8 G X x dx
 K:tF G s'.heap x dx λ_=>none
theorem u9{P:Prop}{b:Addr}(f:am env X (λ_=>none) b)(h1:X b->P)(h2:fH env b->P):P:=by
 rcases f with f|f|⟨y,f⟩
 ·exact h1 f
 ·exact h2 f
 ·exact aD f
theorem y8 (B:kh G N mN mg mb) {s s1:Shared} {raw:List Nat} {tR:Tok} (Bn:Fi G X s x dx s) (En1:ic G env κ s s1 g ["self","ws"] [.ref x, .str (tx raw) tR]) (hs:ag (kd κ (nm "self"))=true) (ht:ag (kd κ (nm "ws"))=true) (ch:ay (kd κ (nm "chr"))=false)
 {p1 p2 p3 p4:Pos} {E:Value->Shared->Prop} {Q:Flow->Shared->Prop}
 (q:∀s2,(∃h tk,s2={ s1 with heap:=h,toks:=tk }/\s1.toks<=tk)->(∀b o,b≠x->b≠dx->s.heap.get? b=some o->s2.heap.get? b=some o)->(∀b,fH env b->G.h0.get? b=none/\s.heap.get? b=none/\b≠x/\b≠dx)->tF G s2.heap x dx (λy=>if y="raw" then some (.str (tx raw) tR)else none) ->
   cY G env X (λ_=>none) (dD κ [(nm "self", .obj x raw),(nm "ws", .str raw)]) s2->Q .next s2):
 wpAny (model G.p G.w) A (exec (.Assign [.Attribute (.Name "self" p1) "raw" p2] (.Name "ws" p3) p4) env) Q E s1:=by
 have En:=En1.En;have gself:g "self"=some (.ref x):=En1.has _ _ (aO ..);have gws:g "ws"=some (.str (tx raw) tR):=En1.has _ _ (aG _ (aO ..));have hS:ag (env.kindOf "self")=true:=(En.names _).trans hs;have hT:ag (env.kindOf "ws")=true:=(En.names _).trans ht;have plS:=En.plain "self" (by rw[hS];rfl);have plT:=En.plain "ws" (by rw[hT];rfl);have kp1:=Kp.keep En1.keeps;have old1:uf G s1.heap:=λb o e=>kp1 b o (Bn.old b o e)
 have K1:tF G s1.heap x dx λ_=>none:=⟨let⟨o,h,r⟩:=Bn.K.obj;⟨o,kp1 _ _ h,r⟩,Bn.K.ns.keeps kp1,Bn.K.ne,Bn.K.only⟩
 have own:∀b,fH env b->G.h0.get? b=none/\s.heap.get? b=none/\b≠x/\b≠dx:=λb hb=>by
  have h1:=(En1.own b hb).1;refine⟨?_,h1,λe => ?_,λe => ?_⟩
  ·cases e:G.h0.get? b with
   |none=>rfl
   |some o=>exact aD (h1.symm.trans (Bn.old b o e))
  ·obtain⟨o,h,_⟩:=Bn.K.obj;exact aD (h1.symm.trans (e▸h))
  ·obtain⟨o,_,_,h,_⟩:=Bn.K.ns;exact aD (h1.symm.trans (e▸h))
 refine plainObj_wpAny_Assign_Attribute (wpAny_Name (dG En.kind En1.frame hT plT.2 gws (wpAny_Name (dG En.kind En1.frame hS plS.2 gself ?_) plS.1)) plT.1) (lc rfl _ _);refine rN B old1 K1 Bn.o1.newx nofun λh2 tk2 hle2 K2 kp2=>q _ ⟨h2,tk2,rfl,hle2⟩ (λb o n1 n2 e=>kp2 b o n1 n2 (kp1 b o e)) own K2 ?_
 have nfx:¬am env X (λ_=>none) x:=λf=>u9 f Bn.o1.nx λf=>(own _ f).2.2.1 rfl
 have nfd:¬am env X (λ_=>none) dx:=λf=>u9 f Bn.o1.nd λf=>(own _ f).2.2.2 rfl
 refine w7 (λb o e=>kp2 b o (λh => ?_) (λh => ?_) (old1 b o e)) Bn.o1.off (λb hb=>let⟨o,e⟩:=Bn.al b hb;⟨o,kp2 b o (λh=>Bn.o1.nx (h▸hb)) (λh=>Bn.o1.nd (h▸hb)) (kp1 b o e)⟩)
  (En1.frame.off λb o hb e=>kp2 b o (own b hb).2.2.1 (own b hb).2.2.2 e) (λb hb=>⟨(own b hb).1,let⟨o,e⟩:=(En1.own b hb).2;⟨o,kp2 b o (own b hb).2.2.1 (own b hb).2.2.2 e⟩⟩) ((En.glob "chr").trans ch) λy hy => ?_
 ·rw[h,Bn.o1.newx]at e;exact aD e
 ·rw[h,Bn.o1.newd]at e;exact aD e
 ·rcases nP [(nm "self", .obj x raw),(nm "ws", .str raw)] κ (nm y)with e|⟨v,ev1,ev2⟩
  ·rw[e];trivial
  ·rw[ev2]
   have ev1:(bif ab (nm y) (nm "self")then some (V.obj x raw)else bif ab (nm y) (nm "ws")then some (.str raw)else none)=some v:=ev1;generalize cs:ab (nm y) (nm "self")=b at ev1
   induction b using Bool.casesOn with
   |true=>
    rw[<-bR ev1,iU cs];refine⟨_,gself,ak.obj_iff.mpr ⟨rfl,nfx, ?_⟩⟩;obtain⟨o,a1,a2,a3,a4⟩:=K2.obj;exact⟨o,dx,_,tR,a1,a2,a3,a4,K2.ne,nfd,K2.ns,rfl,λz hz=>if_neg hz⟩
   |false=>
    generalize ct:ab (nm y) (nm "ws")=b at ev1
    induction b using Bool.casesOn with
    |true=>rw[<-bR ev1,iU ct];exact⟨_,gws,ak.str_iff.mpr ⟨_,rfl⟩⟩
    |false=>exact aD ev1
theorem Fj {s2 s3:Shared} {raw:List Nat} {tR:Tok} {n nt:Int} {cnt:List Int} {b:Int} {ρ':Rho} {O':Nm->Option Addr} (o1:w8 G X x dx) (own:∀b,fH env b->G.h0.get? b=none/\b≠x/\b≠dx) (En:aw env κ)
 (K2:tF G s2.heap x dx (λy=>if y="raw" then some (.str (tx raw) tR)else none)) (ch:ay (kd κ (nm "chr"))=false) (S3:cY G env X O' ρ' s3) (mv:Mv env (λ_=>none) O' s2 s3) (hs:ag (kd κ (nm "self"))=true) (ns:∀x∈(["n","nt","b","count"]:List Str),ag (kd κ (nm x))=true)
 (l1:lk ρ' (nm "self") = .val (.obj x raw)) (l2:lk ρ' (nm "n") = .val (.int n)) (l3:lk ρ' (nm "nt") = .val (.int nt)) (l4:lk ρ' (nm "b") = .val (.int b)) (l5:lk ρ' (nm "count") = .own (cnt.map .int)):
 ∃g3 m3,Tl G env X g3 x dx m3 (jH n nt cnt b) s3/\(∀y:Str,y≠"raw"->m3 y=none)/\∃t,m3 "raw"=some (.str (tx raw) t):=by
 obtain⟨g3,F3,sl3⟩:=S3.look;have get:∀{y:Str} {v:V},ag (kd κ (nm y))=true->lk ρ' (nm y) = .val v->∃u,g3 y=some u/\ak G (am env X O') s3 v u:=λ{y v} hy e=>by
  have:=sl3 y ((En.names _).trans hy);rw[e]at this;exact this
 obtain⟨u1,gu1,ru1⟩:=get hs l1;obtain⟨rfl,nfx3,ob3⟩:=ak.obj_iff.mp ru1;have hc:=sl3 "count" ((En.names _).trans (ns _ nofun));rw[l5]at hc;obtain⟨ac,vsc,gc,Oc,⟨mc,elc⟩,rc⟩:=hc;obtain⟨o3,d3,m3,t3,b1,b2,b3,b4,b5,b6,b7,b8,b9⟩:=ob3;have hd3:d3=dx:=by
  obtain⟨o,a1,_,a3,_⟩:=K2.obj;obtain⟨h3,tk3,es3,on3⟩:=mv;have e:s3.heap.get? x=some o:=by
   exact on3.keep x o (λf=>u9 f (λf=>f) λf=>(own _ f).2.1 rfl) a1
  rw[<-bR (b1.symm.trans e)]at a3;exact bR (b3.symm.trans a3)
 subst hd3;have apc:=S3.apart _ ac Oc;have cx:ac≠x:=λe=>by rw[e,b1]at elc;obtain rfl:=bR elc;cases b2
 have cd:ac≠d3:=λe=>by
  obtain⟨o',es',ep',ge',de',_⟩:=b7;rw[e,ge']at elc;obtain rfl:=bR elc;cases de'
 have icnt:=pD rc;refine⟨g3,m3,⟨S3.old,λb hb=>S3.alive b (.inl hb),F3,λb hb=>⟨(own b hb).1,(own b hb).2.1,(own b hb).2.2,S3.alive b (.inr (.inl hb))⟩,⟨⟨o3,b1,b2,b3,b4⟩,b7,b5,λy hy=>b9 y λe=>hy (by rw[e];decide)⟩,(En.glob "chr").trans ch,gu1,λy hy => ?_⟩,b9,t3,b8⟩;have int:∀{y:Str} {i:Int},y∈(["n","nt","b","count"]:List Str)->lk ρ' (nm y) = .val (.int i)->ir G (am env (X1 X x d3) λ_=>none) s3 none (.val (.int i)) (g3 y):=λ{y i} hm e=>by
  obtain⟨u,gu,ru⟩:=get (ns y hm) e;exact⟨u,gu,ak.int_iff.mpr (ak.int_iff.mp ru)⟩
 rcases Dl (n:=n) (nt:=nt) (cnt:=cnt) (b:=b) (nm y)with e|⟨e0,e⟩|⟨e0,e⟩|⟨e0,e⟩|⟨e0,e⟩<;>rw[e]
 ·trivial
 ·rw[dB e0];exact int nofun l2
 ·rw[dB e0];exact int nofun l3
 ·rw[dB e0];exact int nofun l4
 ·rw[dB e0]
  refine⟨_,gc,ak.list_iff.mpr ⟨ac,vsc,rfl,λf=>u9 f (λf => ?_) λf=>apc.2 f,⟨_,elc,rfl,_,rfl⟩,Bb icnt⟩⟩
  rcases f with f|f|f
  ·exact apc.1 f
  ·exact cx f
  ·exact cd f
theorem Bd (B:kh G N mN mg mb) {d:Def} {τ:Tau} {W:Nat} {run:WsRun} (I:tG Φ τ W d run) (Fa:aU G A Φ) {s s1:Shared} {raw:List Nat} {tR:Tok} (ok:(run raw).1=true) (Bn:Fi G X s x dx s) {ids:List Str} (hids:ids.map nm=d.params) (En1:ic G env d.κ s s1 g ids [.ref x, .str (tx raw) tR])
 {E:Value->Shared->Prop} {Q:Flow->Shared->Prop} (q:∀s',jR x dx s s'->wv G X s'.heap x raw (run raw).2.1 (run raw).2.2.1 (run raw).2.2.2.1 (run raw).2.2.2.2 (decide ((run raw).2.2.2.1.length<=1))->Q .next s'):
 wpAny (model G.p G.w) A (execs d.body env) Q E s1:=by
 obtain⟨p1,p2,p3,p4,mid,qp,e1,e2,e3,e4,params,ch,hs,ht,ns,hbody,c1,c2,c3,c4,hmid,htail⟩:=I;rw[params]at hids;obtain rfl:=Fg hids;rw[hbody];refine wpAny_execs_cons (y8 B Bn En1 hs ht ch λs2 e2' k2 own K2 S2 => ?_);obtain⟨ρ',μ,hex,l1,l2,l3,l4,l5⟩:=hmid x raw ok;have X0:=u7 (G:=G) (A:=A) Fa En1.En (τ:=τ) (μ:=μ) (W:=W) 200 [mid] X (dD d.κ [(nm "self", .obj x raw),(nm "ws", .str raw)]);rw[show[mid].flatten=mid by simp,hex]at X0;refine kj (bK (X0 rfl _ s2 S2 E (λf s3=>f = .next/\∃O',cY G env X O' ρ' s3/\Mv env (λ_=>none) O' s2 s3) λf s3 ho => ?_) (λf s3 h3 => ?_) λ_ _ e=>e)
 ·induction f using Flow.casesOn with
  |next=>exact⟨rfl,ho⟩
  |_=>exact ho.elim
 induction f using Flow.casesOn with
 |next=>
  obtain⟨_,O',S3,mv⟩:=h3;obtain⟨v1,v2,v3,v4⟩:=htail raw ok (run raw).2.1 (run raw).2.2.1 (run raw).2.2.2.1 (run raw).2.2.2.2 (by rw[<-ok]);obtain⟨g3,m3,T,hm,hr⟩:=Fj Bn.o1 (λb hb=>⟨(own b hb).1,(own b hb).2.2⟩) En1.En K2 ch S3 mv hs ns l1 l2 l3 l4 l5;refine Bc B Fa En1.En T Bn.o1 hs hm hr c1 c2 c3 c4 v1 v2 v3 v4 λs' sn W=>q s' (jR.trans ⟨?_,λb o n1 n2 e => ?_⟩ sn) W
  ·obtain⟨h3,tk3,rfl,m3⟩:=mv
   obtain⟨h2,tk2,rfl,l2⟩:=e2';obtain⟨h1,tk1,rfl,_,l1⟩:=En1.keeps;exact⟨h3,tk3,rfl,ah l1 (ah l2 m3.tk)⟩
  ·obtain⟨h3,tk3,rfl,on3⟩:=mv
   exact on3.keep b o (λf=>u9 f (λf=>f) λf=>aD ((own b f).2.1.symm.trans e)) (k2 b o n1 n2 e)
 |_=>cases h3.1
theorem Dm (B:kh G N mN mg mb) {n:Nat} {fI:Addr} {d:Def} {τ:Tau} {W:Nat} {run:WsRun} (hd:eG G fI d) (hI:mN "__init__"=some (.ref fI)) (hfc:∃o,G.h0.get? fI=some o/\o.cls = .type "function") (hp:d.params.length=2)
 (I:tG Φ τ W d run) (Fa:∀A,ix n A->aU G A Φ) (room:ix (n+2) A) {s:Shared} (old:uf G s.heap) (off:Av G X) (al:bB X s.heap) {raw:List Nat} {tR:Tok} (ok:(run raw).1=true):
 aS G A X (call (.ref G.C) [.str (tx raw) tR]) (.ws raw (run raw).2.1 (run raw).2.2.1 (run raw).2.2.2.1 (run raw).2.2.2.2 (decide ((run raw).2.2.2.1.length<=1))) s:=λE Q q=>by
 obtain⟨nm',qn,bs,sn,sub,col,dd,k0,k1,k2,k3,k5,hC⟩:=B.o old;obtain⟨oI,hoI,hcI⟩:=hfc;obtain⟨hh,gg,dr,tk,os⟩:=s;refine wpAny_call_obj_init F.objNew hC (B.cls.keeps old).ns hI (old _ _ hoI) hcI λh' x dx Mk => ?_
 clear hC k0 k1 k2 k3 k5 dd col sub sn bs qn nm';have room1:ix (n+1) (A.under (.builtin "type.__call__" ⟨.ref G.C::[.str (tx raw) tR],[]⟩)):=
  ⟨room.none,by have:=room.depth;show A.depth+1+(n+1)<recursionLimit;omega,by
    have:=room.units;show A.units+(1+3*_)+_+_<cLine;have hf:(Code.builtin "type.__call__" ⟨.ref G.C::[.str (tx raw) tR],[]⟩).frames=0:=by rfl
    rw[hf];omega⟩
 generalize A.under (.builtin "type.__call__" ⟨.ref G.C::[.str (tx raw) tR],[]⟩)=A1 at room1;have none0:∀{b:Addr},hh.get? b=none->G.h0.get? b=none:=λ{b} n=>by
  cases e:G.h0.get? b with
  |none=>rfl
  |some o=>exact aD (n.symm.trans (old b o e))
 have notX:∀{b:Addr},hh.get? b=none->¬X b:=λ{b} n h=>let⟨o,e⟩:=al b h;aD (n.symm.trans e)
 have o1:w8 G X x dx:=⟨off,none0 Mk.newX,none0 Mk.newD,notX Mk.newX,notX Mk.newD⟩;obtain⟨ox,hox,hcx,hnx,hdx⟩:=Mk.inst;have hdd:=Mk.dict ox hox;have K0:tF G h' x dx λ_=>none:=by
  rcases hdx with⟨hn0,_⟩|⟨d',hd',hne',hns'⟩
  ·exact aD (hn0.symm.trans hdd)
  ·obtain rfl:=bR (hd'.symm.trans hdd)
   exact⟨⟨ox,hox,hcx,hdd,hnx⟩,hns',hne',λ_ _=>rfl⟩
 have Bn:Fi G X ⟨h',gg,dr,tk,os⟩ x dx ⟨h',gg,dr,tk,os⟩:=⟨λb o e=>Mk.keeps b o (old b o e),λb hb=>let⟨o,e⟩:=al b hb;⟨o,Mk.keeps b o e⟩,o1,K0⟩;refine ye hd (by have:=room1.depth;omega) B.lim Bn.old (us:=[.ref x, .str (tx raw) tR]) hp.symm λenv s1 g ids hids En1 E' => ?_
 refine Bd B I (Fa _ (room1.deeper env)) ok Bn hids En1 λs' sn W=>⟨rfl,q _ s' ?_ (ak.ws_iff.mpr ⟨x,rfl,o1.nx,W⟩)⟩
 obtain⟨⟨h2,t2,rfl,l2⟩,k⟩:=sn;exact⟨h2,t2,rfl,λb o e=>k b o (λh=>aD (Mk.newX.symm.trans (h▸e))) (λh=>aD (Mk.newD.symm.trans (h▸e))) (Mk.keeps b o e),l2⟩
theorem Dn (B:kh G N mN mg mb) {n:Nat} {fI:Addr} {d:Def} {τ:Tau} {W:Nat} {run:WsRun} (hd:eG G fI d) (hI:mN "__init__"=some (.ref fI)) (hfc:∃o,G.h0.get? fI=some o/\o.cls = .type "function")
 (I:tG Φ τ W d run) (Fa:∀A,ix n A->aU G A Φ):fT G (n+2) G.C (G3 run):=λA room=>
 ⟨Ba B,λX s as us old off al r ok=>fS (c:=λus=>call (.ref G.C) us) r ok λv u h ok=>j5 (c:=λu=>call (.ref G.C) [u]) h ok λraw tR ok=>Dm B hd hI hfc (by
   obtain⟨_,_,_,_,_,_,_,_,_,_,params,_⟩:=I;rw[params];rfl) I Fa room old off al ok⟩
end
end
section
open PySem PySem.W PySem.Calls PyProof.Rows
section
variable {G:Cfg} {A:Around} {X:Addr->Prop} {Φ:Fns}
theorem ic.sta{env:Env}{κ:List (Str×NameKind)}{s s1:Shared}{g:Str->Option Value}{ids:List Str}{us:List Value}{as:List V}(en:ic G env κ s s1 g ids us)(old:uf G s.heap)(off:Av G X)(al:bB X s.heap)(r:Reps G X s as us)(ch:ay (kd κ (nm "chr"))=false):
 cY G env X (λ_=>none) (dD κ (nF (ids.map nm) as)) s1:=by
 have kp:=Kp.keep en.keeps;have on:On X (am env X λ_=>none) s s1:=⟨λb o _ e=>kp b o e,λb o e f=>by
  rcases f with f|f|⟨y,f⟩
  ·exact f
  ·rw[(en.own b f).1]at e;injections e
  ·(cases f),Kp.le en.keeps⟩
 refine w7 (λb o e=>kp b o (old b o e)) off (al.keeps kp) en.frame (λb hb=>⟨?_,(en.own b hb).2⟩) ((en.En.glob "chr").trans ch) λx hx => ?_
 ·cases e:G.h0.get? b with
  |none=>rfl
  |some o=>have:=old b o e;rw[(en.own b hb).1]at this;injections this
 ·rcases nP (nF (ids.map nm) as) κ (nm x)with e|⟨v,e1,e2⟩
  ·rw[e];trivial
  ·rw[e2]
   obtain⟨u,m,hr⟩:=w6 r e1;exact⟨u,en.has _ _ m,hr.on on⟩
theorem ic.fin{env:Env}{κ:List (Str×NameKind)}{s s1 s':Shared}{g:Str->Option Value}{ids:List Str}{us:List Value}{O':Nm->Option Addr}(en:ic G env κ s s1 g ids us)(mv:Mv env (λ_=>none) O' s1 s'):
 aM s s'/\∀v u,ak G (am env X O') s' v u->ak G X s' v u:=by
 obtain⟨h',tk',e,m⟩:=mv;subst e;obtain⟨h1,t1,rfl,kk,l1⟩:=en.keeps;refine⟨⟨h',tk',rfl,λb o e => ?_,ah l1 m.tk⟩,λv u hr=>hr.on ⟨λ_ _ _ e=>e,λb o e xb => .inl xb,aq _⟩⟩;refine m.keep b o (λf => ?_) (kk b o e)
 rcases f with f|f|⟨y,f⟩
 ·exact f
 ·rw[(en.own b f).1]at e;injections e
 ·cases f
theorem nS {env:Env} {κ:List (Str×NameKind)} {ρ:Rho} {O} (Fa:aU G A Φ) (En:aw env κ) {mg:Str->Option Value} (hm:G.h0.Ns mainGlobals mg) {x:Str} {u:Value} (hu:mg x=some u) (hx:ay (kd κ (nm x))=true) {s:Shared} (S:cY G env X O ρ s) {p:Pos}
 {E Q:Value->Shared->Prop} (q:Q u s):wpAny (model G.p G.w) A (eval (.Name x p) env) Q E s:=by
 have hk:ay (env.kindOf x)=true:=(En.glob x).trans hx;have pl:=En.plain x (by rw[hk,cC]);exact Name_function_global En.kind (jw hk) (loadGlobal_global (mg:=mg) (by rw[En.globals];exact hm.keeps S.old) hu q) pl.1
noncomputable def Iu(set:Int->Bool):List V->R:=iL (HD λc=>(true, .bool (set c)))
structure G4(Φ:Fns)(d:Def):Prop where
 body:∃e1 p1 p2 p3 x,d.params=[x]/\d.body=[.Return (some (.Compare e1 [.In] [.Name "b1_set" p1] p2)) p3]/\∀c,ev Φ [] 40 d.κ (dD d.κ [(x, .str [c])]) e1=(true, .int c)
 glob:ay (kd d.κ (nm "b1_set"))=true
 ch:ay (kd d.κ (nm "chr"))=false
theorem SetOf.keeps'{prog:Program}{w:World}{h h':Heap}{a:Addr}{S:Int->Bool}{n:Nat}(x:h.SetOf (intKind prog w) a S n)(k:∀b o,h.get? b=some o->h'.get? b=some o):h'.SetOf (intKind prog w) a S n:=
 Exists.imp (λo h=>Exists.imp (λes h=>Exists.imp (λep h=>Exists.imp (λt h=>And.imp_left (k _ _) h) h) h) h) x
theorem G5 {n:Nat} {a S:Addr} {d:Def} {set:Int->Bool} {k:Nat} (hd:eG G a d) (hlim:G.h0.NoLimit) (Fa:∀A,ix n A->aU G A Φ) {mg:Str->Option Value} (hm:G.h0.Ns mainGlobals mg) (hS:mg "b1_set"=some (.ref S)) (hset:G.h0.SetOf (intKind G.p G.w) S set k)
 (I:G4 Φ d):fT G (n+1) a (Iu set):=λA room=>by
 obtain⟨o,fd,ids0,ho,hdata,_⟩:=hd.ex;refine⟨nQ ho hdata,λX s as us old off al r ok E Q q => ?_⟩;obtain⟨c,rfl⟩:∃c,as=[.str [c]]:=nL (λas _=>∃c,as=[.str [c]]) ok λv ok=>Ac (λv _=>∃c,[v]=[.str [c]]) ok λc _=>⟨c,rfl⟩
 obtain⟨e1,p1,p2,p3,x,hp,hb,he⟩:=I.body;refine ye hd (by have:=room.depth;omega) hlim old (by rw[hp,<-r.length];rfl) λenv s1 g ids hids en E' => ?_
 have FaB:=Fa _ (room.deeper env);have S1:=en.sta old off al r I.ch;rw[hids,hp]at S1;have GE:=(gV (G:=G) (A:=A.deeper env) FaB [] 40 d.κ env X (dD d.κ [(x, .str [c])]) en.En).1;have e2:=he c;rw[hb];refine wpAny_execs_cons (wpAny_Return_some (wpAny_Compare1 (GE.ok e1 (by show(ev Φ [] 40 d.κ (dD d.κ [(x, .str [c])]) e1).1=true;rw[e2]) _ s1 S1 _ _ λu s2 k2 r2 => ?_) (by rfl)));refine nS FaB en.En hm hS I.glob (S1.keeps k2) ?_;have r2:ak G _ s2 (ev Φ [] 40 d.κ (dD d.κ [(x, .str [c])]) e1).2 u:=r2;rw[e2]at r2;obtain⟨t,rfl⟩:=ak.int_iff.mp r2;have S2:=S1.keeps k2;refine wpAny_inSet_of (knd:=intKind G.p G.w) (k:=(c:Int)) (by simp[intKind,Value.isInt]) rfl (SetOf.keeps' hset S2.old) ?_
 exact q _ _ (Kp.trans en.keeps (Kp.trans k2 (Kp.toks _ _))) (ak.bool_iff.mpr rfl)
theorem rO{k:Int}:∀{es:List DictEntry} {L:List (Int×Str)},bO es L->(match L.lookup k with
 |some x=>∃t,(es.find? λe=>Value.isInt k e.key).map (·.val)=some (.str x t)
 |none=>(es.find? λe=>Value.isInt k e.key).map (·.val)=none)
 |[],[],_=>rfl
 |e::es,(i,x)::L,h=>by
  obtain⟨_,⟨t,hk⟩,⟨t',hv⟩⟩:=h.1;have ih:=rO (k:=k) h.2;rw[List.lookup_cons,List.find?_cons,hk];show match(match k==i with|true=>some x|false=>L.lookup k)with|some x=>_|none=>_
  cases c:k==i with
  |true=>
   have:Value.isInt k (.int i t)=true:=by
    have:=eq_of_beq c;subst this;simp[Value.isInt]
   rw[this];exact⟨t',by rw[Option.map_some,hv]⟩
  |false=>
   have:Value.isInt k (.int i t)=false:=by
    have h0:k≠i:=λe=>by rw[e]at c;simp at c
    simp[Value.isInt];exact λe=>h0 e.symm
   rw[this];exact ih
 |[],_::_,h=>h.elim
 |_::_,[],h=>h.elim
theorem rP{prog:Program}{w:World}:∀{es:List DictEntry} {L:List (Int×Str)},bO es L->∀e∈es,∃k,(intKind prog w).is k e.key=true/\e.hash=(intKind prog w).hash k
 |[],_,_,e,he=>nomatch he
 |e::es,(i,x)::L,h,e',he=>by
  rcases bu he with rfl|he
  ·obtain⟨hh,⟨t,hk⟩,_⟩:=h.1
   exact⟨i,by rw[hk];simp[intKind,Value.isInt],hh⟩
  ·exact rP h.2 e' he
 |_::_,[],h,_,_=>h.elim
theorem vd{prog:Program}{w:World}{h:Heap}{a:Addr}{es:Array DictEntry}{ep:Nat}{L:List (Int×Str)}(e:h.get? a=some (dO es ep))(r:cE es L):
 ∃f,h.MapOf (intKind prog w) a f/\∀k,match L.lookup k with|some x=>∃t,f k=some (.str x t)|none=>f k=none:=by
 refine⟨λk=>findBy Value.isInt es k,⟨_,es,ep,e,⟨rfl,rfl,rfl⟩,rfl,λe he=>rP r e (Array.mem_toList_iff.mpr he),λk=>rfl⟩,λk => ?_⟩;have:=rO (k:=k) r;have e2:findBy Value.isInt es k=(es.toList.find? λe=>Value.isInt k e.key).map (·.val):=by
  unfold findBy;rw[<-Array.find?_toList]
 dsimp only;rw[e2];exact this
noncomputable def zH(L:List (Int×Str))(c:Nat):V:=match L.lookup (c:Int)with
 |some x => .str (nm x)
 |none => .none
noncomputable def Ib(Φ:Fns)(W:Nat)(L:List (Int×Str))(κ:List (Str×NameKind))(x:Nm)(rest:List Stmt):List V->R:=
 iL (HD λc=>kR (ex Φ [] [] W κ 200 rest (put (dD κ [(x, .str [c])]) (nm "r") (.val (zH L c)))))
structure G6(Φ:Fns)(d:Def)(x:Nm)(rest:List Stmt):Prop where
 params:d.params=[x]
 body:∃e1 p1 p2 p3 p4 p5,d.body = .Assign [.Name "r" p1] (.Call (.Attribute (.Name "b3_exceptions" p2) "get" p3) [e1] [] p4) p5::rest/\p3.endLine=p4.line/\(∀c,ev Φ [] 40 d.κ (dD d.κ [(x, .str [c])]) e1=(true, .int c))/\eV e1=false/\∀e p,e1 ≠ .Starred e p
 glob:ay (kd d.κ (nm "b3_exceptions"))=true
 ch:ay (kd d.κ (nm "chr"))=false
 loc:ag (kd d.κ (nm "r"))=true
theorem G7 {n:Nat} {a D:Addr} {d:Def} {L:List (Int×Str)} {W:Nat} {x:Nm} {rest:List Stmt} (hd:eG G a d) (hlim:G.h0.NoLimit) (Fa:∀A,ix n A->aU G A Φ) {mg:Str->Option Value} (hm:G.h0.Ns mainGlobals mg) (hD:mg "b3_exceptions"=some (.ref D))
 (hdict:∃es ep,G.h0.get? D=some (dO es ep)/\cE es L) (hsys:(D==sysModules)=false) (I:G6 Φ d x rest):fT G (n+1) a (Ib Φ W L d.κ x rest):=λA room=>by
 obtain⟨o,fd,ids0,ho,hdata,_⟩:=hd.ex;refine⟨nQ ho hdata,λX s as us old off al r ok E Q q => ?_⟩;obtain⟨c,rfl⟩:∃c,as=[.str [c]]:=nL (λas _=>∃c,as=[.str [c]]) ok λv ok=>Ac (λv _=>∃c,[v]=[.str [c]]) ok λc _=>⟨c,rfl⟩
 obtain⟨e1,p1,p2,p3,p4,p5,hb,hpos,he,hc,hst⟩:=I.body;have hp:=I.params;refine ye hd (by have:=room.depth;omega) hlim old (by rw[hp,<-r.length];rfl) λenv s1 g ids hids en E' => ?_
 have FaB:=Fa _ (room.deeper env);have S1:=en.sta old off al r I.ch;rw[hids,hp]at S1;have GE:=(gV (G:=G) (A:=A.deeper env) FaB [] 40 d.κ env X (dD d.κ [(x, .str [c])]) en.En).1;have e2:=he c;obtain⟨es,ep,gD,hE⟩:=hdict;obtain⟨f,hM,hf⟩:=vd (prog:=G.p) (w:=G.w) gD hE;rw[hb];have htr:backTo p4 (starEach [e1] env)=[(false,eval e1 env)]:=by
  have:starEach [e1] env=[(false,eval e1 env)]:=gr GE (show(ev Φ [] 40 d.κ (dD d.κ [(x, .str [c])]) e1).1=true by rw[e2]) [];rw[this];rfl
 have hval:(zH L c = .none/\f c=none)\/∃y t,zH L c = .str (nm y)/\f c=some (.str y t):=by
  have:=hf c;unfold zH;cases e:L.lookup (c:Int)with
  |none=>rw[e]at this;exact .inl ⟨rfl,this⟩
  |some y=>rw[e]at this;obtain⟨t,ht⟩:=this;exact .inr ⟨y,t,rfl,ht⟩
 refine wpAny_execs_cons (wpAny_Assign_Name ?_ (lc rfl _ _));refine wpAny_Call_method_lateS (jv rfl) (by rw[htr];rfl) (by rw[hpos];exact beq_self_eq_true _) (nS FaB en.En hm hD I.glob S1 ?_);have T0:s1.heap.MapOf (intKind G.p G.w) D f:=by
  obtain⟨o',es',ep',a1,a2⟩:=hM;exact⟨o',es',ep',S1.old _ _ a1,a2⟩
 refine⟨"dict","dict.get",F.plainAttrs_dict,F.slot_dict_get,F.type_dict_get,T0.typeIs,T0.noDict, ?_⟩;rw[htr];refine wpAny_dict_get1 (knd:=intKind G.p G.w) hsys (GE.ok e1 (by rw[e2]) _ s1 S1 _ _ λu s2 k2 r2 => ?_);rw[e2]at r2;obtain⟨t,rfl⟩:=ak.int_iff.mp r2;have S2:=S1.keeps k2;refine⟨(c:Int),f,by simp[intKind,Value.isInt],by obtain⟨o',es',ep',a1,a2⟩:=hM;exact⟨o',es',ep',S2.old _ _ a1,a2⟩, ?_⟩;have rv:ak G (am env X λ_=>none) s2 (zH L c) ((f c).getD .none):=by
  rcases hval with⟨a1,a2⟩|⟨y,t',a1,a2⟩
  ·rw[a1,a2];exact ak.none_iff.mpr rfl
  ·rw[a1,a2];exact ak.str_iff.mpr ⟨t',by rw[xR];rfl⟩
 refine cI (s:={ s2 with toks:=s2.toks+1 }) (S2.keeps (Kp.toks _ _)) en.En I.loc (rv.on (Kp.on (Kp.toks _ _))) λh' tk hle S3 kp al3 => ?_
 have mv3:Mv env (λ_=>none) (upd (λ_=>none) (nm "r") none) s1 { s2 with heap:=h',toks:=tk }:=wQ (x:="r") k2 kp (ah (Nat.le_succ _) hle);have ok':(kR (ex Φ [] [] W d.κ 200 rest (put (dD d.κ [(x, .str [c])]) (nm "r") (.val (zH L c))))).1=true:=ok;have q':∀u s',aM s s'->ak G X s' (kR (ex Φ [] [] W d.κ 200 rest (put (dD d.κ [(x, .str [c])]) (nm "r") (.val (zH L c))))).2 u->Q u s':=q
 unfold kR at ok' q';have X0:=u7 (G:=G) (A:=A.deeper env) FaB en.En (τ:=[]) (μ:=[]) (W:=W) 200 [rest] X (put (dD d.κ [(x, .str [c])]) (nm "r") (.val (zH L c)));rw[show[rest].flatten=rest by simp]at X0;generalize ex Φ [] [] W d.κ 200 rest (put (dD d.κ [(x, .str [c])]) (nm "r") (.val (zH L c)))=res at X0 ok' q';obtain⟨b,out⟩:=res;have X2:∀(Q:Flow->Shared->Prop) (hb:b=true),(∀f s',fq G env X (upd (λ_=>none) (nm "r") none) { s2 with heap:=h',toks:=tk } out f s'->Q f s')->wpAny (model G.p G.w) (A.deeper env) (execs rest env) Q E' { s2 with heap:=h',toks:=tk }:=λQ hb hq=>
  bK (X0 hb _ _ S3 E' Q hq) (λf s' h'=>by induction f using Flow.casesOn<;>exact h') λ_ _ e=>e
 induction out using gm.casesOn with
 |ret v=>
  refine X2 _ ok' λf s' ho => ?_
  induction f using Flow.casesOn with
  |ret u=>
   obtain⟨O',h1,h2⟩:=ho;have fin:=en.fin (X:=X) (mv3.trans h2);exact q' u s' fin.1 (fin.2 _ _ h1)
  |_=>exact ho.elim
 |next ρ'=>
  refine X2 _ ok' λf s' ho => ?_
  induction f using Flow.casesOn with
  |next=>
   obtain⟨O',h1,h2⟩:=ho;have fin:=en.fin (X:=X) (mv3.trans h2);exact q' .none s' fin.1 (ak.none_iff.mpr rfl)
  |_=>exact ho.elim
 |_=>cases ok'
end
end
section
open PySem PySem.Sre
noncomputable def cM:Nat->M->M
 |0,m=>m
 |n+1,m=>cM n m.step
theorem rQ{m:M}(h:m.outcome.isSome=true):m.step=m:=by unfold M.step;rw[if_pos h]
theorem gh{m:M}(h:m.outcome.isSome=true):∀n,cM n m=m
 |0=>rfl
 |n+1=>by show cM n m.step=m;rw[rQ h];exact gh h n
theorem rR:∀(n:Nat) (m:M),M.runFor n m=cM n m
 |0,m=>rfl
 |n+1,m=>by
  show(if m.outcome.isSome=true then m else M.runFor n m.step)=cM n m.step
  split
  ·rename_i h;rw[rQ h,gh h]
  ·exact rR n _
theorem jC(a b:Nat):∀m,cM (a+b) m=cM b (cM a m):=by
 induction a with
 |zero=>intro m;rw[Nat.zero_add];rfl
 |succ a ih=>intro m;rw[Nat.succ_add];exact ih _
noncomputable def st(code text:Array Nat)(lim start ls:Nat)(must:Bool)(pc pos handed:Nat)(om:Bool)(fs:List Sre.Frame)(w:Nat)(ans:Option Bool)(seen:Sre.Seen)(out:Option Sre.Outcome):M:=
 { code,text,lim,start,lastStart:=ls,mustAdvance:=must,pc,pos,handed,outermost:=om,marks := #[],frames:=fs,weight:=w,answer:=ans,seen,outcome:=out }
noncomputable def code1:Array Nat := #[14,4,0,1,1,6,1,16,46,1]
noncomputable def code2:Array Nat := #[14,9,4,1,2,16,10,16,13,0,7,7,16,13,16,10,15,18,5,16,10,15,13,11,16,13,5,5,0,16,10,1,15,2,0,1]
variable {text:Array Nat} {lim start ls pos h w:Nat} {must om:Bool} {fs:List Sre.Frame} {seen:Sre.Seen}
theorem ve:M.step (st code1 text lim start ls must 5 pos h om fs w none seen none) =
 if(pos==0||text.getD (pos-1) 0==10)=true then st code1 text lim start ls must 7 pos h om fs w none ((seen.add 6).add 44) none else st code1 text lim start ls must 5 pos h om fs w (some false) ((seen.add 6).add 44) none:=rfl
noncomputable def Eu(m:M)(wd:Nat)(b:Bool):M:=match b with
 |false=>m.say false
 |true=>{ m with pc:=m.pc+wd,pos:=m.pos+1 }
theorem w9:M.step (st code1 text lim start ls must 7 pos h om fs w none seen none) =
 if pos>=lim then st code1 text lim start ls must 7 pos h om fs w (some false) (seen.add 16) none else Eu (st code1 text lim start ls must 7 pos h om fs w none (seen.add 16) none) 2 (text.getD pos 0==46):=∅
theorem Do:M.step (st code1 text lim start ls must 9 pos h om fs w none seen none) =
 if(om&&(false||(must&&pos==start)))=true then st code1 text lim start ls must 9 pos h om fs w (some false) (seen.add 1) none else st code1 text lim start ls must 9 pos pos om fs w (some true) (seen.add 1) none:=∅
noncomputable def fr(pc p:Nat)(om:Bool):Sre.Frame:={ wait := .nextStart,pc,pos:=p,outermost:=om }
theorem Fk{p pc:Nat}{om':Bool}:M.step (st code1 text lim start ls must pc pos h om [fr 5 p om'] 1 (some true) seen none)=st code1 text lim start ls must 5 p h om' [] 0 (some true) seen none:=∅
theorem yf{p pc:Nat}{om':Bool}:M.step (st code1 text lim start ls must pc pos h om [fr 5 p om'] 1 (some false) seen none) =
 if p<ls then st code1 text lim (p+1) ls false 5 (p+1) (p+1) false [fr 5 (p+1) false] 1 none seen none else st code1 text lim start ls must 5 p h om' [] 0 (some false) seen none:=∅
theorem pE{code:Array Nat}{pc:Nat}{b:Bool}:M.step (st code text lim start ls must pc pos h om [] w (some b) seen none)=st code text lim start ls must pc pos h om [] w (some b) seen (some (if b=true then .matched else .failed)):=rfl
noncomputable def ei(text:Array Nat)(lim p:Nat):Bool:=(p==0||text.getD (p-1) 0==10)&&decide (p<lim)&&text.getD p 0==46
noncomputable def dI(text:Array Nat)(lim:Nat):Nat->Nat->Option Nat
 |0,p=>if ei text lim p then some p else none
 |n+1,p=>if ei text lim p then some p else dI text lim n (p+1)
noncomputable def aX(m:M)(k:Nat)(r:Option (Nat×Nat)):Prop:=∃k',k'<=k/\match r with
 |some (b,e)=>∃t,cM k' m=t/\t.outcome=some .matched/\t.start=b/\t.handed=e
 |none=>(cM k' m).outcome=some .failed
theorem aX.step{m m':M}{k:Nat}{r:Option (Nat×Nat)}(h:m.step=m')(e:aX m' k r):aX m (k+1) r:=by
 obtain⟨k',hk,h2⟩:=e;refine⟨k'+1,⋯, ?_⟩;have:cM (k'+1) m=cM k' m':=by show cM k' m.step=_;rw[h]
 rw[this];exact h2
theorem aX.more{m:M}{k k2:Nat}{r:Option (Nat×Nat)}(e:aX m k r)(h:k<=k2):aX m k2 r:=let⟨k',a,b⟩:=e;⟨k',ah a h,b⟩
noncomputable def A1(text:Array Nat)(lim p:Nat)(must om:Bool)(seen:Sre.Seen):M:=st code1 text lim p lim must 5 p p om [fr 5 p om] 1 none seen none
theorem Ic:∀(n p:Nat) (must om:Bool) (seen:Sre.Seen),lim-p=n->p<=lim->aX (A1 text lim p must om seen) (5*n+6) ((dI text lim n p).map λb=>(b,b+1)):=by
 intro n
 induction n with
 |zero=>
  intro p must om seen hn hp;have hpl:p=lim:=⋯;have nohit:ei text lim p=false:=by unfold ei;rw[hpl];simp
  show aX _ _ (Option.map _ (if ei text lim p=true then some p else none));rw[nohit];unfold A1
  by_cases ha:(p==0||text.getD (p-1) 0==10)=true
  ·refine aX.more (aX.step (ve.trans (if_pos ha)) (aX.step (w9.trans (if_pos ⋯)) (aX.step (yf.trans (if_neg ⋯)) (aX.step pE (k:=0) ⟨0,aq _,rfl⟩)))) ⋯
  ·refine aX.more (aX.step (ve.trans (if_neg ha)) (aX.step (yf.trans (if_neg ⋯)) (aX.step pE (k:=0) ⟨0,aq _,rfl⟩))) ⋯
 |succ n ih=>
  intro p must om seen hn hp;have hlt:p<lim:=⋯;show aX _ _ (Option.map _ (if ei text lim p=true then some p else dI text lim n (p+1)));unfold A1
  by_cases ha:(p==0||text.getD (p-1) 0==10)=true
  ·cases hb:(text.getD p 0==46)with
   |true=>
    have yes:ei text lim p=true:=by unfold ei;rw[ha,hb];simp[hlt]
    rw[yes];refine aX.more (aX.step (ve.trans (if_pos ha)) (aX.step (w9.trans ((if_neg ⋯).trans (by rw[hb];rfl:_=st code1 text lim p lim must 9 (p+1) p om [fr 5 p om] 1 none (((seen.add 6).add 44).add 16) none))) (aX.step (Do.trans (if_neg ?_))
     (aX.step Fk (aX.step pE (k:=0) ⟨0,aq _,_,rfl,rfl,rfl,rfl⟩))))) ⋯
    have:(p+1==p)=false:=by simp
    rw[this];simp
   |false=>
    have no:ei text lim p=false:=by unfold ei;rw[hb];simp
    rw[no];refine aX.more (aX.step (ve.trans (if_pos ha)) (aX.step (w9.trans ((if_neg ⋯).trans (by rw[hb];rfl:_=st code1 text lim p lim must 7 p p om [fr 5 p om] 1 (some false) (((seen.add 6).add 44).add 16) none))) (aX.step (yf.trans (if_pos hlt)) (ih (p+1) false false _ ⋯ ⋯)))) ⋯
  ·have no:ei text lim p=false:=by unfold ei;rw[Bool.not_eq_true]at ha;rw[ha];simp
   rw[no];refine aX.more (aX.step (ve.trans (if_neg ha)) (aX.step (yf.trans (if_pos hlt)) (ih (p+1) false false _ ⋯ ⋯))) ⋯
theorem Dp(text:Array Nat)(start:Nat)(must:Bool)(hs:start<=text.size):aX (Sre.forSearch code1 text 0 start text.size must) (5*text.size+8) ((dI text text.size (text.size-start) start).map λb=>(b,b+1)):=by
 by_cases h:start=text.size
 ·subst h
  have e:Sre.forSearch code1 text 0 text.size text.size must=(if(decide (text.size>text.size)||decide (text.size-text.size<1))=true then st code1 text text.size text.size 0 must 5 text.size text.size true [] 0 (some false) (({}:Sre.Seen).add 14) none else A1 text text.size text.size must true (({}:Sre.Seen).add 14)):=∅;rw[e,if_pos (by simp)];have:dI text text.size (text.size-text.size) text.size=none:=by
   rw[Nat.sub_self];show(if ei text text.size text.size=true then _ else _)=none;rw[if_neg (by simp[ei])]
  rw[this];exact aX.more (aX.step pE (k:=0) ⟨0,aq _,rfl⟩) ⋯
 ·have e:Sre.forSearch code1 text 0 start text.size must=(if(decide (start>text.size)||decide (text.size-start<1))=true then st code1 text text.size start 0 must 5 start start true [] 0 (some false) (({}:Sre.Seen).add 14) none else A1 text text.size start must true (({}:Sre.Seen).add 14)):=∅
  rw[e,if_neg (by simp;omega)];exact(Ic _ start must true _ rfl hs).more ⋯
variable {text:Array Nat} {lim start ls pos h w:Nat} {must om:Bool} {fs:List Sre.Frame} {seen:Sre.Seen}
noncomputable def br(pc p:Nat)(om:Bool):Sre.Frame:={ wait := .nextBranch,pc,pos:=p,outermost:=om,kept:={ lastmark := -1,lastindex := -1,whole:=false,marks := #[] } }
noncomputable def ln(p:Nat)(om:Bool):Sre.Frame:={ wait := .lookNot,pc:=26,pos:=p,outermost:=om,kept:={ lastmark := -1,lastindex := -1,whole:=false,marks := #[] } }
theorem y9:M.step (st code2 text lim start ls must 10 pos h om [fr 10 pos om] 1 none seen none)=st code2 text lim start ls must 12 pos pos om [br 11 pos om,fr 10 pos om] 2 none (seen.add 7) none:=∅
theorem vf:M.step (st code2 text lim start ls must 12 pos h om fs w none seen none) =
 if pos>=lim then st code2 text lim start ls must 12 pos h om fs w (some false) (seen.add 16) none else Eu (st code2 text lim start ls must 12 pos h om fs w none (seen.add 16) none) 2 (text.getD pos 0==13):=∅
theorem pF:M.step (st code2 text lim start ls must 14 pos h om fs w none seen none) =
 if pos>=lim then st code2 text lim start ls must 14 pos h om fs w (some false) (seen.add 16) none else Eu (st code2 text lim start ls must 14 pos h om fs w none (seen.add 16) none) 2 (text.getD pos 0==10):=∅
theorem pG:M.step (st code2 text lim start ls must 19 pos h om fs w none seen none) =
 if pos>=lim then st code2 text lim start ls must 19 pos h om fs w (some false) (seen.add 16) none else Eu (st code2 text lim start ls must 19 pos h om fs w none (seen.add 16) none) 2 (text.getD pos 0==10):=∅
theorem vg:M.step (st code2 text lim start ls must 24 pos h om fs w none seen none) =
 if pos>=lim then st code2 text lim start ls must 24 pos h om fs w (some false) (seen.add 16) none else Eu (st code2 text lim start ls must 24 pos h om fs w none (seen.add 16) none) 2 (text.getD pos 0==13):=∅
theorem vh:M.step (st code2 text lim start ls must 29 pos h om fs w none seen none) =
 if pos>=lim then st code2 text lim start ls must 29 pos h om fs w (some false) (seen.add 16) none else Eu (st code2 text lim start ls must 29 pos h om fs w none (seen.add 16) none) 2 (text.getD pos 0==10):=∅
theorem za:M.step (st code2 text lim start ls must 16 pos h om fs w none seen none)=st code2 text lim start ls must 35 pos h om fs w none (seen.add 15) none:=∅
theorem zb:M.step (st code2 text lim start ls must 21 pos h om fs w none seen none)=st code2 text lim start ls must 35 pos h om fs w none (seen.add 15) none:=∅
theorem rS:M.step (st code2 text lim start ls must 32 pos h om fs w none seen none)=st code2 text lim start ls must 35 pos h om fs w none (seen.add 15) none:=∅
theorem Dq:M.step (st code2 text lim start ls must 35 pos h om fs w none seen none) =
 if(om&&(false||(must&&pos==start)))=true then st code2 text lim start ls must 35 pos h om fs w (some false) (seen.add 1) none else st code2 text lim start ls must 35 pos pos om fs w (some true) (seen.add 1) none:=∅
theorem Be{p:Nat}{om':Bool}:M.step (st code2 text lim start ls must 26 pos h om [br 23 p om',fr 10 p om'] 2 none seen none)=st code2 text lim start ls must 29 pos pos false [ln pos om,br 23 p om',fr 10 p om'] 3 none (seen.add 5) none:=∅
theorem rU{p q pc:Nat}{om' om2:Bool}:M.step (st code2 text lim start ls must pc pos h om [ln q om2,br 23 p om',fr 10 p om'] 3 (some false) seen none)=st code2 text lim start ls must 32 q h om2 [br 23 p om',fr 10 p om'] 2 none seen none:=∅
theorem pH{p pc:Nat}{om':Bool}:M.step (st code2 text lim start ls must pc pos h om [br 11 p om',fr 10 p om'] 2 (some false) seen none)=st code2 text lim start ls must 19 p p om' [br 18 p om',fr 10 p om'] 2 none seen none:=∅
theorem vi{p pc:Nat}{om':Bool}:M.step (st code2 text lim start ls must pc pos h om [br 18 p om',fr 10 p om'] 2 (some false) seen none)=st code2 text lim start ls must 24 p p om' [br 23 p om',fr 10 p om'] 2 none seen none:=∅
theorem Fl{p pc:Nat}{om' om2:Bool}{q i:Nat}:M.step (st code2 text lim start ls must pc pos h om [br i q om2,fr 10 p om'] 2 (some true) seen none)=st code2 text lim start ls must i q h om2 [fr 10 p om'] 1 (some true) seen none:=∅
theorem Fm{p pc:Nat}{om':Bool}:M.step (st code2 text lim start ls must pc pos h om [fr 10 p om'] 1 (some true) seen none)=st code2 text lim start ls must 10 p h om' [] 0 (some true) seen none:=∅
noncomputable def A2(text:Array Nat)(lim p ls:Nat)(must om:Bool)(seen:Sre.Seen):M:=st code2 text lim p ls must 10 p p om [fr 10 p om] 1 none seen none
noncomputable def eY(text:Array Nat)(lim p:Nat):Nat:=if(text.getD p 0==13&&decide (p+1<lim)&&text.getD (p+1) 0==10)=true then p+2 else p+1
theorem ll{code:Array Nat}{pc wd:Nat}{b:Bool}(hb:b=true):Eu (st code text lim start ls must pc pos h om fs w none seen none) wd b=st code text lim start ls must (pc+wd) (pos+1) h om fs w none seen none:=by subst hb;rfl
theorem pI{code:Array Nat}{pc wd:Nat}{b:Bool}(hb:b=false):Eu (st code text lim start ls must pc pos h om fs w none seen none) wd b=st code text lim start ls must pc pos h om fs w (some false) seen none:=by subst hb;rfl
theorem Id{p:Nat}(hp:p<lim)(hc:text.getD p 0=13\/text.getD p 0=10):aX (A2 text lim p ls must om seen) 20 (some (p,eY text lim p)):=by
 unfold A2;refine aX.more (k:=1+18) ?_ ⋯;refine aX.more (aX.step y9 (k:=17) ?_) ⋯;have succ:∀{e:Nat} {i:Nat} {hh:Nat} {sn:Sre.Seen},p<e->aX (st code2 text lim p ls must 35 e hh om [br i p om,fr 10 p om] 2 none sn none) 4 (some (p,e)):=λ{e i hh sn} he=>by
  refine aX.more (aX.step (Dq.trans (if_neg ?_)) (aX.step Fl (aX.step Fm (aX.step pE (k:=0) ⟨0,aq _,_,rfl,rfl,rfl,rfl⟩)))) ⋯;have:(e==p)=false:=by simp;omega
  rw[this];simp
 rcases hc with hc|hc
 ·have c13:(text.getD p 0==13)=true:=by rw[hc];rfl
  have c10:(text.getD p 0==10)=false:=by rw[hc];rfl
  refine aX.more (aX.step (vf.trans ((if_neg ⋯).trans (ll c13))) (k:=16) ?_) ⋯
  by_cases hn:p+1<lim
  ·cases hd:(text.getD (p+1) 0==10)with
   |true=>
    have ee:eY text lim p=p+2:=by unfold eY;rw[c13,hd];simp[hn]
    rw[ee];exact aX.more (aX.step (pF.trans ((if_neg ⋯).trans (ll hd))) (aX.step za (succ (e:=p+2) ⋯))) ⋯
   |false=>
    have ee:eY text lim p=p+1:=by unfold eY;rw[hd];simp
    rw[ee];refine aX.more (aX.step (pF.trans ((if_neg ⋯).trans (pI hd))) (aX.step pH (aX.step (pG.trans ((if_neg ⋯).trans (pI c10))) (aX.step vi
     (aX.step (vg.trans ((if_neg ⋯).trans (ll c13))) (aX.step Be (aX.step (vh.trans ((if_neg ⋯).trans (pI hd))) (aX.step rU (aX.step rS (succ ⋯))))))))) ) ⋯
  ·have ee:eY text lim p=p+1:=by unfold eY;simp[hn]
   rw[ee];refine aX.more (aX.step (pF.trans (if_pos ⋯)) (aX.step pH (aX.step (pG.trans ((if_neg ⋯).trans (pI c10))) (aX.step vi
    (aX.step (vg.trans ((if_neg ⋯).trans (ll c13))) (aX.step Be (aX.step (vh.trans (if_pos ⋯)) (aX.step rU (aX.step rS (succ ⋯))))))))) ) ⋯
 ·have c13:(text.getD p 0==13)=false:=by rw[hc];rfl
  have c10:(text.getD p 0==10)=true:=by rw[hc];rfl
  have ee:eY text lim p=p+1:=by unfold eY;rw[c13];simp
  rw[ee];exact aX.more (aX.step (vf.trans ((if_neg ⋯).trans (pI c13))) (aX.step pH (aX.step (pG.trans ((if_neg ⋯).trans (ll c10))) (aX.step zb (succ ⋯))))) ⋯
noncomputable def i7(c:Nat):Bool:=c==13||c==10
noncomputable def dJ(text:Array Nat)(lim:Nat):Nat->Nat->Option Nat
 |0,_=>none
 |n+1,p=>if i7 (text.getD p 0)=true then some p else dJ text lim n (p+1)
theorem Bf{text:Array Nat}{lim n p:Nat}:dJ text lim (n+1) p=if i7 (text.getD p 0)=true then some p else dJ text lim n (p+1):=rfl
theorem Fo(c:Nat)(seen:Sre.Seen):∃seen',Sre.inSet code2 c 36 5 true seen = .ok (i7 c,seen'):=by
 have e:Sre.inSet code2 c 36 5 true seen=(if(c==10)=true then .ok (true,seen.add 16)else if(c==13)=true then .ok (true,(seen.add 16).add 16)else .ok (false,((seen.add 16).add 16).add 0)):=∅;rw[e];unfold i7;cases h1:c==10 with
 |true=>exact⟨seen.add 16,by simp⟩
 |false=>
  cases h2:c==13 with
  |true=>exact⟨(seen.add 16).add 16,by simp⟩
  |false=>exact⟨((seen.add 16).add 16).add 0,by simp⟩
theorem rV{m:M}(hc:m.code=code2):∀(n s fuel:Nat) (seen:Sre.Seen),m.lim-s=n->n<fuel->∃seen',M.admitted m fuel s seen = .ok (dJ m.text m.lim n s,seen')
 |0,s,fuel+1,seen,hn,hf=>⟨seen,by
    unfold M.admitted;rw[if_pos ⋯];rfl⟩
 |n+1,s,fuel+1,seen,hn,hf=>by
  unfold M.admitted;rw[if_neg ⋯,hc];obtain⟨seen',e⟩:=Fo (m.text.getD s 0) seen;rw[show code2.size=36 from rfl,e];show ∃seen'',_=Except.ok ((if i7 (m.text.getD s 0)=true then some s else dJ m.text m.lim n (s+1)),seen'');cases h:i7 (m.text.getD s 0)with
  |true=>exact⟨seen',rfl⟩
  |false=>
   obtain⟨seen'',e2⟩:=rV (m:=m) hc n (s+1) fuel seen' ⋯ ⋯;exact⟨seen'',e2⟩
theorem mm:∀(n p b:Nat),dJ text lim n p=some b->p<=b/\b<p+n/\(text.getD b 0=13\/text.getD b 0=10)
 |0,p,b,h=>by injections h
 |n+1,p,b,h=>by
  rw[Bf]at h
  split at h
  ·rename_i he
   injection h with h;subst h
   refine⟨aq _,⋯, ?_⟩;unfold i7 at he
   simpa using he
  ·have:=mm n (p+1) b h
   omega
theorem Dr(text:Array Nat)(start:Nat)(must:Bool)(hs:start<=text.size):aX (Sre.forSearch code2 text 0 start text.size must) 24 ((dJ text text.size (text.size-start) start).map λb=>(b,eY text text.size b)):=by
 by_cases h:start=text.size
 ·subst h
  have e:Sre.forSearch code2 text 0 text.size text.size must=(if(decide (text.size>text.size)||decide (text.size-text.size<1))=true then st code2 text text.size text.size 0 must 10 text.size text.size true [] 0 (some false) (({}:Sre.Seen).add 14) none
   else M.attemptFrom (st code2 text text.size text.size text.size must 10 text.size text.size true [] 0 none (({}:Sre.Seen).add 14) none) text.size true):=∅
  rw[e,if_pos (by simp),Nat.sub_self];exact aX.more (aX.step pE (k:=0) ⟨0,aq _,rfl⟩) ⋯
 ·have e:Sre.forSearch code2 text 0 start text.size must=(if(decide (start>text.size)||decide (text.size-start<1))=true then st code2 text text.size start 0 must 10 start start true [] 0 (some false) (({}:Sre.Seen).add 14) none
   else M.attemptFrom (st code2 text text.size start text.size must 10 start start true [] 0 none (({}:Sre.Seen).add 14) none) start true):=∅
  rw[e,if_neg (by simp;omega)];obtain⟨seen',ha⟩:=rV (m:=st code2 text text.size start text.size must 10 start start true [] 0 none (({}:Sre.Seen).add 14) none) rfl (text.size-start) start (text.size+1-start) (({}:Sre.Seen).add 14) rfl ⋯;have ha':M.admitted (st code2 text text.size start text.size must 10 start start true [] 0 none (({}:Sre.Seen).add 14) none) (text.size+1-start) start (({}:Sre.Seen).add 14) = .ok (dJ text text.size (text.size-start) start,seen'):=ha;have e3:M.attemptFrom (st code2 text text.size start text.size must 10 start start true [] 0 none (({}:Sre.Seen).add 14) none) start true =
   match M.admitted (st code2 text text.size start text.size must 10 start start true [] 0 none (({}:Sre.Seen).add 14) none) (text.size+1-start) start (({}:Sre.Seen).add 14)with
   | .ok (some s,seen)=>A2 text text.size s text.size false true seen
   | .ok (none,seen)=>st code2 text text.size start text.size must 10 start start true [] 0 (some false) seen none
   | .error why=>(st code2 text text.size start text.size must 10 start start true [] 0 none (({}:Sre.Seen).add 14) none).stick why:=∅
  rw[e3,ha'];cases hf:dJ text text.size (text.size-start) start with
  |none=>exact aX.more (aX.step pE (k:=0) ⟨0,aq _,rfl⟩) ⋯
  |some b=>
   obtain⟨b1,b2,b3⟩:=mm _ _ _ hf;exact(Id ⋯ b3).more ⋯
end
section
open PySem PySem.W PySem.Calls PyProof.Rows
open PySem.Builtin.Re
noncomputable def Bg(m:Sre.M)(r:Option (Nat×Nat)):Prop:=match r with
 |some (b,e)=>m.outcome=some .matched/\m.start=b/\m.handed=e
 |none=>m.outcome=some .failed
theorem aX.res{m:Sre.M}{k:Nat}{r:Option (Nat×Nat)}(h:aX m k r):∃k',k'<=k/\Bg (cM k' m) r:=by
 obtain⟨k',hk,h2⟩:=h;refine⟨k',hk, ?_⟩
 induction r using Option.casesOn with
 |none=>exact h2
 |some x=>obtain⟨t,rfl,a,b,c⟩:=h2;exact⟨a,b,c⟩
theorem Bg.some{m:Sre.M}{r:Option (Nat×Nat)}(h:Bg m r):m.outcome.isSome=true:=by
 induction r using Option.casesOn with
 |none=>have h:m.outcome=_:=h;rw[h];rfl
 |some x=>rw[h.1];rfl
section
variable {M:Model} {A:Around} {E:Value->Shared->Prop} {s:Shared}
theorem vj{r:Option (Nat×Nat)}{Q:Sre.M->Shared->Prop}:∀(turns k:Nat) (m:Sre.M),Bg (cM k m) r->k<4*turns->(∀m',Bg m' r->Q m' s)->wpAny M A (reDrive turns m) Q E s
 |0,k,m,h,hk,q=>⋯
 |turns+1,k,m,h,hk,q=>by
  unfold reDrive;dsimp only;rw[show Sre.M.runFor reTurnSteps m=cM 4 m from rR 4 m]
  by_cases hs:(cM 4 m).outcome.isSome=true
  ·rw[if_pos hs]
   refine ar (q _ ?_)
   by_cases hk4:k<=4
   ·have:cM 4 m=cM (4-k) (cM k m):=by rw[<-jC];congr 1;omega
    rw[this,gh h.some];exact h
   ·have:cM k m=cM (k-4) (cM 4 m):=by rw[<-jC];congr 1;omega
    rw[this,gh hs]at h;exact h
  ·rw[if_neg hs]
   refine ae (wpAny_rule ?_)
   by_cases hk4:k<=4
   ·have:cM 4 m=cM (4-k) (cM k m):=by rw[<-jC];congr 1;omega
    rw[this,gh h.some]at hs;exact absurd h.some hs
   ·have:cM k m=cM (k-4) (cM 4 m):=by rw[<-jC];congr 1;omega
    rw[this]at h;exact vj turns (k-4) _ h ⋯ q
theorem pJ{c:Nat->Bool}{t:Nat->String}{Q:PUnit->Shared->Prop}(q:Q ⟨⟩ s):∀l:List Nat,wpAny M A (forIn l PUnit.unit λi _=>if c i=true then(do rule (t i);pure (ForInStep.yield PUnit.unit))else pure (ForInStep.yield PUnit.unit)) Q E s
 |[]=>by rw[List.forIn_nil];exact ar q
 |i::l=>by
  rw[List.forIn_cons];refine ae ?_
  split
  ·exact ae (wpAny_rule (ar (pJ q l)))
  ·exact ar (pJ q l)
theorem Fp{m:Sre.M}{k:Nat}{r:Option (Nat×Nat)}(h:aX m k r)(hk:k<4*2^64){Q:Option Sre.M->Shared->Prop}(q:∀m',(match r with|some (b,e)=>∃z,m'=some z/\z.start=b/\z.handed=e|none=>m'=none)->Q m' s):
 wpAny M A (reRunToEnd m) Q E s:=by
 obtain⟨k',hk',h2⟩:=h.res;unfold reRunToEnd;refine ae (vj (2^64) k' m h2 ⋯ λm' hm => ?_);refine ae (bK (pJ (s:=s) (Q:=λ_ s'=>s'=s) rfl (List.range Sre.names.size) (c:=λi=>m'.seen.has i) (t:=λi=>Sre.names.getD i "")) (λ_ s' e => ?_) λ_ _ e=>e);subst e
 induction r using Option.casesOn with
 |none=>have hm:m'.outcome=_:=hm;rw[hm];exact ar (q none rfl)
 |some x=>obtain⟨h1,h2,h3⟩:=hm;rw[h1];exact ar (q (some m') ⟨m',rfl,h2,h3⟩)
end
structure gv(h:Heap)(P:Addr)(code:Array Nat):Prop where
 ex:∃o fs T oT ws n,h.get? P=some o/\o.cls = .type "re.Pattern"/\o.dict=none/\o.data = .fields fs/\fs.getD 5 .none = .ref T/\reRawNat (fs.getD 2 .none)=0/\reRawNat (fs.getD 6 .none)=0 /\
  h.get? T=some oT/\oT.data = .seq ws n/\(ws.map reRawOf).map (·.toNat)=code
theorem gv.keeps{h h':Heap}{P:Addr}{code:Array Nat}(p:gv h P code)(k:∀b o,h.get? b=some o->h'.get? b=some o):gv h' P code:=
 ⟨p.ex.imp λo h=>h.imp λfs h=>h.imp λT h=>h.imp λoT h=>h.imp λws h=>h.imp λn h=>h.imp (k _ _) λh=>h.imp_right λh=>h.imp_right λh=>h.imp_right λh=>h.imp_right λh=>h.imp_right λh=>h.imp_right λh=>h.imp_left (k _ _)⟩
noncomputable def target(P:Addr)(x:List Nat)(t:Tok)(code:Array Nat):ReTarget:={ pattern := .ref P,string := .str (tx x) t,code,text:=x.toArray,kind:=0,groups:=0,pos:=0,lim:=x.toArray.size }
section
variable {prog:Program} {w:World} {A:Around} {E:Value->Shared->Prop} {s:Shared}
theorem vk{P:Addr}{code:Array Nat}{x:List Nat}{t:Tok}{Q:ReTarget->Shared->Prop}(p:gv s.heap P code)(q:Q (target P x t code) s):wpAny (model prog w) A (reWholeTarget (.ref P) (.str (tx x) t)) Q E s:=by
 obtain⟨o,fs,T,oT,ws,n,h1,_,_,h2,h3,h4,h5,h6,h7,h8⟩:=p.ex;unfold reWholeTarget;refine ae (wpAny_fieldsOf h1 h2 ?_);refine ae ?_;unfold reTextOf;refine ae (ar (ar ?_));dsimp only;rw[h3,h4,h5];rw[if_neg nofun,if_neg nofun];refine ae ?_;unfold reNoCollectionInside;rw[if_neg nofun];refine ar ?_;refine ae ?_;unfold reRawItems;refine ae (wpAny_seqItems h6 h7 (ar (ar ?_)));dsimp only[Option.getD];rw[h8];exact q
structure rW(code:Array Nat)(f:List Nat->Nat->Option (Nat×Nat)):Prop where
 ends:∀(x:List Nat) start must,x.length<=cap->start<=x.length->∃k,k<4*2^64/\aX (Sre.forSearch code x.toArray 0 start x.toArray.size must) k (f x start)
 sane:∀x start b e,f x start=some (b,e)->start<=b/\b<e/\e<=x.length
noncomputable def lq(f:List Nat->Nat->Option (Nat×Nat))(repl x:List Nat):Nat->Nat->List Nat
 |0,done=>x.drop done
 |n+1,done=>match f x done with
  |some (b,e)=>(x.take b).drop done++(repl++lq f repl x n e)
  |none=>x.drop done
theorem Bh{f:List Nat->Nat->Option (Nat×Nat)}{repl x:List Nat}{n d:Nat}(h:f x d=none):lq f repl x (n+1) d=x.drop d:=by
 show(match f x d with|some (b,e)=>_|none=>_)=_;rw[h]
theorem Fq{f:List Nat->Nat->Option (Nat×Nat)}{repl x:List Nat}{n d b e:Nat}(h:f x d=some (b,e)):lq f repl x (n+1) d=(x.take b).drop d++(repl++lq f repl x n e):=by
 show(match f x d with|some (b,e)=>_|none=>_)=_;rw[h]
theorem Ds {code:Array Nat} {f:List Nat->Nat->Option (Nat×Nat)} (F:rW code f) {P:Addr} {x:List Nat} {t:Tok} {start:Nat} {must:Bool} (hx:x.length<=cap) (hs:start<=x.length) {Q:Option Sre.M->Shared->Prop}
 (q:∀m',(match f x start with|some (b,e)=>∃z,m'=some z/\z.start=b/\z.handed=e|none=>m'=none)->Q m' s):wpAny (model prog w) A (reNextFound (target P x t code) start must) Q E s:=by
 obtain⟨k,hk,h⟩:=F.ends x start must hx hs;exact Fp h hk q
theorem kl{x:List Nat}{b e:Nat}(hx:x.length<=cap){Q:Value->Shared->Prop}(q:∀t tk,Q (.str (tx ((x.take e).drop b)) t) { s with toks:=tk }):wpAny (model prog w) A (reSlice x.toArray 0 b e) Q E s:=by
 unfold reSlice;rw[if_pos (by rfl)];have e1:(⟨x.toArray.extract b e⟩:Str)=tx ((x.take e).drop b):=by
  unfold tx
  congr 1
  simp[List.extract_toArray,List.extract_eq_take_drop,List.drop_take]
 rw[e1];refine wpAny_mkStr (q _ _) ?_;rw[aV];refine d9 ?_;simp only[dj,cR];omega
end
end
section
open PySem PySem.W PySem.Calls PyProof.Rows
open PySem.Builtin.Re
section
variable {G:Cfg} {A:Around} {E:Value->Shared->Prop}
theorem pK:entryFor table "re.Pattern.sub.loop"=some Builtin.«re.Pattern.sub.loop»:=entryFor_of_tree ∅
theorem zc:entryFor table "re.Pattern.sub"=some Builtin.«re.Pattern.sub»:=entryFor_of_tree ∅
structure eZ(G:Cfg)(s0 h:Heap)(D:Addr)(ps:List (List Nat)):Prop where
 keep:∀b o,s0.get? b=some o->h.get? b=some o
 new:s0.get? D=none
 at_:∃vs m,h.get? D=some { cls := .type "list",data := .seq vs m }/\∀S:Shared,Reps G pv S (ps.map V.str) vs.toList
theorem tH {s:Shared} {s0:Heap} {D:Addr} {ps:List (List Nat)} {p:List Nat} {t:Tok} (P:eZ G s0 s.heap D ps) (hl:ps.length<=4000000) {Q:Unit->Shared->Prop}
 (q:∀h',eZ G s0 h' D (ps++[p])->Q () { s with heap:=h' }):wpAny (model G.p G.w) A (updateSeq D (·.push (.str (tx p) t))) Q E s:=by
 obtain⟨vs,m,e,r⟩:=P.at_;have hsz:vs.size<=4000000:=by have:=(r s).length;rw[aW]at this;rw[<-c0];omega
 refine wpAny_updateSeq e rfl (q _ ⟨λb o hb => ?_,P.new, ?_⟩) (by rw[sizeLine_eq];omega) (by rw[sizeLine_eq,Array.size_push];omega)
 ·rw[Heap.get?_update_ne _ _ _ _ (λe'=>by rw[e',P.new]at hb;injections hb)]
  exact P.keep b o hb
 ·refine⟨vs.push (.str (tx p) t),(if(vs.push (.str (tx p) t)).size==vs.size then m else m+1), ?_, ?_⟩
  ·rw[Heap.get?_update_self _ e rfl];rfl
  ·rw[List.map_append,Array.toList_push]
   exact λS=>(r S).append (Reps.cons (ak.str_iff.mpr ⟨t,rfl⟩) Reps.nil)
theorem qH(l:List (List Nat)):db [] l=l.flatten:=by
 induction l using List.casesOn with
 |nil=>rfl
 |cons x l=>rw[j6];simp[List.flatMap_def]
theorem pL:∀l:List (List Nat),(l.map V.str).map kL=l
 |[]=>rfl
 |x::l=>by rw[aC,aC,pL l];rfl
theorem Dt(l:List (List Nat)):(l.map V.str).all yE=true:=by
 rw[List.all_eq_true];intro v hv;obtain⟨x,_,rfl⟩:=List.mem_map.mp hv;rfl
theorem vl {s:Shared} {s0:Heap} {D:Addr} {ps:List (List Nat)} {t:Tok} (P:eZ G s0 s.heap D ps) (hl:(ps.map List.length).sum<=cap) {Q:Value->Shared->Prop}
 (q:∀t' s',aM s s'->Q (.str (tx ps.flatten) t') s'):wpAny (model G.p G.w) A (call (.builtin "str.join") [.str (tx []) t, .ref D]) Q E s:=by
 obtain⟨vs,m,e,r⟩:=P.at_;have rl:ak G pv s (.list (ps.map V.str)) (.ref D):=ak.list_iff.mpr ⟨D,vs,rfl,λh=>h,⟨_,e,rfl,_,rfl⟩,r s⟩;refine AA (X:=pv) (Dt ps) ?_ rl E Q λu s' k hr => ?_
 ·rw[pL];simpa using hl
 ·rw[pL,qH]at hr
  obtain⟨t',rfl⟩:=ak.str_iff.mp hr;exact q t' s' k
theorem Fr{s:Shared}{s0:Heap}{D:Addr}{ps:List (List Nat)}(P:eZ G s0 s.heap D ps){Q:Option (Array Value)->Shared->Prop}(q:∀vs,vs.size=ps.length->Q (some vs) s):wpAny (model G.p G.w) A (seqItems? (.ref D)) Q E s:=by
 obtain⟨vs,m,e,r⟩:=P.at_;refine wpAny_seqItems e rfl (q vs ?_);have:=(r s).length;rw[aW]at this;rw[<-c0];exact this.symm
theorem rX {code:Array Nat} {f:List Nat->Nat->Option (Nat×Nat)} (F:rW code f) {P D:Addr} {x repl:List Nat} {t tr:Tok} {s0:Heap} (hx:x.length<=100000) (hr:repl.length<=2) (hP:gv s0 P code) {R:Result->Shared->Prop} {sb:Shared}
 {done cnt:Nat} {must:Bool} {s:Shared} {ps:List (List Nat)} (hd:done<=x.length) (hl:ps.length<=2*done) (hs:(ps.map List.length).sum<=3*done) (PA:eZ G s0 s.heap D ps) (hsame:∃h tk,s={ sb with heap:=h,toks:=tk })
 (hnone:f x done=none->∀t' s',(∃h tk,s'={ sb with heap:=h,toks:=tk }/\∀b o,s0.get? b=some o->h.get? b=some o)->R (.ok (.ret (.str (tx (ps.flatten++x.drop done)) t'))) s')
 (hsome:∀b e,f x done=some (b,e)->∀cnt' must' s' ps',ps'.flatten=ps.flatten++((x.take b).drop done++repl)->ps'.length<=2*e->(ps'.map List.length).sum<=3*e->eZ G s0 s'.heap D ps'->(∃h tk,s'={ sb with heap:=h,toks:=tk }) ->
   codeAny (model G.p G.w) A (.builtin "re.Pattern.sub.loop" ⟨[.ref P, .str (tx x) t, .str (tx repl) tr,rawInt 0,rawInt 0,rawInt (cnt':Nat),rawInt e,rawInt e, .bool must', .ref D, .bool false],[]⟩) R s'):
 codeAny (model G.p G.w) A (.builtin "re.Pattern.sub.loop" ⟨[.ref P, .str (tx x) t, .str (tx repl) tr,rawInt 0,rawInt 0,rawInt cnt,rawInt done,rawInt done, .bool must, .ref D, .bool false],[]⟩) R s:=by
 have hcap:x.length<=cap:=by unfold cap;omega
 refine codeAny_builtin pK ?_;unfold Builtin.«re.Pattern.sub.loop»;dsimp only[rawInt];refine ae (vk (hP.keeps PA.keep) ?_);rw[if_pos (by rfl)];refine ae ?_;unfold reLiteralCannotBeTurned;refine ae (ar ?_);rw[if_neg (by simp)];refine ar ?_;rw[if_neg (by simp)];refine ae (Ds F hcap hd λm' hm => ?_);cases hf:f x done with
 |none=>
  rw[hf]at hm;subst hm;dsimp only;have fin:∀(ps':List (List Nat)) (s':Shared),ps'.flatten=ps.flatten++x.drop done->(ps'.map List.length).sum<=cap->eZ G s0 s'.heap D ps'->(∃h tk,s'={ sb with heap:=h,toks:=tk }) ->
   wpAny (model G.p G.w) (A.under (Code.builtin "re.Pattern.sub.loop" ⟨[.ref P, .str (tx x) t, .str (tx repl) tr, .int 0 0, .int 0 0, .int cnt 0, .int done 0, .int done 0, .bool must, .ref D, .bool false],[]⟩))
    (do
      let joiner <-reSlice (target P x t code).text (target P x t code).kind 0 0;let items <-seqItems? (.ref D)
      if(items.getD #[]).isEmpty=true then do
         let text <-pure joiner
         ret text
       else do
        let text <-call (.builtin (if((target P x t code).kind==0)=true then "str.join" else "bytes.join")) [joiner, .ref D]
        ret text)
    (λfin s'=>match fin with
      | .done f=>R (.ok f) s'
      | .again c'=>c'.quiet=true/\codeAny (model G.p G.w) A c' R s') (λe s'=>R (.error e) s') s':=by
   intro ps' s' hfl hsum PA' hsame';have e0:(x.take 0).drop 0=([]:List Nat):=by simp
   refine ae (kl hcap λtj tk => ?_);rw[e0];obtain⟨h1,t1,rfl⟩:=hsame';refine ae (Fr (s:={ sb with heap:=h1,toks:=tk }) PA' λvs hvs => ?_);dsimp only[Option.getD]
   by_cases he:vs.isEmpty=true
   ·rw[if_pos he]
    have hz:ps'=[]:=by
     have:vs.size=0:=by simpa[Array.isEmpty]using he
     rw[hvs]at this;exact List.length_eq_zero_iff.mp this
    refine ae (ar (ar ?_));have:=hnone hf tj { sb with heap:=h1,toks:=tk } ⟨h1,tk,rfl,PA'.keep⟩;rw[<-hfl,hz]at this;exact this
   ·rw[if_neg he]
    refine ae (vl (s:={ sb with heap:=h1,toks:=tk }) PA' hsum λt' s3 k3=>ar ?_);rw[hfl];obtain⟨h3,t3,rfl,kk,_⟩:=k3;exact hnone hf t' _ ⟨h3,t3,rfl,λb o hb=>kk b o (PA'.keep b o hb)⟩
  by_cases hlt:((done:Int)).toNat<(target P x t code).lim
  ·rw[if_pos hlt]
   have hlt':done<x.length:=by simpa[target]using hlt
   refine ae (kl hcap λts tk => ?_);have e1:(x.take (target P x t code).lim).drop ((done:Int)).toNat=x.drop done:=by simp[target]
   rw[e1];obtain⟨h1,t1,rfl⟩:=hsame;refine ae (tH (s:={ sb with heap:=h1,toks:=tk }) PA ⋯ λh2 PA2 => ?_);refine fin (ps++[x.drop done]) { sb with heap:=h2,toks:=tk } (by simp) ?_ PA2 ⟨h2,tk,rfl⟩;simp only[List.map_append,aC,List.map_nil,List.sum_append,List.sum_cons,List.sum_nil,dj];unfold cap;omega
  ·rw[if_neg hlt]
   have hlt':¬done<x.length:=by simpa[target]using hlt
   refine fin ps s (by rw[ft ⋯,bY]) (by unfold cap;omega) PA hsame
 |some be=>
  obtain⟨b,e⟩:=be;rw[hf]at hm;obtain⟨m,rfl,hb,he⟩:=hm;obtain⟨sa1,sa2,sa3⟩:=F.sane x done b e hf;dsimp only;have hbd:(done:Int).toNat=done:=by simp
  have rest:∀(ps':List (List Nat)) (s':Shared),ps'.flatten=ps.flatten++(x.take b).drop done->ps'.length<=ps.length+1->(ps'.map List.length).sum<=3*done+(b-done)->eZ G s0 s'.heap D ps'->(∃h tk,s'={ sb with heap:=h,toks:=tk }) ->
   wpAny (model G.p G.w) (A.under (Code.builtin "re.Pattern.sub.loop" ⟨[.ref P, .str (tx x) t, .str (tx repl) tr, .int 0 0, .int 0 0, .int cnt 0, .int done 0, .int done 0, .bool must, .ref D, .bool false],[]⟩))
    (do
      let item <-pure (.str (tx repl) tr)
      if(item !=Value.none)=true then do
         let _ <-updateSeq D λx=>x.push item
         again (Code.builtin "re.Pattern.sub.loop" ⟨[.ref P, .str (tx x) t, .str (tx repl) tr, .int 0 0, .int 0 0, .int ((cnt:Int)+1) 0, .int (m.handed:Nat) 0, .int (m.handed:Nat) 0, .bool (m.handed==m.start), .ref D, .bool false],[]⟩)
       else again (Code.builtin "re.Pattern.sub.loop" ⟨[.ref P, .str (tx x) t, .str (tx repl) tr, .int 0 0, .int 0 0, .int ((cnt:Int)+1) 0, .int (m.handed:Nat) 0, .int (m.handed:Nat) 0, .bool (m.handed==m.start), .ref D, .bool false],[]⟩))
    (λfin s'=>match fin with
      | .done f=>R (.ok f) s'
      | .again c'=>c'.quiet=true/\codeAny (model G.p G.w) A c' R s') (λe s'=>R (.error e) s') s':=by
   intro ps' s' hfl hlen hsum PA' hsame';refine ae (ar ?_);rw[if_pos (by rfl)];obtain⟨h1,t1,rfl⟩:=hsame';refine ae (tH (s:={ sb with heap:=h1,toks:=t1 }) PA' ⋯ λh2 PA2 => ?_);refine ar ⟨Code.quiet_builtin _ (by decide +kernel), ?_⟩;rw[he];refine hsome b e hf (cnt+1) _ { sb with heap:=h2,toks:=t1 } _ ?_ ?_ ?_ PA2 ⟨h2,t1,rfl⟩
   ·simp[hfl]
   ·simp;omega
   ·simp only[List.map_append,aC,List.map_nil,List.sum_append,List.sum_cons,List.sum_nil];omega
  by_cases hlt:((done:Int)).toNat<m.start
  ·rw[if_pos hlt]
   refine ae (kl hcap λts tk => ?_);obtain⟨h1,t1,rfl⟩:=hsame;refine ae (tH (s:={ sb with heap:=h1,toks:=tk }) PA ⋯ λh2 PA2 => ?_);rw[hb,hbd]at PA2;refine rest (ps++[(x.take b).drop done]) { sb with heap:=h2,toks:=tk } (by simp) (by simp) ?_ PA2 ⟨h2,tk,rfl⟩;simp only[List.map_append,aC,List.map_nil,List.sum_append,List.sum_cons,List.sum_nil,dj,cR];omega
  ·rw[if_neg hlt]
   refine rest ps s ?_ ⋯ ⋯ PA hsame;rw[hb,hbd]at hlt;have:b=done:=⋯;rw[this,List.drop_take];simp
theorem Du{code:Array Nat}{f:List Nat->Nat->Option (Nat×Nat)}(F:rW code f){P D:Addr}{x repl:List Nat}{t tr:Tok}{s0:Heap}(hx:x.length<=100000)(hr:repl.length<=2)(hP:gv s0 P code){R:Result->Shared->Prop}{sb:Shared}:
 ∀(n done cnt:Nat) (must:Bool) (s:Shared) (ps:List (List Nat)),x.length-done<=n->done<=x.length->ps.length<=2*done->(ps.map List.length).sum<=3*done->eZ G s0 s.heap D ps->(∃h tk,s={ sb with heap:=h,toks:=tk }) ->
  (∀t' s',(∃h tk,s'={ sb with heap:=h,toks:=tk }/\∀b o,s0.get? b=some o->h.get? b=some o)->R (.ok (.ret (.str (tx (ps.flatten++lq f repl x (n+1) done)) t'))) s') ->
  codeAny (model G.p G.w) A (.builtin "re.Pattern.sub.loop" ⟨[.ref P, .str (tx x) t, .str (tx repl) tr,rawInt 0,rawInt 0,rawInt cnt,rawInt done,rawInt done, .bool must, .ref D, .bool false],[]⟩) R s:=by
 intro n
 induction n with
 |zero=>
  intro done cnt must s ps hn hd hl hs PA hsame q;refine rX F hx hr hP hd hl hs PA hsame (λhf t' s' h => ?_) λb e hf => ?_
  ·have:=q t' s' h
   rw[Bh hf]at this;exact this
  ·have:=F.sane x done b e hf;omega
 |succ n ih=>
  intro done cnt must s ps hn hd hl hs PA hsame q;refine rX F hx hr hP hd hl hs PA hsame (λhf t' s' h => ?_) λb e hf cnt' must' s' ps' h1 h2 h3 PA' hs' => ?_
  ·have:=q t' s' h
   rw[Bh hf]at this;exact this
  ·have sa:=F.sane x done b e hf
   refine ih e cnt' must' s' ps' ⋯ sa.2.2 h2 h3 PA' hs' λt' s'' h => ?_
   have:=q t' s'' h;rw[Fq hf]at this;rw[h1]
   simpa[co]using this
end
end
section
open PySem PySem.W PySem.Calls PyProof.Rows
open PySem.Builtin.Re
theorem i8:PlainAttrs "re.Pattern":=
 ⟨⟨"object.__getattribute__",by rw[typeLookup_type,builtinLookup_eq_fast];kernel_rfl,by decide +kernel⟩,by rw[typeLookup_type,builtinLookup_eq_fast];kernel_rfl⟩
theorem lr:PySem.Slot "re.Pattern" "sub" "re.Pattern.sub":=
 .of (owner:="re.Pattern") (n:="sub") (by rw[typeLookup_type,builtinLookup_eq_fast];kernel_rfl) (by decide +kernel) (by decide +kernel) (by decide +kernel)
   (by first|exact .inl (by decide +kernel)|exact .inr (by decide +kernel)) (by rw[isSubtype_type];kernel_rfl)
theorem vm:typeOf (.builtin "re.Pattern.sub")=pure (.type "method_descriptor"):=by show builtinType _=_;rw[builtinType_eq_fast];kernel_rfl
theorem Bi(a b c:Value):argsOk "re.Pattern.sub" ⟨[a,b,c],[]⟩:=by unfold argsOk;kernel_rfl
theorem vn:typeLookup (.type "str") "__call__"=pure none:=by rw[typeLookup_type,builtinLookup_eq_fast];kernel_rfl
section
variable {G:Cfg} {A:Around} {E:Value->Shared->Prop}
theorem zd(a b:Value):reNamed "re.Pattern.sub" "sub" ["repl","string","count"] 2 [a,b] []=pure [some a,some b,none]:=∅
theorem vo {code:Array Nat} {f:List Nat->Nat->Option (Nat×Nat)} (F:rW code f) {P:Addr} {x repl:List Nat} {t tr:Tok} {s:Shared} (hx:x.length<=100000) (hr:repl.length<=2) (hb:repl.contains 92=false) (hP:gv s.heap P code) {Q:Value->Shared->Prop}
 (q:∀t' s',aM s s'->Q (.str (tx (lq f repl x (x.length+1) 0)) t') s'):wpAny (model G.p G.w) A (call (.builtin "re.Pattern.sub") [.ref P, .str (tx repl) tr, .str (tx x) t]) Q E s:=by
 obtain⟨o,fs,T,oT,ws,n,h1,hcls,_⟩:=hP.ex;have hT:s.TypeIs (.ref P) "re.Pattern":=⟨o,h1,hcls⟩;refine bA (wpAny_call (codeAny_call_builtin lr.plain zc (lr.check _ _ _ _ _ _ _ _ hT (Bi _ _ _) ?_)));unfold Builtin.«re.Pattern.sub» reSubstitute;dsimp only;rw[zd];refine ae (ar ?_);dsimp only;refine ae (ar ?_);refine ae (wpAny_specialOf (typeIs_str _ _ _) vn ?_);rw[if_neg (by simp)];refine ae (ar ?_);dsimp only;refine ae (ar ?_);rw[if_neg (by simp)];have hlit:(!(tx repl).cps.contains 92)=true:=by
  show(!(repl.toArray).contains 92)=true
  simpa using hb
 rw[if_pos hlit];refine ae (ar (ae (bQ (vk hP ?_))));rw[if_neg (by simp)];refine ae (wpAny_newList ?_ (by simp[sizeLine_eq]));refine ar ⟨Code.quiet_builtin _ (by decide +kernel), ?_⟩;have kp:∀b o,s.heap.get? b=some o->(s.heap.push { cls := .type "list",data := .seq ([]:List Value).toArray }).get? b=some o:=λb o e=>gG _ e
 refine Du (G:=G) (cnt:=0) F hx hr (s0:=s.heap) hP (sb:=s) x.length 0 false { s with heap:=s.heap.push { cls := .type "list",data := .seq ([]:List Value).toArray } } [] ⋯ ⋯ (by simp) (by simp) ⟨kp, ?_, ?_⟩ ⟨_,_,rfl⟩ λt' s' h => ?_
 ·exact cf _ (aq _)
 ·exact⟨#[],0,di _ rfl,λ_=>Reps.nil⟩
 ·obtain⟨h',tk,rfl,kk⟩:=h
  exact λhle=>q t' _ ⟨h',tk,rfl,kk,hle⟩
end
noncomputable def f1(x:List Nat)(start:Nat):Option (Nat×Nat):=(dI x.toArray x.toArray.size (x.toArray.size-start) start).map λb=>(b,b+1)
noncomputable def f2(x:List Nat)(start:Nat):Option (Nat×Nat):=(dJ x.toArray x.toArray.size (x.toArray.size-start) start).map λb=>(b,eY x.toArray x.toArray.size b)
theorem m7{text:Array Nat}{lim:Nat}:∀(n p b:Nat),dI text lim n p=some b->p<=b/\b<lim
 |0,p,b,h=>by
  have h:(if ei text lim p=true then some p else none)=some b:=h
  split at h
  ·rename_i hh
   injection h with h;subst h
   unfold ei at hh;simp only[aK,decide_eq_true_eq]at hh;exact⟨aq _,hh.1.2⟩
  ·injections h
 |n+1,p,b,h=>by
  have h:(if ei text lim p=true then some p else dI text lim n (p+1))=some b:=h
  split at h
  ·rename_i hh
   injection h with h;subst h
   unfold ei at hh;simp only[aK,decide_eq_true_eq]at hh;exact⟨aq _,hh.1.2⟩
  ·have:=m7 n (p+1) b h;omega
theorem Fs:rW code1 f1 where
 ends:=λx start must hx hs=>by
  refine⟨5*x.toArray.size+8, ?_,Dp x.toArray start must (by simpa using hs)⟩;have:x.toArray.size=x.length:=by simp
  unfold cap at hx;omega
 sane:=λx start b e h=>by
  unfold f1 at h;cases hf:dI x.toArray x.toArray.size (x.toArray.size-start) start with
  |none=>rw[hf]at h;injections h
  |some c=>
   rw[hf]at h
   injection h with h;injection h with h1 h2
   have:=m7 _ _ _ hf;have hz:x.toArray.size=x.length:=by simp
   omega
theorem Ft:rW code2 f2 where
 ends:=λx start must hx hs=>⟨24,⋯,Dr x.toArray start must (by simpa using hs)⟩
 sane:=λx start b e h=>by
  unfold f2 at h;cases hf:dJ x.toArray x.toArray.size (x.toArray.size-start) start with
  |none=>rw[hf]at h;injections h
  |some c=>
   rw[hf]at h
   injection h with h;injection h with h1 h2
   have:=mm _ _ _ hf;have hz:x.toArray.size=x.length:=by simp
   subst h1;subst h2;unfold eY
   split
   ·rename_i hc
    simp only[aK,decide_eq_true_eq]at hc
    omega
   ·omega
noncomputable def jS(x:List Nat):List Nat:=lq f2 [13,10] x (x.length+1) 0
noncomputable def yg(x:List Nat):List Nat:=lq f1 [46,46] x (x.length+1) 0
noncomputable def fQuote:List V->R:=iL (mJ λx=>(decide (x.length<=100000)&&decide ((jS x).length<=100000), .str (yg (jS x))))
structure Iv(Φ:Fns)(d:Def):Prop where
 body:∃x e1 e2 e3 p1 p2 p3 p4 p5 p6 p7,d.params=[x]/\d.body=[.Return (some (.Call (.Attribute (.Name "_twin_re_1" p1) "sub" p2) [e1, .Call (.Attribute (.Name "_twin_re_2" p3) "sub" p4) [e2,e3] [] p5] [] p6)) p7]/\p2.endLine=p6.line/\p4.endLine=p5.line /\
  ∀s,ev Φ [] 40 d.κ (dD d.κ [(x, .str s)]) e1=(true, .str [46,46])/\ev Φ [] 40 d.κ (dD d.κ [(x, .str s)]) e2=(true, .str [13,10])/\ev Φ [] 40 d.κ (dD d.κ [(x, .str s)]) e3=(true, .str s)
 glob1:ay (kd d.κ (nm "_twin_re_1"))=true
 glob2:ay (kd d.κ (nm "_twin_re_2"))=true
 ch:ay (kd d.κ (nm "chr"))=false
section
variable {G:Cfg} {A:Around} {Φ:Fns}
theorem m8{M:Model}{E:Value->Shared->Prop}{s:Shared}{a b:Sem Value}{Q:List Value->Shared->Prop}(h:wpAny M A a (λu s1=>wpAny M A b (λv s2=>Q [u,v] s2) E s1) E s):wpAny M A (spliced [(false,a),(false,b)]) Q E s:=
 spliced_cons (bK h (λu s1 h1=>spliced_cons (bK h1 (λv s2 h2=>spliced_nil h2) λ_ _ e=>e)) λ_ _ e=>e)
theorem Bj {n:Nat} {a P1 P2:Addr} {d:Def} (hd:eG G a d) (hlim:G.h0.NoLimit) (Fa:∀A,ix n A->aU G A Φ) {mg:Str->Option Value} (hm:G.h0.Ns mainGlobals mg) (h1:mg "_twin_re_1"=some (.ref P1)) (h2:mg "_twin_re_2"=some (.ref P2))
 (p1:gv G.h0 P1 code1) (p2:gv G.h0 P2 code2) (I:Iv Φ d):fT G (n+1) a fQuote:=λA room=>by
 obtain⟨o,fd,ids0,ho,hdata,_⟩:=hd.ex;refine⟨nQ ho hdata,λX s as us old off al r ok E Q q => ?_⟩;obtain⟨x,rfl⟩:∃x,as=[.str x]:=nL (λas _=>∃x,as=[.str x]) ok λv ok=>Ab (λv _=>∃x,[v]=[.str x]) ok λx _=>⟨x,rfl⟩
 have ok':(decide (x.length<=100000)&&decide ((jS x).length<=100000))=true:=ok;simp only[aK,decide_eq_true_eq]at ok';obtain⟨px,e1,e2,e3,q1,q2,q3,q4,q5,q6,q7,hp,hb,hl1,hl2,hev⟩:=I.body;refine ye hd (by have:=room.depth;omega) hlim old (by rw[hp,<-r.length];rfl) λenv s1 g ids hids en E' => ?_
 have FaB:=Fa _ (room.deeper env);have S1:=en.sta old off al r I.ch;rw[hids,hp]at S1;have GE:=(gV (G:=G) (A:=A.deeper env) FaB [] 40 d.κ env X (dD d.κ [(px, .str x)]) en.En).1;obtain⟨v1,v2,v3⟩:=hev x;have st2:starEach [e2,e3] env=[(false,eval e2 env),(false,eval e3 env)]:=by
  rw[gr GE (show(ev Φ [] 40 d.κ (dD d.κ [(px, .str x)]) e2).1=true by rw[v2]),gr GE (show(ev Φ [] 40 d.κ (dD d.κ [(px, .str x)]) e3).1=true by rw[v3])];rfl
 have st1:starEach [e1, .Call (.Attribute (.Name "_twin_re_2" q3) "sub" q4) [e2,e3] [] q5] env=[(false,eval e1 env),(false,eval (.Call (.Attribute (.Name "_twin_re_2" q3) "sub" q4) [e2,e3] [] q5) env)]:=by
  rw[gr GE (show(ev Φ [] 40 d.κ (dD d.κ [(px, .str x)]) e1).1=true by rw[v1])];rfl
 have t1:backTo q6 (starEach [e1, .Call (.Attribute (.Name "_twin_re_2" q3) "sub" q4) [e2,e3] [] q5] env)=[(false,eval e1 env),(false,eval (.Call (.Attribute (.Name "_twin_re_2" q3) "sub" q4) [e2,e3] [] q5) env)]:=by
  rw[st1];rfl
 have t2:backTo q5 (starEach [e2,e3] env)=[(false,eval e2 env),(false,eval e3 env)]:=by
  rw[st2];rfl
 have nodict:∀{P:Addr} {code:Array Nat} {h:Heap},gv h P code->∀b,Value.ref P = .ref b->∃ob,h.get? b=some ob/\ob.dict=none:=λ{P code h} p b e=>by
  injection e with e;subst e
  obtain⟨o,_,_,_,_,_,h1,_,h2,_⟩:=p.ex;exact⟨o,h1,h2⟩
 have tyP:∀{P:Addr} {code:Array Nat} {s:Shared},gv s.heap P code->s.TypeIs (.ref P) "re.Pattern":=λ{P code s} p=>by
  obtain⟨o,_,_,_,_,_,h1,h2,_⟩:=p.ex;exact⟨o,h1,h2⟩
 rw[hb];refine wpAny_execs_cons (wpAny_Return_some ?_);refine wpAny_Call_method_lateS (jv rfl) (by rw[t1];rfl) (by rw[hl1];exact beq_self_eq_true _) (nS FaB en.En hm h1 I.glob1 S1 ?_);refine⟨"re.Pattern","re.Pattern.sub",i8,lr,vm,tyP (p1.keeps S1.old),nodict (p1.keeps S1.old), ?_⟩;rw[t1];refine Calls.callWith_builtin rfl (c8 rfl (m8 (GE.ok e1 (by rw[v1]) _ s1 S1 _ _ λu s2 k2 r2 => ?_)));rw[v1]at r2;obtain⟨tu,rfl⟩:=ak.str_iff.mp r2;have S2:=S1.keeps k2;refine wpAny_Call_method_lateS (jv rfl) (by rw[t2];rfl) (by rw[hl2];exact beq_self_eq_true _) (nS FaB en.En hm h2 I.glob2 S2 ?_);refine⟨"re.Pattern","re.Pattern.sub",i8,lr,vm,tyP (p2.keeps S2.old),nodict (p2.keeps S2.old), ?_⟩
 rw[t2];refine Calls.callWith_builtin rfl (c8 rfl (m8 (GE.ok e2 (by rw[v2]) _ s2 S2 _ _ λu s3 k3 r3 => ?_)));rw[v2]at r3;obtain⟨tv,rfl⟩:=ak.str_iff.mp r3;have S3:=S2.keeps k3;refine GE.ok e3 (by rw[v3]) _ s3 S3 _ _ λu s4 k4 r4 => ?_
 rw[v3]at r4;obtain⟨tw,rfl⟩:=ak.str_iff.mp r4;have S4:=S3.keeps k4;refine vo Ft ok'.1 nofun nofun (p2.keeps S4.old) λt5 s5 k5 => ?_
 have S5:=S4.keeps k5;refine vo Fs ok'.2 nofun nofun (p1.keeps S5.old) λt6 s6 k6 => ?_
 exact q _ _ (Kp.trans en.keeps (Kp.trans k2 (Kp.trans k3 (Kp.trans k4 (Kp.trans k5 k6))))) (ak.str_iff.mpr ⟨t6,rfl⟩)
end
end
section
open PySem PySem.W PySem.Calls PyProof.Rows
noncomputable def fK(ids:List Str)(d:DP):Def:=⟨ids.map nm,d.body,d.scope.names⟩
noncomputable def Iw(ids:List Str)(d:DP):Bool:=
 d.scope.kind == .function&&(!d.scope.isCoroutine)&&(!d.scope.isGenerator)&&d7 (ids.map nm)&&d7 (d.scope.names.map λx=>nm x.1)&&d.scope.names.all (λx=>x.2 != .free && !(x.1==("__debug__":Str)) && !(x.1==("__classdict__":Str))) &&
 ids.all (λx=>d.scope.names.lookup x==some .local||d.scope.names.lookup x==some .cell)
theorem lu{α β:Type}{f:α->β}:∀{l:List α},(l.map f).Nodup->l.Nodup
 |[],_=>List.nodup_nil
 |x::l,h=>by
  rw[aC,List.nodup_cons]at h;exact List.nodup_cons.mpr ⟨λm=>h.1 (List.mem_map_of_mem m),lu h.2⟩
theorem jT{o:Obj}{d:DP}{q:Str}{c:Addr}(h:hH o=⟨.type "function",none, .func (fD d q 3 .none (.ref c) 0),⟨[]⟩⟩):∃pm doc,o.cls = .type "function"/\o.data = .func { fD d q 3 pm (.ref c) 0 with doc:=doc }:=by
 obtain⟨cl,dd,dt,sl⟩:=o
 induction dt using Data.casesOn with
 |func f=>
  have h3:({ f with pyModule := .none,doc := .none }:FuncData)=_:=Data.func.inj (congrArg Obj.data h);refine⟨f.pyModule,f.doc,congrArg Obj.cls h, ?_⟩;have:f={ ({ f with pyModule := .none,doc := .none }:FuncData)with pyModule:=f.pyModule,doc:=f.doc }:=rfl;rw[this,h3];rfl
 |_=>exact aa (congrArg (λo:Obj=>Nat.beq o.data.ctorIdx 7) h)
theorem dK {G:Cfg} {a c:Addr} {d:DP} {q:Str} {ids:List Str} (ho:∃o,G.h0.get? a=some o/\hH o=⟨.type "function",none, .func (fD d q 3 .none (.ref c) 0),⟨[]⟩⟩) (hc:G.h0.CodeRec (.ref c) q)
 (hb:∀pm doc (us:List Value),us.length=ids.length->bindArgs { fD d q 3 pm (.ref c) 0 with doc:=doc } ⟨us,[]⟩=pure (ids.zip us)) (ok:Iw ids d=true):eG G a (fK ids d):=by
 obtain⟨o,h1,h2⟩:=ho;obtain⟨pm,doc,h3,h4⟩:=jT h2;unfold Iw at ok;simp only[aK,Bool.not_eq_true',List.all_eq_true,Bool.or_eq_true,beq_iff_eq,bne_iff_ne,ne_eq]at ok;obtain⟨⟨⟨⟨⟨⟨k1,k2⟩,k3⟩,k4⟩,k5⟩,k6⟩,k7⟩:=ok;refine⟨⟨o,_,ids,h1,h4,hc,rfl,rfl,rfl,k1,k2,k3,rfl,rfl,rfl,lu (nodup_iff.mp k4),hb pm doc,λx hx=>k7 x hx⟩,nodup_iff.mp k5,λx m => ?_,λx k m => ?_⟩
 ·exact(k6 _ m).1.1 rfl
 ·exact⟨(k6 _ m).1.2,(k6 _ m).2⟩
theorem vp{P:List Value->Prop}(h:∀u,P [u])(us:List Value)(e:us.length=1):P us:=by
 induction us using List.casesOn with
 |nil=>injections e
 |cons u r=>induction r using List.casesOn with
  |nil=>exact h u
  |cons _ _=>injections e
theorem vq{P:List Value->Prop}(h:∀u v,P [u,v])(us:List Value)(e:us.length=2):P us:=by
 induction us using List.casesOn with
 |nil=>injections e
 |cons u r=>exact vp (P:=λr=>P (u::r)) (h u) r (Nat.succ.inj e)
theorem Bk{P:List Value->Prop}(h:∀u v w,P [u,v,w])(us:List Value)(e:us.length=3):P us:=by
 induction us using List.casesOn with
 |nil=>injections e
 |cons u r=>exact vq (P:=λr=>P (u::r)) (h u) r (Nat.succ.inj e)
theorem said{l:kK}{m:Str->Option Value}(x:∀e∈l,(m e.1).map strip=e.2){n:Str}{v:Option Value}(e:l.lookup n=some v):(m n).map strip=v:=x (n,v) (mem_of_lookup e)
theorem bz{v:Option Value}(e:v.map strip=none):v=none:=by
 induction v using Option.casesOn with
 |none=>rfl
 |some v=>injections e
theorem jD{v:Option Value}{a:Addr}(e:v.map strip=some (.ref a)):v=some (.ref a):=by
 induction v using Option.casesOn with
 |none=>injections e
 |some v=>
  exact congrArg some (jY rfl (bR e))
theorem i9{v:Option Value}{a:String}(e:v.map strip=some (.builtin a)):v=some (.builtin a):=by
 induction v using Option.casesOn with
 |none=>injections e
 |some v=>
  exact congrArg some (jY rfl (bR e))
theorem lx{v:Option Value}{a:String}(e:v.map strip=some (.type a)):v=some (.type a):=by
 induction v using Option.casesOn with
 |none=>injections e
 |some v=>
  exact congrArg some (jY rfl (bR e))
theorem km{v:Option Value}{x:Str}(e:v.map strip=some (.str x 0)):∃t,v=some (.str x t):=by
 induction v using Option.casesOn with
 |none=>injections e
 |some v=>
  rw[Option.map_some]at e
  injection e with e
  obtain⟨t,rfl⟩:=qT e;exact⟨t,rfl⟩
theorem gW{v:Option Value}{i:Int}(e:v.map strip=some (.int i 0)):∃t,v=some (.int i t):=by
 induction v using Option.casesOn with
 |none=>injections e
 |some v=>
  have e:=bR e
  induction v using Value.casesOn with
  |int j t=>exact⟨t,congrArg (λj=>some (Value.int j t)) (Value.int.inj e).1⟩
  |_=>exact aa (congrArg (λv:Value=>Nat.beq v.ctorIdx 4) e)
theorem ID{α:Type}{l:List α}(h:l.length=6):∃a b c d e f,l=[a,b,c,d,e,f]:=by
 obtain⟨a,l,rfl⟩:=List.exists_cons_of_length_eq_add_one h;obtain⟨b,l,rfl⟩:=List.exists_cons_of_length_eq_add_one (Nat.succ.inj h);obtain⟨c,l,rfl⟩:=List.exists_cons_of_length_eq_add_one (Nat.succ.inj (Nat.succ.inj h));obtain⟨d,l,rfl⟩:=List.exists_cons_of_length_eq_add_one (Nat.succ.inj (Nat.succ.inj (Nat.succ.inj h)));obtain⟨e,l,rfl⟩:=List.exists_cons_of_length_eq_add_one (Nat.succ.inj (Nat.succ.inj (Nat.succ.inj (Nat.succ.inj h))));obtain⟨f,l,rfl⟩:=List.exists_cons_of_length_eq_add_one (Nat.succ.inj (Nat.succ.inj (Nat.succ.inj (Nat.succ.inj (Nat.succ.inj h)))));exact⟨a,b,c,d,e,f,by rw[List.eq_nil_of_length_eq_zero (l:=l) (Nat.succ.inj (Nat.succ.inj (Nat.succ.inj (Nat.succ.inj (Nat.succ.inj (Nat.succ.inj h))))))]⟩
theorem tI{o:Obj}{C N:Addr}{nm' q:Str}(h:hH o=⟨.type "type",none, .cls { name:=nm',bases:=[.type "object"],mro:=[.ref C, .type "object"],ns:=N,qualname:=q,hasDict:=true,slotNames:=[],subclasses:=[],abstract:=false,collection:=none,hasDel:=false },⟨[some (.builtin "object.__new__")]⟩⟩):
 ∃k0 k1 k2 k3 k5,o=excClassObj nm' q C N [.type "object"] [.type "object"] true [] [] false none none k0 k1 k2 k3 k5 "object.__new__":=by
 obtain⟨cl,dd,dt,sl⟩:=o
 induction dt using Data.casesOn with
 |cls c=>
  obtain⟨l⟩:=sl;have h4:jX ⟨l⟩=_:=congrArg Obj.slots h;have h1:cl=_:=congrArg Obj.cls h;have h2:dd=_:=congrArg Obj.dict h;have h3:c=_:=Data.cls.inj (congrArg Obj.data h);unfold jX at h4;cases hl:Nat.beq (Array.mk l).toList.length 6 with
  |false=>rw[hl]at h4;exact aa (congrArg (λa:Array (Option Value)=>Nat.beq a.toList.length 1) h4)
  |true=>
   rw[hl]at h4;obtain⟨k0,k1,k2,k3,k,k5,rfl⟩:=ID (eH hl);have h4:k=_:=(List.cons.inj (congrArg Array.toList h4)).1;subst h1;subst h2;subst h3;subst h4;exact⟨k0,k1,k2,k3,k5,rfl⟩
 |_=>exact aa (congrArg (λo:Obj=>Nat.beq o.data.ctorIdx 8) h)
open PySem.Builtin.Re in
theorem ze(v:Value):reRawOf (strip v)=reRawOf v/\reRawNat (strip v)=reRawNat v:=by induction v using Value.casesOn<;>exact⟨rfl,rfl⟩
open PySem.Builtin.Re in
theorem ly {h:Heap} {P T:Addr} {fs ws:List Value} {code:Array Nat} (hP:∃o,h.get? P=some o/\hH o=⟨.type "re.Pattern",none, .fields ⟨fs⟩,⟨[]⟩⟩) (hT:∃o,h.get? T=some o/\hH o=⟨.type "tuple",none, .seq ⟨ws⟩ 0,⟨[]⟩⟩)
 (h5:fs[5]? = some (.ref T)) (h2:fs[2]? = some (.int 0 0)) (h6:fs[6]? = some (.int 0 0)) (hc:(ws.map reRawOf).map (·.toNat)=code.toList):gv h P code:=by
 obtain⟨o,ho,eo⟩:=hP;obtain⟨oT,hoT,eT⟩:=hT;obtain⟨cl,dd,dt,sl⟩:=o;obtain⟨cl',dd',dt',sl'⟩:=oT;obtain⟨vs,rfl,c3⟩:∃vs,dt = .fields vs/\vs.toList.map strip=fs:=by
  induction dt using Data.casesOn with
  |fields vs=>exact⟨vs,rfl,congrArg Array.toList (Data.fields.inj (congrArg Obj.data eo))⟩
  |_=>exact aa (congrArg (λo:Obj=>Nat.beq o.data.ctorIdx 9) eo)
 obtain⟨us,m,rfl,b3⟩:∃us m,dt' = .seq us m/\us.toList.map strip=ws:=by
  induction dt' using Data.casesOn with
  |seq us m=>exact⟨us,m,rfl,congrArg Array.toList (Data.seq.inj (congrArg Obj.data eT)).1⟩
  |_=>exact aa (congrArg (λo:Obj=>Nat.beq o.data.ctorIdx 2) eT)
 have c1:cl=_:=congrArg Obj.cls eo;have c2:dd=_:=congrArg Obj.dict eo;have at_:∀i,(vs.toList[i]?).map strip=fs[i]? := λi=>by rw[<-c3,List.getElem?_map]
 have get:∀i,vs.getD i .none=(vs.toList[i]?).getD .none:=λi=>by simp[Array.getD_eq_getD_getElem?]
 refine⟨_,vs,T,_,us,m,ho,c1,c2,rfl, ?_, ?_, ?_,hoT,rfl, ?_⟩
 ·rw[get]
  have e5:=at_ 5;rw[h5]at e5;rw[jD e5];rfl
 ·rw[get]
  have e2:=at_ 2;rw[h2]at e2;obtain⟨t,e⟩:=gW e2;rw[e];rfl
 ·rw[get]
  have e6:=at_ 6;rw[h6]at e6;obtain⟨t,e⟩:=gW e6;rw[e];rfl
 ·apply Array.ext'
  rw[<-hc,<-b3];simp only[Array.toList_map,dQ]
  congr 1
  funext v
  simp only[Function.comp_apply];rw[(ze v).1]
noncomputable def pM(L:List (Int×Value))(k:Int):Bool:=L.any λe=>Value.isInt k e.2
theorem vr(k:Int)(v:Value):Value.isInt k (strip v)=Value.isInt k v:=by induction v using Value.casesOn<;>rfl
theorem tJ {prog:Program} {w:World} {h:Heap} {a:Addr} {L:List (Int×Value)} {t:SetTable} (ho:∃o,h.get? a=some o/\hH o=⟨.type "set",none, .set ⟨L⟩ 0 t,⟨[]⟩⟩)
 (hL:L.all (λe=>match e.2 with| .int i _=>e.1==PySem.hashInt i|_=>false)=true) (ht:t.fits L.length=true) (hn:L.length<scanBound):h.SetOf (intKind prog w) a (pM L) L.length:=by
 obtain⟨o,ho,eo⟩:=ho;obtain⟨cl,dd,dt,sl⟩:=o;obtain⟨es,ep,tt,rfl,c3,c4⟩:∃es ep tt,dt = .set es ep tt/\es.toList.map (λe=>(e.1,strip e.2))=L/\({ tt with led:=true }:SetTable)=t:=by
  induction dt using Data.casesOn with
  |set es ep tt=>exact⟨es,ep,tt,rfl,congrArg Array.toList (Data.set.inj (congrArg Obj.data eo)).1,(Data.set.inj (congrArg Obj.data eo)).2.2⟩
  |_=>exact aa (congrArg (λo:Obj=>Nat.beq o.data.ctorIdx 4) eo)
 have c1:cl=_:=congrArg Obj.cls eo;have c2:dd=_:=congrArg Obj.dict eo;have c5:sl=_:=congrArg Obj.slots eo;have len:es.size=L.length:=by rw[<-c3,aW,c0]
 refine⟨_,es,ep,tt,ho,⟨c1,c2,c5⟩,rfl,λe he => ?_,λk => ?_,⋯, ?_,len⟩
 ·have hm:(e.1,strip e.2)∈L:=by rw[<-c3];exact List.mem_map.mpr ⟨e,he,rfl⟩
  have:=cq hL _ hm;dsimp only at this;cases hv:e.2 with
  |int i t0=>
   rw[hv]at this;refine⟨⟨i,by simp[intKind,Value.isInt],eq_of_beq this⟩,rfl⟩
  |_=>rw[hv]at this;injections this
 ·unfold pM
  rw[<-c3,List.any_map,List.any_eq_true];refine exists_congr λe=>and_congr_right λ_ => ?_
  show Value.isInt k (strip e.2)=true↔Value.isInt k e.2=true;rw[vr]
 ·have h2:({ tt with led:=true }:SetTable).fits L.length=true:=by rw[c4];exact ht
  rw[len];exact h2
end
section
open PySem PySem.W
section
variable {Φ:Fns} {τ:Tau} {μ:List Nm} {W n:Nat} {κ:List (Str×NameKind)} {ρ ρ':Rho} {rest:List Stmt} {res:Res} {p:Pos}
theorem fz{ts:List Expr}{e:Expr}(h:gR (ev Φ τ 40 κ (freeze (bd 40 e) ρ)) κ μ (freeze (bd 40 e) ρ) ts e=(true, .next ρ'))(h2:ex Φ τ μ W κ n rest ρ'=res):ex Φ τ μ W κ (n+1) (.Assign ts e p::rest) ρ=res:=by
 show seq (gR (ev Φ τ 40 κ (freeze (bd 40 e) ρ)) κ μ (freeze (bd 40 e) ρ) ts e) (ex Φ τ μ W κ n rest)=res;rw[h,<-h2];rfl
theorem xa{t e:Expr}{op:Operator}(h:qY (ev Φ τ 40 κ (freeze (bd 40 e) ρ)) κ Φ (freeze (bd 40 e) ρ) t op e=(true, .next ρ'))(h2:ex Φ τ μ W κ n rest ρ'=res):ex Φ τ μ W κ (n+1) (.AugAssign t op e p::rest) ρ=res:=by
 show seq (qY (ev Φ τ 40 κ (freeze (bd 40 e) ρ)) κ Φ (freeze (bd 40 e) ρ) t op e) (ex Φ τ μ W κ n rest)=res;rw[h,<-h2];rfl
theorem Fu {x:Str} {a:Expr} {l:List V} {v:V} {q1 q2 q:Pos} (hq:(q1.endLine==q2.line)=true) (hl:lk (freeze (hW (bd 40) [a]) ρ) (nm x) = .own l) (h:ev Φ τ 40 κ (freeze (hW (bd 40) [a]) ρ) a=(true,v)) (hx:ag (kd κ (nm x))=true) (hc:l.length<=cap)
 (hρ:put (freeze (hW (bd 40) [a]) ρ) (nm x) (.own (l++[v]))=ρ') (h2:ex Φ τ μ W κ n rest ρ'=res):ex Φ τ μ W κ (n+1) (.Expr (.Call (.Attribute (.Name x q) "append" q1) [a] [] q2) p::rest) ρ=res:=by
 show seq (GK (ev Φ τ 40 κ (freeze (hW (bd 40) [a]) ρ)) κ (freeze (hW (bd 40) [a]) ρ) (bif ab (nm "append") (nm "append")&&(q1.endLine==q2.line)&&true&&true then some (x,a)else none)) (ex Φ τ μ W κ n rest)=res;rw[hq,an.mpr rfl];show seq (CI (ag (kd κ (nm x))) (freeze (hW (bd 40) [a]) ρ) (nm x) (ev Φ τ 40 κ (freeze (hW (bd 40) [a]) ρ) a) (lk (freeze (hW (bd 40) [a]) ρ) (nm x))) (ex Φ τ μ W κ n rest)=res;rw[hl,h,hx];show seq (true&&true&&decide (l.length<=cap), .next (put (freeze (hW (bd 40) [a]) ρ) (nm x) (.own (l++[v])))) (ex Φ τ μ W κ n rest)=res;rw[ai hc,hρ,<-h2];rfl
theorem fA{e:Expr}{v:V}(h:ev Φ τ 40 κ (freeze (bd 40 e) ρ) e=(true,v)):ex Φ τ μ W κ (n+1) (.Return (some e) p::rest) ρ=(true, .ret v):=by
 show((ev Φ τ 40 κ (freeze (bd 40 e) ρ) e).1,gm.ret (ev Φ τ 40 κ (freeze (bd 40 e) ρ) e).2)=_;rw[h]
theorem cF:ex Φ τ μ W κ (n+1) [] ρ=(true, .next ρ):=rfl
theorem gi{t:Expr}{a b:List Stmt}{v:V}{c:Bool}(hp:(bJ a&&bJ b&&aR (fits 20) a&&aR (fits 20) b)=false)(h:ev Φ τ 40 κ (freeze (bd 40 t) ρ) t=(true,v))(hv:ad v=(true,c))(hr:ex Φ τ μ W κ n ((bif c then a else b)++rest) (freeze (bd 40 t) ρ)=res):
 ex Φ τ μ W κ (n+1) (.If t a b p::rest) ρ=res:=by
 show(bif (bJ a&&bJ b&&aR (fits 20) a&&aR (fits 20) b)then _ else kQ ((ev Φ τ 40 κ (freeze (bd 40 t) ρ) t).1&&(ad (ev Φ τ 40 κ (freeze (bd 40 t) ρ) t).2).1) (ad (ev Φ τ 40 κ (freeze (bd 40 t) ρ) t).2).2
  (ex Φ τ μ W κ n (a++rest) (freeze (bd 40 t) ρ)) (ex Φ τ μ W κ n (b++rest) (freeze (bd 40 t) ρ)):Res)=res
 rw[hp,h,cond_false,hv];unfold kQ
 induction c using Bool.casesOn with
 |true=>rw[<-hr];simp
 |false=>rw[<-hr];simp
theorem nU {t:Expr} {a b:List Stmt} {v:V} {c:Bool} {ρa ρb:Rho} {fa fb:Bool} (hp:(bJ a&&bJ b&&aR (fits 20) a&&aR (fits 20) b)=true) (h:ev Φ τ 40 κ (freeze (bd 40 t) ρ) t=(true,v)) (hv:ad v=(true,c))
 (ha:ex Φ τ μ W κ n a (freeze (bd 40 t) ρ)=(fa, .next ρa)) (hb:ex Φ τ μ W κ n b (freeze (bd 40 t) ρ)=(fb, .next ρb)) (hf:(bif c then fa else fb)=true)
 (hr:ex Φ τ μ W κ n rest (gP (a0 (fw 20) a++a0 (fw 20) b) c ρa ρb)=res):ex Φ τ μ W κ (n+1) (.If t a b p::rest) ρ=res:=by
 show(bif (bJ a&&bJ b&&aR (fits 20) a&&aR (fits 20) b)then seq (qZ (a0 (fw 20) a++a0 (fw 20) b) ((ev Φ τ 40 κ (freeze (bd 40 t) ρ) t).1&&(ad (ev Φ τ 40 κ (freeze (bd 40 t) ρ) t).2).1)
  (ad (ev Φ τ 40 κ (freeze (bd 40 t) ρ) t).2).2 (ex Φ τ μ W κ n a (freeze (bd 40 t) ρ)) (ex Φ τ μ W κ n b (freeze (bd 40 t) ρ))) (ex Φ τ μ W κ n rest)else _:Res)=res
 rw[hp,cond_true,h,hv,ha,hb];unfold qZ seq;dsimp only;rw[hr,hf];simp
theorem pN{t:Expr}{b:List Stmt}{ρ':Rho}(h:cS (λρ=>ev Φ τ 40 κ ρ t) (ex Φ τ μ W κ n b) W (freeze (bd 40 t) ρ)=(true, .next ρ'))(h2:ex Φ τ μ W κ n rest ρ'=res):ex Φ τ μ W κ (n+1) (.While t b [] p::rest) ρ=res:=by
 show seq (cS (λρ=>ev Φ τ 40 κ ρ t) (ex Φ τ μ W κ n b) W (freeze (bd 40 t) ρ)) (ex Φ τ μ W κ n rest)=res;rw[h,<-h2];rfl
theorem tK {t it:Expr} {b:List Stmt} {ρ':Rho} {xs:List V} (hi:ci κ (ev Φ τ 40 κ (freeze (bd 40 it) ρ)) t it=(true,xs)) (ht:(bh t).all (λx=>ag (kd κ x))=true)
 (h:dc (λv ρ=>((bU t v ρ).1&&(ex Φ τ μ W κ n b (bU t v ρ).2).1,(ex Φ τ μ W κ n b (bU t v ρ).2).2)) (freeze (bd 40 it) ρ) xs (freeze (bd 40 it) ρ)=(true, .next ρ')) (h2:ex Φ τ μ W κ n rest ρ'=res):ex Φ τ μ W κ (n+1) (.For t it b [] p::rest) ρ=res:=by
 show seq ((ci κ (ev Φ τ 40 κ (freeze (bd 40 it) ρ)) t it).1&&(bh t).all (λx=>ag (kd κ x))&&(dc (λv ρ=>((bU t v ρ).1&&(ex Φ τ μ W κ n b (bU t v ρ).2).1,(ex Φ τ μ W κ n b (bU t v ρ).2).2)) (freeze (bd 40 it) ρ) (ci κ (ev Φ τ 40 κ (freeze (bd 40 it) ρ)) t it).2 (freeze (bd 40 it) ρ)).1,
  (dc (λv ρ=>((bU t v ρ).1&&(ex Φ τ μ W κ n b (bU t v ρ).2).1,(ex Φ τ μ W κ n b (bU t v ρ).2).2)) (freeze (bd 40 it) ρ) (ci κ (ev Φ τ 40 κ (freeze (bd 40 it) ρ)) t it).2 (freeze (bd 40 it) ρ)).2) (ex Φ τ μ W κ n rest)=res
 rw[hi,ht,h,<-h2];rfl
theorem pO {t it:Expr} {b:List Stmt} {v:V} {xs:List V} (hi:ci κ (ev Φ τ 40 κ (freeze (bd 40 it) ρ)) t it=(true,xs)) (ht:(bh t).all (λx=>ag (kd κ x))=true)
 (h:dc (λv ρ=>((bU t v ρ).1&&(ex Φ τ μ W κ n b (bU t v ρ).2).1,(ex Φ τ μ W κ n b (bU t v ρ).2).2)) (freeze (bd 40 it) ρ) xs (freeze (bd 40 it) ρ)=(true, .ret v)):ex Φ τ μ W κ (n+1) (.For t it b [] p::rest) ρ=(true, .ret v):=by
 show seq ((ci κ (ev Φ τ 40 κ (freeze (bd 40 it) ρ)) t it).1&&(bh t).all (λx=>ag (kd κ x))&&(dc (λv ρ=>((bU t v ρ).1&&(ex Φ τ μ W κ n b (bU t v ρ).2).1,(ex Φ τ μ W κ n b (bU t v ρ).2).2)) (freeze (bd 40 it) ρ) (ci κ (ev Φ τ 40 κ (freeze (bd 40 it) ρ)) t it).2 (freeze (bd 40 it) ρ)).1,
  (dc (λv ρ=>((bU t v ρ).1&&(ex Φ τ μ W κ n b (bU t v ρ).2).1,(ex Φ τ μ W κ n b (bU t v ρ).2).2)) (freeze (bd 40 it) ρ) (ci κ (ev Φ τ 40 κ (freeze (bd 40 it) ρ)) t it).2 (freeze (bd 40 it) ρ)).2) (ex Φ τ μ W κ n rest)=_
 rw[hi,ht,h];rfl
theorem fc{f:V->Rho->Res}{ρ0 ρ1:Rho}{x:V}{xs:List V}{r:Res}(h:f x ρ=(true, .next ρ1))(h2:dc f ρ0 xs (mask ρ0 ρ1)=r):dc f ρ0 (x::xs) ρ=r:=by
 rw[iP,h];subst h2;rfl
theorem Dv{f:V->Rho->Res}{ρ0 ρ1:Rho}{x:V}{xs:List V}(h:f x ρ=(true, .brk ρ1)):dc f ρ0 (x::xs) ρ=(true, .next (mask ρ0 ρ1)):=by
 rw[iP,h]
theorem yh{f:V->Rho->Res}{ρ0:Rho}{x v:V}{xs:List V}(h:f x ρ=(true, .ret v)):dc f ρ0 (x::xs) ρ=(true, .ret v):=by
 rw[iP,h]
theorem pP{t:Rho->R}{f:Rho->Res}{ρ1:Rho}{v:V}{r:Res}(ht:t ρ=(true,v))(hv:ad v=(true,true))(h:f ρ=(true, .next ρ1))(h2:cS t f n ρ1=r):cS t f (n+1) ρ=r:=by
 rw[kP,ht,show ad ((true,v):R).2=_ from hv,h];subst h2;rfl
theorem rY{t:Rho->R}{f:Rho->Res}{v:V}(ht:t ρ=(true,v))(hv:ad v=(true,false)):cS t f (n+1) ρ=(true, .next ρ):=by
 rw[kP,ht,show ad ((true,v):R).2=_ from hv];rfl
variable {N:Nat} {v x y z:V}
theorem cw{E:Expr->R}{e:Expr}(h:E e=(true,v)):ip E (some e)=(true,v):=h
theorem aN{o:Expr}{lo hi stp:Option Expr}{p q:Pos}{a b c:V}(ho:ev Φ τ N κ ρ o=(true,x))(hl:ip (ev Φ τ N κ ρ) lo=(true,a))(hh:ip (ev Φ τ N κ ρ) hi=(true,b))(hs:ip (ev Φ τ N κ ρ) stp=(true,c))(hr:eO x a b c=(true,v)):
 ev Φ τ (N+1) κ ρ (.Subscript o (.Slice lo hi stp p) q)=(true,v):=by
 show(let x:=ev Φ τ N κ ρ o;let a:=ip (ev Φ τ N κ ρ) lo;let b:=ip (ev Φ τ N κ ρ) hi;let c:=ip (ev Φ τ N κ ρ) stp;let r:=eO x.2 a.2 b.2 c.2;((x.1&&a.1&&b.1&&c.1&&r.1,r.2):R))=_;simp only[ho,hl,hh,hs,hr,bZ]
noncomputable def Ix(τ:Tau)(o:Expr):Nat:=match o with
 | .Name x _=>GH τ (nm x)
 |_=>0
noncomputable def vt:Expr->Bool
 | .Slice _ _ _ _=>true
 |_=>false
theorem zf{E:Ev}{τ:Tau}{o i:Expr}(h:vt i=false):xK E τ κ ρ o i=oC E τ κ ρ o i:=by
 induction i using Expr.casesOn<;>first|rfl|exact aa h.symm
theorem bf{o i:Expr}{q:Pos}{ty:Nat}(hi:vt i=false)(ho:look κ ρ (ev Φ τ N κ ρ) o=(true,x))(hy:ev Φ τ N κ ρ i=(true,y))(ht:Ix τ o=ty)(hr:kM ty x y=(true,v)):
 ev Φ τ (N+1) κ ρ (.Subscript o i q)=(true,v):=by
 have e:ev Φ τ (N+1) κ ρ (.Subscript o i q)=oC (ev Φ τ N) τ κ ρ o i:=zf hi;rw[e];subst ht;show(let x:=look κ ρ (ev Φ τ N κ ρ) o;let y:=ev Φ τ N κ ρ i;let r:=kM (Ix τ o) x.2 y.2;((x.1&&y.1&&r.1,r.2):R))=_;simp only[ho,hy,hr,bZ]
theorem ja{a:Str}{l:List V}{p:Pos}{E:Expr->R}(h:lk ρ (nm a) = .own l)(hn:ag (kd κ (nm a))=true):look κ ρ E (.Name a p)=(true, .list l):=by
 show ut _ _ (lk ρ (nm a))=_;rw[h,hn];rfl
theorem aZ{a:Str}{p:Pos}{E:Expr->R}(h:E (.Name a p)=(true,v))(hn:∀l,lk ρ (nm a) ≠ .own l):look κ ρ E (.Name a p)=(true,v):=by
 show ut _ _ (lk ρ (nm a))=_;generalize lk ρ (nm a)=t at hn
 induction t using Mine.Slot.casesOn with
 |own l=>exact absurd rfl (hn l)
 |_=>exact h
theorem aI{e:Expr}{E:Expr->R}(he:d6 e=false)(h:E e=(true,v)):look κ ρ E e=(true,v):=by
 exact(uH he).trans h
theorem cV{a b:Expr}{p:Pos}(ha:look κ ρ (ev Φ τ N κ ρ) a=(true,x))(hb:ev Φ τ N κ ρ b=(true,y))(hr:dv .Add x y=(true,v))(ux:unh x=x:=by rfl)(uy:unh y=y:=by rfl):ev Φ τ (N+1) κ ρ (.BinOp a .Add b p)=(true,v):=by
 show(let x:=look κ ρ (ev Φ τ N κ ρ) a;let y:=ev Φ τ N κ ρ b;let r:=dv .Add (unh x.2) (unh y.2);((x.1&&y.1&&r.1,r.2):R))=_;simp only[ha,hb,ux,uy,hr,bZ]
theorem et{a b:Expr}{op:Operator}{p:Pos}(hop:op ≠ .Add)(ha:ev Φ τ N κ ρ a=(true,x))(hb:ev Φ τ N κ ρ b=(true,y))(hr:dv op x y=(true,v))(ux:unh x=x:=by rfl)(uy:unh y=y:=by rfl):ev Φ τ (N+1) κ ρ (.BinOp a op b p)=(true,v):=by
 show qU (ev Φ τ N) κ ρ a op b=_;unfold qU
 induction op using Operator.casesOn<;>first|exact absurd rfl hop|simp only[ha,hb,ux,uy,hr,bZ]
theorem bH{a b:Expr}{op:CmpOp}{p:Pos}{c:Bool}(hop:op ≠ .In)(ha:ev Φ τ N κ ρ a=(true,x))(hb:ev Φ τ N κ ρ b=(true,y))(hr:gQ op x y=(true,c))(ux:unh x=x:=by rfl)(uy:unh y=y:=by rfl):ev Φ τ (N+1) κ ρ (.Compare a [op] [b] p)=(true, .bool c):=by
 show f8 (ev Φ τ N κ ρ) a op b=_;unfold f8;simp only[ha,hb,ux,uy,hr,bZ]
theorem fB{es:List Expr}{p:Pos}(h:gI (ev Φ τ N κ ρ) es=(true,v)):ev Φ τ (N+1) κ ρ (.BoolOp .And es p)=(true,v):=h
theorem gw{es:List Expr}{p:Pos}(h:qx (ev Φ τ N κ ρ) es=(true,v)):ev Φ τ (N+1) κ ρ (.BoolOp .Or es p)=(true,v):=h
theorem lz{E:Expr->R}{e:Expr}{r:R}(h:E e=r):gI E [e]=r:=h
theorem fL{E:Expr->R}{e e':Expr}{es:List Expr}{r:R}(h:E e=(true,x))(hv:ad x=(true,true))(h2:gI E (e'::es)=r):gI E (e::e'::es)=r:=by
 show(let x:=E e;let c:=ad x.2;let r:=gI E (e'::es);((x.1&&c.1&&(bif c.2 then r.1 else true),eM c.2 r.2 x.2):R))=r;simp only[h,hv,h2,cH,cond_true,bZ,Bool.true_and]
theorem gX{E:Expr->R}{e e':Expr}{es:List Expr}(h:E e=(true,x))(hv:ad x=(true,false)):gI E (e::e'::es)=(true,x):=by
 show(let x:=E e;let c:=ad x.2;let r:=gI E (e'::es);((x.1&&c.1&&(bif c.2 then r.1 else true),eM c.2 r.2 x.2):R))=_;simp only[h,hv,cH,cond_false,bZ]
theorem tL{E:Expr->R}{e:Expr}{r:R}(h:E e=r):qx E [e]=r:=h
theorem yi{E:Expr->R}{e e':Expr}{es:List Expr}{r:R}(h:E e=(true,x))(hv:ad x=(true,false))(h2:qx E (e'::es)=r):qx E (e::e'::es)=r:=by
 show(let x:=E e;let c:=ad x.2;let r:=qx E (e'::es);((x.1&&c.1&&(bif c.2 then true else r.1),eM c.2 x.2 r.2):R))=r;simp only[h,hv,h2,cH,cond_false,bZ,Bool.true_and]
theorem nV{E:Expr->R}{e e':Expr}{es:List Expr}(h:E e=(true,x))(hv:ad x=(true,true)):qx E (e::e'::es)=(true,x):=by
 show(let x:=E e;let c:=ad x.2;let r:=qx E (e'::es);((x.1&&c.1&&(bif c.2 then true else r.1),eM c.2 x.2 r.2):R))=_;simp only[h,hv,cH,cond_true,bZ]
theorem mq{a:Expr}{p:Pos}{c:Bool}(h:ev Φ τ N κ ρ a=(true,x))(hv:ad x=(true,c)):ev Φ τ (N+1) κ ρ (.UnaryOp .Not a p)=(true, .bool (!c)):=by
 show(let x:=ev Φ τ N κ ρ a;let r:=HC .Not x.2;((x.1&&r.1,r.2):R))=_;rw[h];show((true&&(ad x).1,V.bool (!(ad x).2)):R)=_;rw[hv];rfl
theorem vu{t a b:Expr}{p:Pos}{c:Bool}(ht:ev Φ τ N κ ρ t=(true,x))(hv:ad x=(true,c))(h:ev Φ τ N κ ρ (bif c then a else b)=(true,v))(hu:unh v=v:=by rfl):ev Φ τ (N+1) κ ρ (.IfExp t a b p)=(true,v):=by
 show nE (ev Φ τ N κ ρ) t a b=_;unfold nE;simp only[ht,hv,cH]
 induction c using Bool.casesOn<;>simp only[cond_true,cond_false,bZ,Bool.true_and]at h |- <;> rw[h,hu]
theorem aA{E:Expr->R}:fO E []=(true,[]):=rfl
theorem ao{E:Expr->R}{e:Expr}{es:List Expr}{vs:List V}(h:E e=(true,x))(h2:fO E es=(true,vs)):fO E (e::es)=(true,x::vs):=by
 rw[GC,h,h2];rfl
theorem lA{es:List Expr}{k:Nat}{p:Pos}{vs:List V}(h:fO (ev Φ τ N κ ρ) es=(true,vs))(hl:vs.length<=cap):ev Φ τ (N+1) κ ρ (.Tuple es k p)=(true, .tup vs):=by
 show((l0 (fO (ev Φ τ N κ ρ) es), .tup (fO (ev Φ τ N κ ρ) es).2):R)=_;unfold l0;rw[h];simp[hl]
theorem bX{f:Str}{as:List Expr}{p q:Pos}{vs:List V}(h1:ab (nm f) (nm "len")=false)(h2:ab (nm f) (nm "list")=false)(hg:ay (kd κ (nm f))=true)(ha:fO (ev Φ τ N κ ρ) as=(true,vs))(hr:mP Φ (nm f) vs=(true,v))(um:vs.map unh=vs:=by rfl):ev Φ τ (N+1) κ ρ (.Call (.Name f p) as [] q)=(true,v):=by
 have e:ev Φ τ (N+1) κ ρ (.Call (.Name f p) as [] q)=gq Φ (ev Φ τ N κ ρ) κ (nm f) as:=by
  show lZ Φ (ev Φ τ N) κ ρ (.Name f p) as q=_;show(bif ab (nm f) (nm "len")then _ else nN (bif ab (nm f) (nm "list")then kN as else none) _ _)=_;rw[h1,h2];rfl
 rw[e];unfold gq;simp only[hg,ha,um,hr,bZ]
theorem dq{a:Expr}{p q:Pos}(hg:ay (kd κ (nm "len"))=true)(ha:look κ ρ (ev Φ τ N κ ρ) a=(true,x))(hr:qC x=(true,v)):ev Φ τ (N+1) κ ρ (.Call (.Name "len" p) [a] [] q)=(true,v):=by
 have e:ev Φ τ (N+1) κ ρ (.Call (.Name "len" p) [a] [] q)=qV (ev Φ τ N) κ ρ (nm "len") a:=rfl;rw[e];unfold qV;simp only[hg,ha,hr,bZ]
theorem tM{bs:List Expr}{p p' q q':Pos}{vs ws:List V}(hg:ay (kd κ (nm "list"))=true)(hg2:ay (kd κ (nm "range"))=true)(ha:fO (ev Φ τ N κ ρ) bs=(true,vs))(hr:gJ vs=(true,ws)):ev Φ τ (N+1) κ ρ (.Call (.Name "list" p) [.Call (.Name "range" p') bs [] q'] [] q)=(true, .list ws):=by
 have e:ev Φ τ (N+1) κ ρ (.Call (.Name "list" p) [.Call (.Name "range" p') bs [] q'] [] q)=cL (ev Φ τ N κ ρ) κ (nm "list") (nm "range") bs:=rfl;rw[e];unfold cL;simp only[hg,hg2,ha,hr,bZ]
theorem fe{o:Expr}{m:Str}{as:List Expr}{p q:Pos}{vs:List V}(hp:(p.endLine==q.line)=true)(hl:as.length<30)(hs:dT o=true)(ho:ev Φ τ N κ ρ o=(true,x))(ha:fO (ev Φ τ N κ ρ) as=(true,vs))(hr:fP Φ (nm m) x vs=(true,v))(ux:unh x=x:=by rfl)(um:vs.map unh=vs:=by rfl)(hm:ab (nm m) (nm "replace")=false:=by kernel_rfl):ev Φ τ (N+1) κ ρ (.Call (.Attribute o m p) as [] q)=(true,v):=by
 show(bif p.endLine==q.line&&decide (as.length<30)then(bif ab (nm m) (nm "replace")then _ else f9 Φ (ev Φ τ N κ ρ) o (nm m) as)else bad)=_;rw[hp,ai hl,hm];show f9 Φ (ev Φ τ N κ ρ) o (nm m) as=_;unfold f9;simp only[ho,ha,ux,um,hr,hs,bZ]
theorem Bl{o:Expr}{a:Str}{p:Pos}(hs:dT o=true)(ho:ev Φ τ N κ ρ o=(true,x))(hr:El (nm a) x=(true,v)):ev Φ τ (N+1) κ ρ (.Attribute o a p)=(true,v):=by
 show ju (ev Φ τ N κ ρ) o (nm a)=_;unfold ju;simp only[ho,hr,hs,bZ]
theorem Dw{elt t it:Expr}{ifs:List Expr}{scope:Scope}{p:Pos}{xs ys:List V}(h1:fR κ scope=true)(h2:qD scope.names t=true)(hi:ci κ (ev Φ τ N κ ρ) t it=(true,xs))(hc:bD (gp (ev Φ τ N) elt t ifs scope (cK scope ρ)) xs=(true,ys))(hl:xs.length<=cap):
 ev Φ τ (N+1) κ ρ (.ListComp elt [⟨t,it,ifs,0⟩] scope p)=(true, .list ys):=by
 show(let xs:=ci κ (ev Φ τ N κ ρ) t it;let r:=bD (gp (ev Φ τ N) elt t ifs scope (cK scope ρ)) xs.2;((fR κ scope&&qD scope.names t&&xs.1&&r.1&&decide (xs.2.length<=cap), .list r.2):R))=_;simp only[h1,h2,hi,hc,ai hl,bZ]
theorem tN{E:Expr->R}{x:Str}{p:Pos}{e:Expr}(h:E e=(true,v))(hn:ag (kd κ (nm x))=true):gR E κ μ ρ [.Name x p] e=(true, .next (put ρ (nm x) (iO μ (nm x) e v))):=by
 show(let v:=E e;((v.1&&ag (kd κ (nm x)), .next (put ρ (nm x) (iO μ (nm x) e v.2))):Res))=_;simp only[h,hn,bZ]
theorem cG{x:Str}{e:Expr}{q:Pos}(h:ev Φ τ 40 κ (freeze (bd 40 e) ρ) e=(true,v))(hn:ag (kd κ (nm x))=true)(hρ:put (freeze (bd 40 e) ρ) (nm x) (iO μ (nm x) e v)=ρ')(h2:ex Φ τ μ W κ n rest ρ'=res):ex Φ τ μ W κ (n+1) (.Assign [.Name x p] e q::rest) ρ=res:=
 fz (by rw[tN h hn,hρ]) h2
theorem bE{s:List Nat}{k:Nat}(hs:s.length<=cap):eO (.str s) (.int (k:Int)) .none .none=(true, .str (s.drop k)):=by
 show((decide (s.length<=cap),V.str (mM s (some (k:Int)) none)):R)=_;rw[ai hs]
 congr 2
 unfold mM bound;dsimp only;rw[show decide ((k:Int)<0)=false by simp];simp only[cond_false,Int.toNat_natCast]
 by_cases h:k<=s.length
 ·rw[show Nat.min k s.length=k from Nat.min_eq_left h];exact gE (by simp)
 ·rw[show Nat.min k s.length=s.length from Nat.min_eq_right ⋯,ft (aq _),ft ⋯];simp
theorem vw{s:List Nat}{k:Nat}(hs:s.length<=cap):eO (.str s) .none (.int (k:Int)) .none=(true, .str (s.take k)):=by
 show((decide (s.length<=cap),V.str (mM s none (some (k:Int)))):R)=_;rw[ai hs]
 congr 2
 unfold mM bound;dsimp only;rw[show decide ((k:Int)<0)=false by simp];simp only[cond_false,Int.toNat_natCast,List.drop_zero,Nat.sub_zero]
 by_cases h:k<=s.length
 ·rw[show Nat.min k s.length=k from Nat.min_eq_left h]
 ·rw[show Nat.min k s.length=s.length from Nat.min_eq_right ⋯,gE (aq _),gE ⋯]
theorem zg{s:List Nat}(hs:s.length<=cap):eO (.str s) .none .none .none=(true, .str s):=by
 show((decide (s.length<=cap),V.str (mM s none none)):R)=_;rw[ai hs]
 congr 2
 unfold mM;simp
theorem xc{s:List Nat}{k:Nat}(hs:s.length<=cap)(h0:0<k)(hk:k<=s.length):eO (.str s) .none (.int (-(k:Int))) .none=(true, .str (s.take (s.length-k))):=by
 show((decide (s.length<=cap),V.str (mM s none (some (-(k:Int))))):R)=_;rw[ai hs]
 congr 2
 unfold mM bound;dsimp only;rw[show decide (-(k:Int)<0)=true from ai ⋯];simp only[cond_true,List.drop_zero,Nat.sub_zero]
 congr 1
 omega
theorem gx{s:List Nat}{k:Nat}{ty:Nat}(hs:s.length<=cap)(hk:k<s.length):kM ty (.str s) (.int (k:Int))=(true, .str [s.getD k 0]):=by
 show((bP s.length (k:Int)&&decide (s.length<=cap),V.str [s.getD (place s.length (k:Int)) 0]):R)=_;rw[ai hs];unfold bP place;rw[show decide ((k:Int)<0)=false by simp];simp only[cond_false,Int.toNat_natCast];rw[show decide (-(s.length:Int)<=(k:Int))=true from ai ⋯,show decide ((k:Int)<(s.length:Int))=true from ai ⋯]
 rfl
theorem jb{s:List Nat}{k:Nat}{ty:Nat}(hs:s.length<=cap)(h0:0<k)(hk:k<=s.length):kM ty (.str s) (.int (-(k:Int)))=(true, .str [s.getD (s.length-k) 0]):=by
 show((bP s.length (-(k:Int))&&decide (s.length<=cap),V.str [s.getD (place s.length (-(k:Int))) 0]):R)=_;rw[ai hs];unfold bP place;rw[show decide (-(k:Int)<0)=true from ai ⋯];simp only[cond_true];rw[show decide (-(s.length:Int) <= -(k:Int))=true from ai ⋯,show decide (-(k:Int)<(s.length:Int))=true from ai ⋯,show(-(k:Int)+(s.length:Int)).toNat=s.length-k by omega]
 rfl
theorem sub_int{l:List V}{k:Nat}{i:Int}(hs:l.length<=cap)(hk:k<l.length)(hi:l.getD k .none = .int i):kM 1 (.list l) (.int (k:Int))=(true, .int i):=by
 show((bP l.length (k:Int)&&decide (l.length<=cap)&&xE (l.getD (place l.length (k:Int)) .none),V.int (n9 (l.getD (place l.length (k:Int)) .none))):R)=_;rw[ai hs];unfold bP place;rw[show decide ((k:Int)<0)=false by simp];simp only[cond_false,Int.toNat_natCast];rw[show decide (-(l.length:Int)<=(k:Int))=true from ai ⋯,show decide ((k:Int)<(l.length:Int))=true from ai ⋯,hi]
 rfl
theorem tO{t:Expr}{b:List Stmt}{ρ0:Rho}(Inv:Nat->Rho)(val:Nat->V):∀(k i:Nat),(∀j,i<=j->j<i+k->∃ρ1 ρ2,bU t (val j) (Inv j)=(true,ρ1)/\ex Φ τ μ W κ n b ρ1=(true, .next ρ2)/\mask ρ0 ρ2=Inv (j+1)) ->
 dc (λv ρ=>((bU t v ρ).1&&(ex Φ τ μ W κ n b (bU t v ρ).2).1,(ex Φ τ μ W κ n b (bU t v ρ).2).2)) ρ0 ((List.range' i k).map val) (Inv i)=(true, .next (Inv (i+k)))
 |0,i,_=>rfl
 |k+1,i,h=>by
  obtain⟨ρ1,ρ2,h1,h2,h3⟩:=h i (aq _) ⋯;rw[List.range'_succ,aC];refine fc (ρ1:=ρ2) ?_ ?_
  ·show((bU t (val i) (Inv i)).1&&(ex Φ τ μ W κ n b (bU t (val i) (Inv i)).2).1,(ex Φ τ μ W κ n b (bU t (val i) (Inv i)).2).2)=_
   rw[h1];dsimp only;rw[h2];rfl
  ·rw[h3,show i+(k+1)=i+1+k by omega]
   exact tO Inv val k (i+1) λj hj hj2=>h j ⋯ ⋯
theorem ie{t:Expr}{b:List Stmt}{ρ1:Rho}{o:gm}(h1:bU t v ρ=(true,ρ1))(h2:ex Φ τ μ W κ n b ρ1=(true,o)):((bU t v ρ).1&&(ex Φ τ μ W κ n b (bU t v ρ).2).1,(ex Φ τ μ W κ n b (bU t v ρ).2).2)=((true,o):Res):=by
 rw[h1];dsimp only;rw[h2];rfl
theorem pQ:∀(n a:Nat),hJ (a:Int) 1 n=(List.range' a n).map λi:Nat=>(i:Int)
 |0,a=>rfl
 |n+1,a=>by
  rw[List.range'_succ,aC,iK,<-pQ n (a+1)]
  congr 1
theorem ig{k:Nat}(h:k<=10000):gJ [.int (k:Int)]=(true,(List.range' 0 k).map λi:Nat => .int (i:Int)):=by
 have hs:Builtin.Range.rangeSize 0 (k:Int) 1=k:=by
  unfold Builtin.Range.rangeSize;simp
  omega
 have h1:d5 0 (k:Int) 1=true:=by
  have fl:∀i:Int, -2<=i->i<=20000->Builtin.Range.rangeFitsLong i=true:=λi a b=>by
   unfold Builtin.Range.rangeFitsLong;simp
   omega
  unfold d5 Builtin.Range.small;rw[hs,fl 0 ⋯ ⋯,fl k ⋯ ⋯,fl 1 ⋯ ⋯,if_pos nofun,fl (k+(1-1)) ⋯ ⋯,ai (show(k:Int)<=10000 by omega)];simp
 show((d5 0 (k:Int) 1,(fv 0 (k:Int) 1).map V.int):Bool×List V)=_;rw[h1];unfold fv;rw[hs];have:=pQ k 0;simp only[Int.toNat_natCast];rw[show((0:Nat):Int)=0 from rfl]at this;rw[this,dQ];rfl
theorem Fv{x y:Str}{e:Expr}{p' q:Pos}(h:ev Φ τ 40 κ (freeze (bd 40 e) ρ) e=(true,v))(hx:ag (kd κ (nm x))=true)(hy:ag (kd κ (nm y))=true)(hρ:put (put (freeze (bd 40 e) ρ) (nm x) (.val v)) (nm y) (.val v)=ρ')(h2:ex Φ τ μ W κ n rest ρ'=res):
 ex Φ τ μ W κ (n+1) (.Assign [.Name x p, .Name y p'] e q::rest) ρ=res:=by
 refine fz (ρ':=ρ') ?_ h2;show(let v:=ev Φ τ 40 κ (freeze (bd 40 e) ρ) e;(((v.1&&true&&([nm x,nm y].all λx=>ag (kd κ x))), .next (put (put (freeze (bd 40 e) ρ) (nm x) (.val v.2)) (nm y) (.val v.2))):Res))=_;simp only[h,List.all_cons,hx,hy,List.all_nil,bZ,hρ]
theorem pR {x:Str} {i e:Expr} {p' q:Pos} {l:List V} {j:Nat} (hl:lk (freeze (bd 40 e) ρ) (nm x) = .own l) (hi:ev Φ τ 40 κ (freeze (bd 40 e) ρ) i=(true, .int (j:Int))) (h:ev Φ τ 40 κ (freeze (bd 40 e) ρ) e=(true,v)) (hx:ag (kd κ (nm x))=true) (hj:j<l.length) (hc:l.length<=cap)
 (hρ:put (freeze (bd 40 e) ρ) (nm x) (.own (kO l j v))=ρ') (h2:ex Φ τ μ W κ n rest ρ'=res):ex Φ τ μ W κ (n+1) (.Assign [.Subscript (.Name x p) i p'] e q::rest) ρ=res:=by
 refine fz (ρ':=ρ') ?_ h2;show CF (ag (kd κ (nm x))) (freeze (bd 40 e) ρ) (nm x) (ev Φ τ 40 κ (freeze (bd 40 e) ρ) i) (ev Φ τ 40 κ (freeze (bd 40 e) ρ) e) (lk (freeze (bd 40 e) ρ) (nm x))=_;rw[hl,hi,h,hx];show(true&&(true&&true)&&(decide (0<=(j:Int))&&decide ((j:Int)<(l.length:Int))&&decide (l.length<=cap)),gm.next (put (freeze (bd 40 e) ρ) (nm x) (.own (kO l (j:Int).toNat v))))=(true,gm.next ρ');rw[ai hc,ai (Int.natCast_nonneg j),ai (Int.ofNat_lt.mpr hj),Int.toNat_natCast,hρ];rfl
theorem dU{f:Nm}{vs:List V}{r:R}(h:sO Φ.fn f=none)(hb:iM f vs=r):mP Φ f vs=r:=by
 unfold mP;rw[h];exact hb
theorem dW{f:Nm}{vs:List V}{r:R}{F:List V->R}(h:sO Φ.fn f=some F)(hb:F vs=r):mP Φ f vs=r:=by
 unfold mP;rw[h];exact hb
theorem pS{t:Expr}{as:List Expr}{p' q:Pos}{vs xs:List V}(hg:ay (kd κ (nm "range"))=true)(ht:d6 t=true)(ha:fO (ev Φ τ N κ ρ) as=(true,vs))(hr:gJ vs=(true,xs)):ci κ (ev Φ τ N κ ρ) t (.Call (.Name "range" p') as [] q)=(true,xs):=by
 show(let x:=fO (ev Φ τ N κ ρ) as;let r:=gJ x.2;((ay (kd κ (nm "range"))&&x.1&&r.1&&d6 t,r.2):Bool×List V))=_;simp only[hg,ht,ha,hr,bZ]
theorem dX{t e:Expr}{xs:List V}(he:ci κ (ev Φ τ N κ ρ) t e=mO κ (ev Φ τ N κ ρ) t e)(h:ev Φ τ N κ ρ e=(true,v))(hx:sQ v=(true,xs))(ht:d6 t=true\/(hV t=true/\Gn v=true)):ci κ (ev Φ τ N κ ρ) t e=(true,xs):=by
 rw[he];unfold mO;simp only[h,hx,bZ,Bool.true_and]
 rcases ht with h|⟨h1,h2⟩
 ·rw[h];rfl
 ·rw[h1,h2];simp
theorem pT:∀(n a:Nat),hJ ((a:Int)*2) 2 n=(List.range' a n).map λi:Nat=>(i:Int)*2
 |0,a=>rfl
 |n+1,a=>by
  rw[List.range'_succ,aC,iK,<-pT n (a+1)]
  congr 2
  omega
theorem xd{k:Nat}(h:k<=5000):gJ [.int 2, .int (2*((k:Int)+1)), .int 2]=(true,(List.range' 1 k).map λi:Nat => .int ((i:Int)*2)):=by
 have hs:Builtin.Range.rangeSize 2 (2*((k:Int)+1)) 2=k:=by
  unfold Builtin.Range.rangeSize;simp
  omega
 have fl:∀i:Int, -2<=i->i<=20000->Builtin.Range.rangeFitsLong i=true:=λi a b=>by
  unfold Builtin.Range.rangeFitsLong;simp
  omega
 have h1:d5 2 (2*((k:Int)+1)) 2=true:=by
  unfold d5 Builtin.Range.small;rw[hs,fl 2 ⋯ ⋯,fl (2*((k:Int)+1)) ⋯ ⋯,fl k ⋯ ⋯,if_pos nofun,fl (2*((k:Int)+1)+(2-1)) ⋯ ⋯,ai (show(k:Int)<=10000 by omega)];simp
 show((d5 2 (2*((k:Int)+1)) 2,(fv 2 (2*((k:Int)+1)) 2).map V.int):Bool×List V)=_;rw[h1];unfold fv;rw[hs];have:=pT k 1;simp only[Int.toNat_natCast];rw[show((1:Nat):Int)*2=2 from rfl]at this;rw[this,dQ];rfl
end
end
section
open PySem PySem.W PySem.Challenge
noncomputable abbrev PW:=pw_uk0028_01
noncomputable abbrev Iy:=b0 PW 4
noncomputable abbrev HG:=b0 PW 6
noncomputable abbrev Bm:=b0 PW 11
noncomputable abbrev gy:=iH PW 13 1
noncomputable abbrev Fw:=b0 PW 18
noncomputable abbrev ii:=b0 PW 19
noncomputable abbrev Bo:=b0 PW 21
noncomputable abbrev Bp:=b0 PW 22
noncomputable abbrev lC:=b0 PW 23
noncomputable abbrev rZ:=b0 PW 24
noncomputable abbrev zi:=b0 PW 25
noncomputable def GL:List (Nm×V):=[(nm "_MAX_STRING_SIZE", .int 40),(nm "_MOVE_COST", .int 2),(nm "_CASE_COST", .int 1),(nm "CRLF", .str [13,10]),(nm "Whitespace", .cls)]
theorem Bq{Φ:Fns}{τ:Tau}{W:Nat}{d:Def}{as:List V}{v:V}(h:ex Φ τ (a0 (hZ 20) d.body) W d.κ 200 d.body (dD d.κ (nF d.params as))=(true, .ret v))(hl:Nat.beq d.params.length as.length=true)(hp:uw d=true:=by kernel_rfl):dF Φ τ W d as=(true,v):=by
 unfold dF;rw[h];unfold kR;rw[hl,hp];rfl
section
variable {fn meth:List (Nm×(List V->R))} {τ:Tau} {W:Nat}
noncomputable def de(a b:Nat):Int:=bif ab [a] [b]then 0 else bif ab (cu [a]) (cu [b])then 1 else 2
theorem Dx(a b:Nat):dF ⟨GL,fn,meth⟩ τ W (fK ["ch_a","ch_b"] Fw) [.str [a], .str [b]]=(true, .int (de a b)):=by
 refine Bq ?_ rfl;refine gi (v := .bool (ab [a] [b])) (c:=ab [a] [b]) ∅ ∅ rfl ?_;unfold de;cases ab [a] [b]with
 |true=>exact fA ∅
 |false=>
  refine gi (v := .bool (ab (cu [a]) (cu [b]))) (c:=ab (cu [a]) (cu [b])) ∅ ∅ rfl ?_;cases ab (cu [a]) (cu [b])with
  |true=>exact fA ∅
  |false=>exact fA ∅
end
end
section
open PySem PySem.W PySem.Challenge
noncomputable def bn:List Nat->List Nat->Nat
 |x::a,y::b=>bif ab [x] [y]then bn a b+1 else 0
 |_,_=>0
structure LS where
 row:List Int
 dist:Int
 res:Int
 mn:Int
noncomputable def kn(c:Nat)(a:List Nat)(i:Nat)(s:LS):LS:=
 let d:=s.row.getD i 0;let idl:=(bif decide (d<s.res)then d else s.res)+2;let sub:=s.dist+de c (a.getD i 0);let r:=bif decide (sub<idl)then sub else idl
 ⟨s.row.set i r,d,r,bif decide (r<s.mn)then r else s.mn⟩
noncomputable def gz(c:Nat)(a:List Nat)(s:LS):Nat->LS
 |0=>s
 |k+1=>kn c a k (gz c a s k)
noncomputable def Ew:Int:=9223372036854775807
noncomputable def jc(a:List Nat)(m:Int):List Nat->Nat->List Int->Int->Int
 |[],_,_,res=>res
 |c::bs,j,row,res=>
  let s:=gz c a ⟨row,(j:Int)*2,(j:Int)*2,Ew⟩ a.length
  bif decide (m<s.mn)then m+1 else jc a m bs (j+1) s.row s.res
noncomputable def m9(a b:List Nat)(m:Int):Int:=
 bif decide (m<((b.length:Int)-a.length)*2)then m+1 else jc a m b 0 ((List.range' 1 a.length).map λi:Nat=>(i:Int)*2) 0
noncomputable def vy(a b:List Nat)(m:Int):Int:=
 bif a.isEmpty||b.isEmpty then 2*((a.length:Int)+b.length)
 else bif decide (40<a.length)||decide (40<b.length)then m+1
 else bif decide (b.length<a.length)then m9 b a m else m9 a b m
noncomputable def bI(a:List Nat)(q:Nat):List Nat:=a.take (a.length-q)
noncomputable def tP(a b:List Nat)(m:Int):Int:=
 bif ab a b then 0 else
 let k:=bn a b;let a1:=a.drop k;let b1:=b.drop k;let q:=bn a1.reverse b1.reverse
 vy (bI a1 q) (bI b1 q) m
section
variable {fn meth:List (Nm×(List V->R))}
noncomputable abbrev zj:List (Str×NameKind):=ii.scope.names
noncomputable abbrev xe:Tau:=[(nm "row",1)]
noncomputable def eL(a b m pre post row result bindex bchar distance minimum index substitute insdel:Mine.Slot):Rho:=
 [(nm "a",a),(nm "b",b),(nm "max_cost",m),(nm "pre",pre),(nm "post",post),(nm "row",row),(nm "result",result),(nm "bindex",bindex),(nm "bchar",bchar),(nm "distance",distance),(nm "minimum",minimum),(nm "index",index),(nm "substitute",substitute),(nm "insert_delete",insdel)]
noncomputable abbrev vS(x:List Nat):Mine.Slot := .val (.str x)
noncomputable abbrev vI(i:Int):Mine.Slot := .val (.int i)
theorem vz{row:List Int}{i:Nat}(h:i<row.length):(row.map V.int).getD i .none = .int (row.getD i 0):=by
 simp[cA,h]
theorem mr{t:Rho->R}{f:Rho->Res}(Inv:Nat->Rho):∀(k i n:Nat),(∀j,i<=j->j<i+k->(∃v,t (Inv j)=(true,v)/\ad v=(true,true))/\f (Inv j)=(true, .next (Inv (j+1))))->(∃v,t (Inv (i+k))=(true,v)/\ad v=(true,false))->k<n ->
 cS t f n (Inv i)=(true, .next (Inv (i+k)))
 |0,i,n,_,h,hn=>by
  obtain⟨v,h1,h2⟩:=h;obtain⟨n,rfl⟩:∃n',n=n'+1:=⟨n-1,⋯⟩;exact rY h1 h2
 |k+1,i,n,hs,h,hn=>by
  obtain⟨⟨v,h1,h2⟩,h3⟩:=hs i (aq _) ⋯;obtain⟨n,rfl⟩:∃n',n=n'+1:=⟨n-1,⋯⟩;refine pP h1 h2 h3 ?_;rw[show i+(k+1)=i+1+k by omega]at h |-;exact mr Inv k (i+1) n (λj hj hj2=>hs j ⋯ ⋯) h ⋯
theorem nX:∀(a b:List Nat) (j:Nat),j<bn a b->j<a.length/\j<b.length/\ab [a.getD j 0] [b.getD j 0]=true
 |[],b,j,h=>by induction b using List.casesOn<;>exact absurd h (Nat.not_lt_zero j)
 |x::a,[],j,h=>absurd h (Nat.not_lt_zero j)
 |x::a,y::b,j,h=>by
  have h':j<bif ab [x] [y]then bn a b+1 else 0:=h
  cases e:ab [x] [y]with
  |true=>
   rw[e]at h'
   induction j using Nat.casesOn with
   |zero=>exact⟨by simp,by simp,e⟩
   |succ j=>
    have h2:j<bn a b:=by simpa using h'
    obtain⟨i1,i2,i3⟩:=nX a b j h2;exact⟨by simp;omega,by simp;omega,by simpa using i3⟩
  |false=>rw[e]at h';exact absurd h' (Nat.not_lt_zero j)
theorem tQ:∀(a b:List Nat),bn a b<a.length->bn a b<b.length->ab [a.getD (bn a b) 0] [b.getD (bn a b) 0]=false
 |[],b,h,_=>absurd h (Nat.not_lt_zero _)
 |x::a,[],_,h=>absurd h (Nat.not_lt_zero _)
 |x::a,y::b,h1,h2=>by
  cases e:ab [x] [y]with
  |true=>
   have ep:bn (x::a) (y::b)=bn a b+1:=by show(bif ab [x] [y]then _ else _)=_;rw[e];rfl
   rw[ep]at h1 h2 |-;have:=tQ a b (by simpa using h1) (by simpa using h2)
   simpa using this
  |false=>
   have ep:bn (x::a) (y::b)=0:=by show(bif ab [x] [y]then _ else _)=_;rw[e];rfl
   rw[ep];exact e
theorem yj(a b:List Nat):bn a b<=a.length/\bn a b<=b.length:=by
 rcases Nat.eq_zero_or_pos (bn a b)with h|h
 ·omega
 ·have:=nX a b (bn a b-1) ⋯;omega
theorem truthy_str{s:List Nat}(h:s.length<=cap):ad (.str s)=(true, !s.isEmpty):=by
 show((decide (s.length<=cap), !s.isEmpty):Bool×Bool)=_;rw[ai h]
theorem gY{s:List Nat}{j:Nat}(h:j<s.length):(s.drop j).isEmpty=false:=by
 rw[List.isEmpty_eq_false_iff];intro e;rw[List.drop_eq_nil_iff]at e;omega
theorem jE{s:List Nat}{j:Nat}(h:s.length<=j):(s.drop j).isEmpty=true:=by
 rw[List.isEmpty_iff,List.drop_eq_nil_iff];exact h
structure vA(fn:List (Nm×(List V->R))):Prop where
 sub:∀x y,∃f,sO fn (nm "_substitution_cost")=some f/\f [.str [x], .str [y]]=(true, .int (de x y))
 mn:sO fn (nm "min")=none
theorem mu(c:Nat)(a:List Nat)(s:LS):∀k,(gz c a s k).row.length=s.row.length
 |0=>rfl
 |k+1=>by
  show(kn c a k (gz c a s k)).row.length=_;unfold kn;simp only[List.length_set];exact mu c a s k
theorem vB(row:List Int)(j:Nat)(x:Int):kO (row.map V.int) j (.int x)=(row.set j x).map V.int:=by
 unfold kO;rw[List.map_set]
noncomputable def tS(s:Option Stmt):List Stmt:=match s with
 |some (.For _ _ b _ _)=>b
 |_=>[]
noncomputable def fC(s:Option Stmt):Expr:=match s with
 |some (.For t _ _ _ _)=>t
 |_ => .Name "" default
noncomputable abbrev pU:List Stmt:=tS ii.body[15]?
noncomputable abbrev G8:List Stmt:=tS pU[3]?
noncomputable def eI(a b:List Nat)(m k p:Int)(j:Nat)(c:Nat)(s:LS):Rho:=eL (vS a) (vS b) (vI m) (vI k) (vI p) (.own (s.row.map .int)) (vI s.res) (vI j) (vS [c]) (vI s.dist) (vI s.mn) .un .un .un
theorem zk(hs:vA fn)(a b:List Nat)(m k p:Int)(j c:Nat)(s:LS)(ha:a.length<=500)(hr:s.row.length=a.length){μ:List Nm}:
 dc (λv ρ=>((bU (fC pU[3]?) v ρ).1&&(ex ⟨GL,fn,meth⟩ xe μ 1000 zj 180 G8 (bU (fC pU[3]?) v ρ).2).1,(ex ⟨GL,fn,meth⟩ xe μ 1000 zj 180 G8 (bU (fC pU[3]?) v ρ).2).2)) (eI a b m k p j c s)
  ((List.range' 0 a.length).map λi:Nat => .int (i:Int)) (eI a b m k p j c s)=(true, .next (eI a b m k p j c (gz c a s a.length))):=by
 have ca:a.length<=cap:=by unfold cap;omega
 refine(tO (λi=>eI a b m k p j c (gz c a s i)) (λi => .int (i:Int)) a.length 0 λi _ hi => ?_).trans (by rw[Nat.zero_add]);have hi':i<a.length:=⋯;have hrow:(gz c a s i).row.length=a.length:=by rw[mu,hr]
 show ∃ρ1 ρ2,_/\_/\mask (eI a b m k p j c s) ρ2=eI a b m k p j c (kn c a i (gz c a s i));generalize gz c a s i=u at hrow |-;obtain⟨f,hf1,hf2⟩:=hs.sub c (a.getD i 0);have hlen:(u.row.map V.int).length<=cap:=by rw[aW];omega
 have hlt:i<(u.row.map V.int).length:=by rw[aW];omega
 obtain⟨sub,hsub⟩:∃x,x=u.dist+de c (a.getD i 0):=⟨_,rfl⟩;obtain⟨d,hd⟩:∃x,x=u.row.getD i 0:=⟨_,rfl⟩;obtain⟨idl,hidl⟩:∃x,x=(bif decide (d<u.res)then d else u.res)+2:=⟨_,rfl⟩;obtain⟨r,hres⟩:∃x,x=bif decide (sub<idl)then sub else idl:=⟨_,rfl⟩
 have e:kn c a i u=⟨u.row.set i r,d,r,bif decide (r<u.mn)then r else u.mn⟩:=by rw[hres,hidl,hsub,hd];rfl
 rw[e];have e2:eI a b m k p j c ⟨u.row.set i r,d,r,bif decide (r<u.mn)then r else u.mn⟩=eL (vS a) (vS b) (vI m) (vI k) (vI p) (.own (kO (u.row.map .int) i (.int r))) (vI r) (vI j) (vS [c]) (vI d) (vI (bif decide (r<u.mn)then r else u.mn)) .un .un .un:=by
  rw[vB];rfl
 rw[e2];refine⟨eL (vS a) (vS b) (vI m) (vI k) (vI p) (.own (u.row.map .int)) (vI u.res) (vI j) (vS [c]) (vI u.dist) (vI u.mn) (vI i) .un .un,
  eL (vS a) (vS b) (vI m) (vI k) (vI p) (.own (kO (u.row.map .int) i (.int r))) (vI r) (vI j) (vS [c]) (vI d) (vI (bif decide (r<u.mn)then r else u.mn)) (vI i) (vI sub) (vI idl),∅, ?_,∅⟩
 refine cG (v := .int sub) (cV (x := .int u.dist) (aZ ∅ (λl h=>by injections h)) (bX ∅ ∅ ∅ (ao ∅ (ao (bf rfl (aZ ∅ (λl h=>by injections h)) ∅ (ty:=0) ∅ (gx ca hi')) aA)) (dW hf1 hf2)) (by rw[hsub];rfl)) ∅
  (ρ':=eL (vS a) (vS b) (vI m) (vI k) (vI p) (.own (u.row.map .int)) (vI u.res) (vI j) (vS [c]) (vI u.dist) (vI u.mn) (vI i) (vI sub) .un) ∅ ?_
 refine cG (v := .int d) (bf rfl (ja (l:=u.row.map .int) ∅ ∅) ∅ (ty:=1) ∅ (by rw[hd];exact sub_int hlen hlt (vz ⋯))) ∅
  (ρ':=eL (vS a) (vS b) (vI m) (vI k) (vI p) (.own (u.row.map .int)) (vI u.res) (vI j) (vS [c]) (vI d) (vI u.mn) (vI i) (vI sub) .un) ∅ ?_
 refine cG (v := .int idl) (cV (aI rfl (bX ∅ ∅ ∅ (ao (x := .int u.res) ∅ (ao (x := .int d) ∅ aA)) (dU hs.mn rfl))) (y := .int 2) ∅ (by rw[hidl];rfl)) ∅
  (ρ':=eL (vS a) (vS b) (vI m) (vI k) (vI p) (.own (u.row.map .int)) (vI u.res) (vI j) (vS [c]) (vI d) (vI u.mn) (vI i) (vI sub) (vI idl)) ∅ ?_
 refine cG (v := .int r) (bX ∅ ∅ ∅ (ao (x := .int idl) ∅ (ao (x := .int sub) ∅ aA)) (dU hs.mn (by rw[hres];rfl))) ∅
  (ρ':=eL (vS a) (vS b) (vI m) (vI k) (vI p) (.own (u.row.map .int)) (vI r) (vI j) (vS [c]) (vI d) (vI u.mn) (vI i) (vI sub) (vI idl)) ∅ ?_
 refine pR (l:=u.row.map .int) (j:=i) (v := .int r) ∅ ∅ ∅ ∅ hlt hlen
  (ρ':=eL (vS a) (vS b) (vI m) (vI k) (vI p) (.own (kO (u.row.map .int) i (.int r))) (vI r) (vI j) (vS [c]) (vI d) (vI u.mn) (vI i) (vI sub) (vI idl)) ∅ ?_
 exact nU (v := .bool (decide (r<u.mn))) (c:=decide (r<u.mn)) (ρa:=eL (vS a) (vS b) (vI m) (vI k) (vI p) (.own (kO (u.row.map .int) i (.int r))) (vI r) (vI j) (vS [c]) (vI d) (vI r) (vI i) (vI sub) (vI idl))
  (ρb:=eL (vS a) (vS b) (vI m) (vI k) (vI p) (.own (kO (u.row.map .int) i (.int r))) (vI r) (vI j) (vS [c]) (vI d) (vI u.mn) (vI i) (vI sub) (vI idl)) (fa:=true) (fb:=true) ∅ ∅ rfl ∅ ∅ (by simp) ∅
theorem r8(hs:vA fn)(a b:List Nat)(m k p:Int)(ha:a.length<=500)(hb:b.length<=500){μ:List Nm}{ρ0:Rho}(h0:∃row0 res0,ρ0=eL (vS a) (vS b) (vI m) (vI k) (vI p) (.own (List.map V.int row0)) (vI res0) .un .un .un .un .un .un .un):∀(bs:List Nat) (j:Nat) (row:List Int) (res:Int),b.drop j=bs->row.length=a.length ->
 (∃row',dc (λv ρ=>((bU (fC ii.body[15]?) v ρ).1&&(ex ⟨GL,fn,meth⟩ xe μ 1000 zj 184 pU (bU (fC ii.body[15]?) v ρ).2).1,(ex ⟨GL,fn,meth⟩ xe μ 1000 zj 184 pU (bU (fC ii.body[15]?) v ρ).2).2)) ρ0
   ((List.range' j bs.length).map λi:Nat => .int (i:Int)) (eL (vS a) (vS b) (vI m) (vI k) (vI p) (.own (row.map .int)) (vI res) .un .un .un .un .un .un .un)=(true, .next (eL (vS a) (vS b) (vI m) (vI k) (vI p) (.own (List.map V.int row')) (vI (jc a m bs j row res)) .un .un .un .un .un .un .un))) \/
 (dc (λv ρ=>((bU (fC ii.body[15]?) v ρ).1&&(ex ⟨GL,fn,meth⟩ xe μ 1000 zj 184 pU (bU (fC ii.body[15]?) v ρ).2).1,(ex ⟨GL,fn,meth⟩ xe μ 1000 zj 184 pU (bU (fC ii.body[15]?) v ρ).2).2)) ρ0
   ((List.range' j bs.length).map λi:Nat => .int (i:Int)) (eL (vS a) (vS b) (vI m) (vI k) (vI p) (.own (row.map .int)) (vI res) .un .un .un .un .un .un .un)=(true, .ret (.int (jc a m bs j row res))))
 |[],j,row,res,hd,hr => .inl ⟨row,rfl⟩
 |c::bs,j,row,res,hd,hr=>by
  have ca:a.length<=cap:=by unfold cap;omega
  have cb:b.length<=cap:=by unfold cap;omega
  have hj:j<b.length:=by
   rcases Nat.lt_or_ge j b.length with h|h
   ·exact h
   ·rw[ft h]at hd;injections hd
  have hc:b.getD j 0=c:=by
   have:=List.drop_eq_getElem_cons hj;rw[hd]at this
   injection this with h1 _
   rw[cA,gF hj,<-h1];rfl
  have hd':b.drop (j+1)=bs:=by
   have:=List.drop_eq_getElem_cons hj;rw[hd]at this
   injection this with _ h2
   exact h2.symm
  obtain⟨s,hsr⟩:∃s,s=gz c a ⟨row,(j:Int)*2,(j:Int)*2,Ew⟩ a.length:=⟨_,rfl⟩;have hlen:s.row.length=a.length:=by rw[hsr,mu,hr]
  have eo:jc a m (c::bs) j row res=bif decide (m<s.mn)then m+1 else jc a m bs (j+1) s.row s.res:=by rw[hsr];rfl
  have hmul:dv .Mult (.int (j:Int)) (.int 2)=(true, .int ((j:Int)*2)):=by
   show((small (j:Int)||small 2,V.int ((j:Int)*2)):R)=_;rw[show small 2=true from rfl,cC]
  have lena:qC (.str a)=(true, .int a.length):=by
   show((decide (a.length<=cap),V.int a.length):R)=_;rw[ai ca]
  have body:∀{res':Res},(bif decide (m<s.mn)then(true,gm.ret (.int (m+1)))else(true,gm.next (eL (vS a) (vS b) (vI m) (vI k) (vI p) (.own (s.row.map .int)) (vI s.res) (vI j) (vS [c]) (vI s.dist) (vI s.mn) .un .un .un)))=res' ->
   ex ⟨GL,fn,meth⟩ xe μ 1000 zj 184 pU (eL (vS a) (vS b) (vI m) (vI k) (vI p) (.own (row.map .int)) (vI res) (vI j) .un .un .un .un .un .un)=res':=by
   intro res' h;refine cG (v := .str [c]) (bf rfl (aZ ∅ (λl h=>by injections h)) ∅ (ty:=0) ∅ (by rw[<-hc];exact gx cb hj)) ∅
    (ρ':=eL (vS a) (vS b) (vI m) (vI k) (vI p) (.own (row.map .int)) (vI res) (vI j) (vS [c]) .un .un .un .un .un) ∅ ?_
   refine Fv (v := .int ((j:Int)*2)) (et nofun (x := .int (j:Int)) (y := .int 2) ∅ ∅ hmul) ∅ ∅
    (ρ':=eL (vS a) (vS b) (vI m) (vI k) (vI p) (.own (row.map .int)) (vI ((j:Int)*2)) (vI j) (vS [c]) (vI ((j:Int)*2)) .un .un .un .un) ∅ ?_
   refine cG (v := .int Ew) ∅ ∅ (ρ':=eI a b m k p j c ⟨row,(j:Int)*2,(j:Int)*2,Ew⟩) ∅ ?_;refine tK (ρ':=eI a b m k p j c s) (pS ∅ rfl (ao (dq ∅ (aZ ∅ (λl h=>by injections h)) lena) aA) (ig (k:=a.length) ⋯)) ∅ ?_ ?_
   ·rw[hsr]
    exact zk hs a b m k p j c ⟨row,(j:Int)*2,(j:Int)*2,Ew⟩ ha hr
   ·refine gi (v := .bool (decide (m<s.mn))) (c:=decide (m<s.mn)) ∅ ∅ rfl ?_
    rw[<-h];cases decide (m<s.mn)with
    |true=>exact fA ∅
    |false=>exact cF
  rw[eo];rw[aP,List.range'_succ,aC];cases hm:decide (m<s.mn)with
  |true=>
   refine .inr (yh (ie (ρ1:=eL (vS a) (vS b) (vI m) (vI k) (vI p) (.own (row.map .int)) (vI res) (vI j) .un .un .un .un .un .un) ∅ (body ?_)));rw[hm];rfl
  |false=>
   have nx:((bU (fC ii.body[15]?) (.int (j:Int)) (eL (vS a) (vS b) (vI m) (vI k) (vI p) (.own (row.map .int)) (vI res) .un .un .un .un .un .un .un)).1&&(ex ⟨GL,fn,meth⟩ xe μ 1000 zj 184 pU (bU (fC ii.body[15]?) (.int (j:Int)) (eL (vS a) (vS b) (vI m) (vI k) (vI p) (.own (row.map .int)) (vI res) .un .un .un .un .un .un .un)).2).1,
    (ex ⟨GL,fn,meth⟩ xe μ 1000 zj 184 pU (bU (fC ii.body[15]?) (.int (j:Int)) (eL (vS a) (vS b) (vI m) (vI k) (vI p) (.own (row.map .int)) (vI res) .un .un .un .un .un .un .un)).2).2)=((true,gm.next (eL (vS a) (vS b) (vI m) (vI k) (vI p) (.own (s.row.map .int)) (vI s.res) (vI j) (vS [c]) (vI s.dist) (vI s.mn) .un .un .un)):Res):=
    ie (ρ1:=eL (vS a) (vS b) (vI m) (vI k) (vI p) (.own (row.map .int)) (vI res) (vI j) .un .un .un .un .un .un) ∅ (body (by rw[hm];rfl))
   obtain⟨row0,res0,rfl⟩:=h0;have mk:mask (eL (vS a) (vS b) (vI m) (vI k) (vI p) (.own (List.map V.int row0)) (vI res0) .un .un .un .un .un .un .un) (eL (vS a) (vS b) (vI m) (vI k) (vI p) (.own (s.row.map .int)) (vI s.res) (vI j) (vS [c]) (vI s.dist) (vI s.mn) .un .un .un)=eL (vS a) (vS b) (vI m) (vI k) (vI p) (.own (s.row.map .int)) (vI s.res) .un .un .un .un .un .un .un:=∅
   rcases r8 hs a b m k p ha hb ⟨row0,res0,rfl⟩ bs (j+1) s.row s.res hd' hlen (μ:=μ)with⟨row',h⟩|h
   ·exact .inl ⟨row',fc nx (by rw[mk];exact h)⟩
   ·exact .inr (fc nx (by rw[mk];exact h))
theorem vC(hs:vA fn)(a b:List Nat)(m k p:Int)(ha:a.length<=500)(hb:b.length<=500)(hab:a.length<=b.length):
 ex ⟨GL,fn,meth⟩ xe (a0 (hZ 20) ii.body) 1000 zj 188 (ii.body.drop 12) (eL (vS a) (vS b) (vI m) (vI k) (vI p) .un .un .un .un .un .un .un .un .un)=(true, .ret (.int (m9 a b m))):=by
 have ca:a.length<=cap:=by unfold cap;omega
 have cb:b.length<=cap:=by unfold cap;omega
 have lenv:∀{x:List Nat},x.length<=cap->qC (.str x)=(true, .int x.length):=λ{x} h=>by
  show((decide (x.length<=cap),V.int x.length):R)=_;rw[ai h]
 have hmul:dv .Mult (.int ((b.length:Int)-a.length)) (.int 2)=(true, .int (((b.length:Int)-a.length)*2)):=by
  show((small _||small 2,V.int _):R)=_;rw[show small 2=true from rfl,cC]
 refine gi (v := .bool (decide (m<((b.length:Int)-a.length)*2))) (c:=decide (m<((b.length:Int)-a.length)*2)) ∅
  (bH nofun (et nofun (et nofun (dq ∅ (aZ ∅ (λl h=>by injections h)) (lenv cb)) (dq ∅ (aZ ∅ (λl h=>by injections h)) (lenv ca)) rfl) (y := .int 2) ∅ hmul) (y := .int m) ∅ rfl) rfl ?_
 unfold m9;cases decide (m<((b.length:Int)-a.length)*2)with
 |true=>exact fA ∅
 |false=>
  simp only[cond_false];have er:((List.range' 1 a.length).map λi:Nat=>V.int ((i:Int)*2))=((List.range' 1 a.length).map λi:Nat=>(i:Int)*2).map V.int:=by rw[dQ];rfl
  refine cG (v := .list ((List.range' 1 a.length).map λi:Nat=>V.int ((i:Int)*2))) (tM ∅ ∅ (ao (x := .int 2) ∅ (ao (x := .int (2*((a.length:Int)+1))) (et nofun (x := .int 2) ∅ (cV (aI rfl (dq ∅ (aZ ∅ (λl h=>by injections h)) (lenv ca))) (y := .int 1) ∅ rfl) rfl) (ao (x := .int 2) ∅ aA))) (xd ⋯)) ∅
   (ρ':=eL (vS a) (vS b) (vI m) (vI k) (vI p) (.own ((List.range' 1 a.length).map λi:Nat=>V.int ((i:Int)*2))) .un .un .un .un .un .un .un .un) ∅ ?_
  rw[er];generalize hr0:((List.range' 1 a.length).map λi:Nat=>(i:Int)*2)=row0;have hlen:row0.length=a.length:=by rw[<-hr0];simp
  refine cG (v := .int 0) ∅ ∅ (ρ':=eL (vS a) (vS b) (vI m) (vI k) (vI p) (.own (row0.map .int)) (vI 0) .un .un .un .un .un .un .un) ∅ ?_;have hi:=λ(N:Nat)=>ig (k:=b.length) ⋯
  rcases r8 hs a b m k p ha hb ⟨row0,0,rfl⟩ b 0 row0 0 rfl hlen (fn:=fn) (meth:=meth) (μ:=a0 (hZ 20) ii.body)with⟨row',h⟩|h
  ·refine tK (pS ∅ rfl (ao (dq ∅ (aZ ∅ (λl h=>by injections h)) (lenv cb)) aA) (ig ⋯)) ∅ h ?_
   exact fA ∅
  ·exact pO (pS ∅ rfl (ao (dq ∅ (aZ ∅ (λl h=>by injections h)) (lenv cb)) aA) (ig ⋯)) ∅ h
theorem Dy(hs:vA fn)(a b:List Nat)(m k p:Int)(ha:a.length<=500)(hb:b.length<=500):
 ex ⟨GL,fn,meth⟩ xe (a0 (hZ 20) ii.body) 1000 zj 191 (ii.body.drop 9) (eL (vS a) (vS b) (vI m) (vI k) (vI p) .un .un .un .un .un .un .un .un .un)=(true, .ret (.int (vy a b m))):=by
 have ca:a.length<=cap:=by unfold cap;omega
 have cb:b.length<=cap:=by unfold cap;omega
 have lenv:∀{x:List Nat},x.length<=cap->qC (.str x)=(true, .int x.length):=λ{x} h=>by
  show((decide (x.length<=cap),V.int x.length):R)=_;rw[ai h]
 refine gi (v := .bool (a.isEmpty||b.isEmpty)) (c:=a.isEmpty||b.isEmpty) ∅ ?_ rfl ?_
 ·refine gw ?_
  cases h:a.isEmpty with
  |true=>
   refine nV (mq (x := .str a) ∅ (truthy_str ca) |>.trans (by rw[h];try rfl)) rfl
  |false=>
   refine yi (mq (x := .str a) ∅ (truthy_str ca) |>.trans (by rw[h];try rfl)) rfl ?_;refine tL ?_;exact(mq (x := .str b) ∅ (truthy_str cb)).trans (by simp)
 unfold vy;cases hz:(a.isEmpty||b.isEmpty)with
 |true=>
  refine fA ?_;refine et nofun (x := .int 2) ∅ (cV (aI rfl (dq ∅ (aZ ∅ (λl h=>by injections h)) (lenv ca))) (dq ∅ (aZ ∅ (λl h=>by injections h)) (lenv cb)) rfl) ?_
  rfl
 |false=>
  simp only[cond_false];have gt:∀(x y:Int),gQ .Gt (.int x) (.int y)=(true,decide (y<x)):=λ_ _=>rfl
  refine gi (v := .bool (decide (40<a.length)||decide (40<b.length))) (c:=decide (40<a.length)||decide (40<b.length)) ∅ ?_ rfl ?_
  ·refine gw ?_
   have e1:∀n:Nat,decide ((40:Int)<(n:Int))=decide (40<n):=λn=>by
    by_cases h:40<n
    ·rw[ai h,ai ⋯]
    ·rw[bg h,bg ⋯]
   cases h:decide (40<a.length)with
   |true=>
    refine nV ((bH nofun (dq ∅ (aZ ∅ (λl h=>by injections h)) (lenv ca)) (y := .int 40) ∅ (gt _ _)).trans (by rw[e1,h];try rfl)) rfl
   |false=>
    refine yi ((bH nofun (dq ∅ (aZ ∅ (λl h=>by injections h)) (lenv ca)) (y := .int 40) ∅ (gt _ _)).trans (by rw[e1,h];try rfl)) rfl (tL ?_);exact(bH nofun (dq ∅ (aZ ∅ (λl h=>by injections h)) (lenv cb)) (y := .int 40) ∅ (gt _ _)).trans (by rw[e1];try rfl)
  cases hl:(decide (40<a.length)||decide (40<b.length))with
  |true=>exact fA ∅
  |false=>
   simp only[cond_false];have e2:decide ((b.length:Int)<(a.length:Int))=decide (b.length<a.length):=by
    by_cases h:b.length<a.length
    ·rw[ai h,ai ⋯]
    ·rw[bg h,bg ⋯]
   have hlt:∀{N:Nat},ev ⟨GL,fn,meth⟩ xe 39 zj (eL (vS a) (vS b) (vI m) (vI k) (vI p) .un .un .un .un .un .un .un .un .un) (.Name "a" default)=(true, .str a)->True:=λ_=>trivial
   refine nU (v := .bool (decide (b.length<a.length))) (c:=decide (b.length<a.length)) (ρa:=eL (vS b) (vS a) (vI m) (vI k) (vI p) .un .un .un .un .un .un .un .un .un) (ρb:=eL (vS a) (vS b) (vI m) (vI k) (vI p) .un .un .un .un .un .un .un .un .un) (fa:=true) (fb:=true) ∅
    ((bH nofun (dq ∅ (aZ ∅ (λl h=>by injections h)) (lenv cb)) (dq ∅ (aZ ∅ (λl h=>by injections h)) (lenv ca)) (c:=decide (b.length<a.length)) (by rw[<-e2];rfl)))
    rfl ∅ ∅ (by simp) ?_
   cases hc:decide (b.length<a.length)with
   |true=>exact vC hs b a m k p hb ha (by have:=aY hc;omega)
   |false=>exact vC hs a b m k p ha hb (by have:=of_decide_eq_false hc;omega)
theorem Dz(a b:List Nat)(m:Int)(ha:a.length<=500)(hb:b.length<=500)(hs:vA fn):
 dF ⟨GL,fn,meth⟩ xe 1000 (fK ["a","b","max_cost"] ii) [.str a, .str b, .int m]=(true, .int (tP a b m)):=by
 refine Bq ?_ rfl;show ex _ _ _ _ _ 200 _ (eL (vS a) (vS b) (vI m) .un .un .un .un .un .un .un .un .un .un .un)=_;refine gi (v := .bool (ab a b)) (c:=ab a b) ∅ ∅ rfl ?_;unfold tP;cases ab a b with
 |true=>exact fA ∅
 |false=>
  simp only[cond_false];refine cG (v := .int 0) ∅ ∅ (ρ':=eL (vS a) (vS b) (vI m) (vI 0) .un .un .un .un .un .un .un .un .un .un) ∅ ?_;have ca:a.length<=cap:=by unfold cap;omega
  have cb:b.length<=cap:=by unfold cap;omega
  have pl:=yj a b;refine pN (ρ':=eL (vS a) (vS b) (vI m) (vI (bn a b)) .un .un .un .un .un .un .un .un .un .un) ?_ ?_
  ·have dr:∀(s:List Nat) j,s.length<=cap->(s.drop j).length<=cap:=λs j h=>by rw[dj];omega
   refine Eq.trans (mr (λj=>eL (vS a) (vS b) (vI m) (vI j) .un .un .un .un .un .un .un .un .un .un) (bn a b) 0 1000 ?_ ?_ ⋯) (by rw[Nat.zero_add])
   ·intro j _ hj
    have hj':j<bn a b:=⋯;obtain⟨h1,h2,h3⟩:=nX a b j hj';refine⟨⟨.bool (ab [a.getD j 0] [b.getD j 0]), ?_,by rw[h3];rfl⟩, ?_⟩
    ·refine fB (fL (aN ∅ ∅ rfl rfl (bE ca)) (by rw[truthy_str (dr _ _ ca),gY h1];rfl) (fL (aN ∅ ∅ rfl rfl (bE cb)) (by rw[truthy_str (dr _ _ cb),gY h2];rfl)
      (lz (bH nofun (bf rfl (aZ ∅ (λl h=>by injections h)) ∅ (ty:=0) ∅ (gx ca h1)) (bf rfl (aZ ∅ (λl h=>by injections h)) ∅ (ty:=0) ∅ (gx cb h2)) rfl))))
    ·exact xa ∅ cF
   ·rw[Nat.zero_add]
    by_cases h1:bn a b<a.length
    ·by_cases h2:bn a b<b.length
     ·have h3:=tQ a b h1 h2
      refine⟨.bool (ab [a.getD (bn a b) 0] [b.getD (bn a b) 0]), ?_,by rw[h3];rfl⟩;refine fB (fL (aN ∅ ∅ rfl rfl (bE ca)) (by rw[truthy_str (dr _ _ ca),gY h1];rfl) (fL (aN ∅ ∅ rfl rfl (bE cb)) (by rw[truthy_str (dr _ _ cb),gY h2];rfl)
       (lz (bH nofun (bf rfl (aZ ∅ (λl h=>by injections h)) ∅ (ty:=0) ∅ (gx ca h1)) (bf rfl (aZ ∅ (λl h=>by injections h)) ∅ (ty:=0) ∅ (gx cb h2)) rfl))))
     ·refine⟨.str (b.drop (bn a b)), ?_,by rw[truthy_str (dr _ _ cb),jE ⋯];rfl⟩
      exact fB (fL (aN ∅ ∅ rfl rfl (bE ca)) (by rw[truthy_str (dr _ _ ca),gY h1];rfl) (gX (aN ∅ ∅ rfl rfl (bE cb)) (by rw[truthy_str (dr _ _ cb),jE ⋯];rfl)))
    ·refine⟨.str (a.drop (bn a b)), ?_,by rw[truthy_str (dr _ _ ca),jE ⋯];rfl⟩
     exact fB (gX (aN ∅ ∅ rfl rfl (bE ca)) (by rw[truthy_str (dr _ _ ca),jE ⋯];rfl))
  refine cG (v := .str (a.drop (bn a b))) (aN ∅ ∅ rfl rfl (bE ca)) ∅ (ρ':=eL (vS (a.drop (bn a b))) (vS b) (vI m) (vI (bn a b)) .un .un .un .un .un .un .un .un .un .un) ∅ ?_;refine cG (v := .str (b.drop (bn a b))) (aN ∅ ∅ rfl rfl (bE cb)) ∅ (ρ':=eL (vS (a.drop (bn a b))) (vS (b.drop (bn a b))) (vI m) (vI (bn a b)) .un .un .un .un .un .un .un .un .un .un) ∅ ?_;have ca1:(a.drop (bn a b)).length<=cap:=by rw[dj];omega
  have cb1:(b.drop (bn a b)).length<=cap:=by rw[dj];omega
  have ha1:(a.drop (bn a b)).length<=500:=by rw[dj];omega
  have hb1:(b.drop (bn a b)).length<=500:=by rw[dj];omega
  generalize (bn a b:Int)=k;generalize a.drop (bn a b)=a1 at *;generalize b.drop (bn a b)=b1 at *;refine cG (v := .int 0) ∅ ∅ (ρ':=eL (vS a1) (vS b1) (vI m) (vI k) (vI 0) .un .un .un .un .un .un .un .un .un) ∅ ?_;have pl1:=yj a1.reverse b1.reverse;rw[List.length_reverse,List.length_reverse]at pl1;have ce:∀(s:List Nat) j,s.length<=cap->(bI s j).length<=cap:=λs j h=>by unfold bI;rw[cR];omega
  have upto:∀(nme:Str) (s:List Nat) (ρ:Rho) (j:Nat),s.length<=cap->j<=s.length->ev ⟨GL,fn,meth⟩ xe 38 zj ρ (.Name nme default)=(true, .str s)->True:=λ_ _ _ _ _ _ _=>trivial
  have orv:∀(j:Nat) {E:Expr->R} {e1 e2:Expr},E e1=(true, .int (-(j:Int)))->E e2=(true, .none)->qx E [e1,e2]=(true,if j=0 then .none else .int (-(j:Int))):=λj {E e1 e2} h1 h2=>by
   by_cases h:j=0
   ·rw[if_pos h]
    exact yi h1 (by show((true, !decide (-(j:Int)=0)):Bool×Bool)=_;rw[h];rfl) (tL h2)
   ·rw[if_neg h]
    exact nV h1 (by show((true, !decide (-(j:Int)=0)):Bool×Bool)=_;rw[bg ⋯];rfl)
  have sl:∀(s:List Nat) (j:Nat),s.length<=cap->j<=s.length->eO (.str s) .none (if j=0 then .none else .int (-(j:Int))) .none=(true, .str (bI s j)):=λs j h hj=>by
   by_cases h0:j=0
   ·rw[if_pos h0,h0]
    have:bI s 0=s:=by unfold bI;simp
    rw[this];exact zg h
   ·rw[if_neg h0];exact xc h ⋯ hj
  have neg1:∀j:Nat,(-(j:Int)-1) = -((j+1:Nat):Int):=λj=>⋯
  have rg:∀(s:List Nat) (j:Nat),j<s.length->s.reverse.getD j 0=s.getD (s.length-(j+1)) 0:=λs j h=>by
   rw[cA,cA,List.getElem?_reverse h]
   congr 2
   omega
  have ne1:∀(s:List Nat) (j:Nat),j<s.length->(bI s j).isEmpty=false:=λs j h=>by
   rw[List.isEmpty_eq_false_iff];intro e;have:=congrArg List.length e;unfold bI at this;rw[cR]at this;simp at this;omega
  have em1:∀(s:List Nat) (j:Nat),s.length<=j->(bI s j).isEmpty=true:=λs j h=>by
   unfold bI;rw[show s.length-j=0 by omega];simp
  refine pN (ρ':=eL (vS a1) (vS b1) (vI m) (vI k) (vI (-(bn a1.reverse b1.reverse:Int))) .un .un .un .un .un .un .un .un .un) ?_ ?_
  ·refine Eq.trans (mr (λj=>eL (vS a1) (vS b1) (vI m) (vI k) (vI (-(j:Int))) .un .un .un .un .un .un .un .un .un) (bn a1.reverse b1.reverse) 0 1000 ?_ ?_ ⋯) (by rw[Nat.zero_add])
   ·intro j _ hj
    have hj':j<bn a1.reverse b1.reverse:=⋯;obtain⟨h1,h2,h3⟩:=nX _ _ j hj';rw[List.length_reverse]at h1 h2;rw[rg _ _ h1,rg _ _ h2]at h3;refine⟨⟨.bool (ab [a1.getD (a1.length-(j+1)) 0] [b1.getD (b1.length-(j+1)) 0]), ?_,by rw[h3];rfl⟩, ?_⟩
    ·refine fB (fL (aN ∅ rfl (cw (gw (orv j ∅ ∅))) rfl (sl a1 j ca1 ⋯)) (by rw[truthy_str (ce _ _ ca1),ne1 _ _ h1];rfl) (fL (aN ∅ rfl (cw (gw (orv j ∅ ∅))) rfl (sl b1 j cb1 ⋯)) (by rw[truthy_str (ce _ _ cb1),ne1 _ _ h2];rfl)
      (lz (bH nofun (bf rfl (aZ ∅ (λl h=>by injections h)) (Eq.trans (b:=(true, .int (-(j:Int)-1))) ∅ (by rw[neg1])) (ty:=0) ∅ (jb ca1 ⋯ ⋯))
        (bf rfl (aZ ∅ (λl h=>by injections h)) (Eq.trans (b:=(true, .int (-(j:Int)-1))) ∅ (by rw[neg1])) (ty:=0) ∅ (jb cb1 ⋯ ⋯)) rfl))))
    ·refine Eq.trans (xa (ρ':=eL (vS a1) (vS b1) (vI m) (vI k) (vI (-(j:Int)-1)) .un .un .un .un .un .un .un .un .un) ∅ cF) ?_
     rw[neg1]
   ·rw[Nat.zero_add]
    generalize hq:bn a1.reverse b1.reverse=q at *
    by_cases h1:q<a1.length
    ·by_cases h2:q<b1.length
     ·have h3:=tQ a1.reverse b1.reverse (by rw[hq,List.length_reverse];exact h1) (by rw[hq,List.length_reverse];exact h2)
      rw[hq,rg _ _ h1,rg _ _ h2]at h3;refine⟨.bool (ab [a1.getD (a1.length-(q+1)) 0] [b1.getD (b1.length-(q+1)) 0]), ?_,by rw[h3];rfl⟩;refine fB (fL (aN ∅ rfl (cw (gw (orv q ∅ ∅))) rfl (sl a1 q ca1 ⋯)) (by rw[truthy_str (ce _ _ ca1),ne1 _ _ h1];rfl) (fL (aN ∅ rfl (cw (gw (orv q ∅ ∅))) rfl (sl b1 q cb1 ⋯)) (by rw[truthy_str (ce _ _ cb1),ne1 _ _ h2];rfl)
       (lz (bH nofun (bf rfl (aZ ∅ (λl h=>by injections h)) (Eq.trans (b:=(true, .int (-(q:Int)-1))) ∅ (by rw[neg1])) (ty:=0) ∅ (jb ca1 ⋯ ⋯))
         (bf rfl (aZ ∅ (λl h=>by injections h)) (Eq.trans (b:=(true, .int (-(q:Int)-1))) ∅ (by rw[neg1])) (ty:=0) ∅ (jb cb1 ⋯ ⋯)) rfl))))
     ·refine⟨.str (bI b1 q), ?_,by rw[truthy_str (ce _ _ cb1),em1 _ _ ⋯];rfl⟩
      exact fB (fL (aN ∅ rfl (cw (gw (orv q ∅ ∅))) rfl (sl a1 q ca1 ⋯)) (by rw[truthy_str (ce _ _ ca1),ne1 _ _ h1];rfl) (gX (aN ∅ rfl (cw (gw (orv q ∅ ∅))) rfl (sl b1 q cb1 ⋯)) (by rw[truthy_str (ce _ _ cb1),em1 _ _ ⋯];rfl)))
    ·refine⟨.str (bI a1 q), ?_,by rw[truthy_str (ce _ _ ca1),em1 _ _ ⋯];rfl⟩
     exact fB (gX (aN ∅ rfl (cw (gw (orv q ∅ ∅))) rfl (sl a1 q ca1 ⋯)) (by rw[truthy_str (ce _ _ ca1),em1 _ _ ⋯];rfl))
  refine cG (v := .str (bI a1 (bn a1.reverse b1.reverse))) (aN ∅ rfl (cw (gw (orv _ ∅ ∅))) rfl (sl a1 _ ca1 ⋯)) ∅ (ρ':=eL (vS (bI a1 (bn a1.reverse b1.reverse))) (vS b1) (vI m) (vI k) (vI (-(bn a1.reverse b1.reverse:Int))) .un .un .un .un .un .un .un .un .un) ∅ ?_;refine cG (v := .str (bI b1 (bn a1.reverse b1.reverse))) (aN ∅ rfl (cw (gw (orv _ ∅ ∅))) rfl (sl b1 _ cb1 ⋯)) ∅ (ρ':=eL (vS (bI a1 (bn a1.reverse b1.reverse))) (vS (bI b1 (bn a1.reverse b1.reverse))) (vI m) (vI k) (vI (-(bn a1.reverse b1.reverse:Int))) .un .un .un .un .un .un .un .un .un) ∅ ?_;have la:(bI a1 (bn a1.reverse b1.reverse)).length<=500:=by unfold bI;rw[cR];omega
  have lb:(bI b1 (bn a1.reverse b1.reverse)).length<=500:=by unfold bI;rw[cR];omega
  show _=((true,gm.ret (.int (vy (bI a1 (bn a1.reverse b1.reverse)) (bI b1 (bn a1.reverse b1.reverse)) m))):Res);exact Dy hs _ _ m _ _ la lb
end
end
section
open PySem PySem.W PySem.Challenge
structure WS where
 n:Nat
 nt:Nat
 cnt:List Int
 b:Nat
noncomputable def nc(s:WS):WS:=
 let c:=bif decide (s.cnt.length<=s.b)then s.cnt++List.replicate (s.b+1-s.cnt.length) 0 else s.cnt
 ⟨s.n+1,s.nt+1,c.set s.b (c.getD s.b 0+1),0⟩
noncomputable def gL:List Nat->WS->WS
 |[],s=>s
 |c::l,s=>bif ab [c] [32]then gL l ⟨s.n+1,s.nt,s.cnt,s.b+1⟩else bif ab [c] [9]then gL l (nc s)else s
section
noncomputable abbrev DA:List (Str×NameKind):=gy.scope.names
noncomputable abbrev DB:Tau:=[(nm "count",1)]
noncomputable def vD:Fns:=⟨GL,[],[]⟩
noncomputable def eW(self ws S T count b n nt ch:Mine.Slot):Rho:=[(nm "self",self),(nm "ws",ws),(nm "S",S),(nm "T",T),(nm "count",count),(nm "b",b),(nm "n",n),(nm "nt",nt),(nm "ch",ch)]
noncomputable def ug(x:Nat)(raw:List Nat)(s:WS)(ch:Mine.Slot):Rho:=eW (.val (.obj x raw)) (vS raw) (vS [32]) (vS [9]) (.own (s.cnt.map .int)) (vI s.b) (vI s.n) (vI s.nt) ch
noncomputable abbrev Fx:List Stmt:=tS gy.body[4]?
noncomputable abbrev HH:Expr:=fC gy.body[4]?
theorem r9(k:Int):jG [V.int 0] k=(List.replicate k.toNat (0:Int)).map V.int:=by
 unfold jG
 induction k.toNat with
 |zero=>rfl
 |succ n ih=>rw[List.replicate_succ,List.flatten_cons,ih,List.replicate_succ];rfl
theorem Fy{μ:List Nm}(hμ:mI (nm "count") μ=true)(x:Nat)(raw:List Nat)(s:WS)(c:Nat)(h32:ab [c] [32]=false)(h9:ab [c] [9]=true)(hb:s.b<=400)(hc:s.cnt.length<=401):
 ex vD DB μ 1000 DA 195 Fx (ug x raw s (vS [c]))=(true, .next (ug x raw (nc s) (vS [c]))):=by
 obtain⟨n,nt,cnt,b⟩:=s;dsimp only at hb hc;have cc:cnt.length<=cap:=by unfold cap;omega
 refine gi (v := .bool (ab [c] [32])) (c:=ab [c] [32]) ∅ ∅ rfl ?_;rw[h32];refine gi (v := .bool (ab [c] [9])) (c:=ab [c] [9]) ∅ ∅ rfl ?_;rw[h9];refine cG (v := .int ((n:Int)+1)) ∅ ∅ (ρ':=eW (.val (.obj x raw)) (vS raw) (vS [32]) (vS [9]) (.own (cnt.map .int)) (vI b) (vI ((n:Int)+1)) (vI nt) (vS [c])) ∅ ?_;refine cG (v := .int ((nt:Int)+1)) ∅ ∅ (ρ':=eW (.val (.obj x raw)) (vS raw) (vS [32]) (vS [9]) (.own (cnt.map .int)) (vI b) (vI ((n:Int)+1)) (vI ((nt:Int)+1)) (vS [c])) ∅ ?_;have hl:((cnt.map V.int).length:Int)=(cnt.length:Int):=by rw[aW]
 have hl':(cnt.map V.int).length<=cap:=by rw[aW];exact cc
 have lenv:qC (.list (cnt.map .int))=(true, .int cnt.length):=by
  show((decide ((cnt.map V.int).length<=cap),V.int (cnt.map V.int).length):R)=_;rw[ai hl',hl]
 have hd:decide ((cnt.length:Int)<=(b:Int))=decide (cnt.length<=b):=by
  by_cases h:cnt.length<=b
  ·rw[ai h,ai ⋯]
  ·rw[bg h,bg ⋯]
 have hmul:dv .Mult (.list [.int 0]) (.int ((b:Int)-cnt.length+1))=(true, .list (jG [.int 0] ((b:Int)-cnt.length+1))):=by
  show((decide (-1000<=(b:Int)-cnt.length+1)&&decide ((b:Int)-cnt.length+1<=1000)&&decide (1<=1000),V.list _):R)=_;rw[ai (show -1000<=(b:Int)-cnt.length+1 by omega),ai (show(b:Int)-cnt.length+1<=1000 by omega)]
  rfl
 have hrl:(jG [V.int 0] ((b:Int)-cnt.length+1)).length<=402:=by rw[r9];simp;omega
 have hadd:dv .Add (.list (cnt.map .int)) (.list (jG [.int 0] ((b:Int)-cnt.length+1)))=(true, .list (cnt.map .int++jG [.int 0] ((b:Int)-cnt.length+1))):=by
  show((decide ((cnt.map V.int).length+(jG [V.int 0] ((b:Int)-cnt.length+1)).length<=cap),V.list _):R)=_;rw[ai (by rw[aW];unfold cap;omega)]
 obtain⟨c',hc'⟩:∃c',c'=bif decide (cnt.length<=b)then cnt++List.replicate (b+1-cnt.length) 0 else cnt:=⟨_,rfl⟩
 have hset:nc ⟨n,nt,cnt,b⟩=⟨n+1,nt+1,c'.set b (c'.getD b 0+1),0⟩:=by rw[hc'];rfl
 have e1:cnt.map V.int++jG [V.int 0] ((b:Int)-cnt.length+1)=(cnt++List.replicate ((b:Int)-cnt.length+1).toNat 0).map V.int:=by rw[r9,List.map_append]
 have blt:b<c'.length:=by
  rw[hc'];cases h:decide (cnt.length<=b)with
  |true=>simp;omega
  |false=>have:=of_decide_eq_false h;simp;omega
 have clen:c'.length<=900:=by
  rw[hc'];cases h:decide (cnt.length<=b)with
  |true=>simp;omega
  |false=>simp;omega
 refine nU (v := .bool (decide ((cnt.length:Int)<=(b:Int)))) (c:=decide (cnt.length<=b)) (ρa:=eW (.val (.obj x raw)) (vS raw) (vS [32]) (vS [9]) (.own (cnt.map .int++jG [.int 0] ((b:Int)-cnt.length+1))) (vI b) (vI ((n:Int)+1)) (vI ((nt:Int)+1)) (vS [c]))
  (ρb:=eW (.val (.obj x raw)) (vS raw) (vS [32]) (vS [9]) (.own (cnt.map .int)) (vI b) (vI ((n:Int)+1)) (vI ((nt:Int)+1)) (vS [c])) (fa:=true) (fb:=true) ∅
  (bH nofun (x := .int (b:Int)) ∅ (dq ∅ (ja (l:=cnt.map .int) ∅ ∅) lenv) rfl) (by rw[hd];rfl) ?_ ∅ (by simp) ?_
 ·refine cG (v := .list (cnt.map .int++jG [.int 0] ((b:Int)-cnt.length+1))) (cV (ja (l:=cnt.map .int) ∅ ∅) (et nofun (x := .list [.int 0]) ∅
   (cV (aI rfl (et nofun (x := .int (b:Int)) ∅ (dq ∅ (ja (l:=cnt.map .int) ∅ ∅) lenv) rfl)) (y := .int 1) ∅ rfl) hmul) hadd) ∅ ?_ cF
  show put _ (nm "count") (bif mI (nm "count") μ&&true then _ else _)=_;rw[hμ]
  kernel_rfl
 ·have hm:∀y:List V,y=c'.map V.int->ex vD DB μ 1000 DA 190 (Fx.drop 0) (eW (.val (.obj x raw)) (vS raw) (vS [32]) (vS [9]) (.own y) (vI b) (vI ((n:Int)+1)) (vI ((nt:Int)+1)) (vS [c]))=ex vD DB μ 1000 DA 190 (Fx.drop 0) (eW (.val (.obj x raw)) (vS raw) (vS [32]) (vS [9]) (.own (c'.map V.int)) (vI b) (vI ((n:Int)+1)) (vI ((nt:Int)+1)) (vS [c])):=λy h=>by rw[h]
  have mg:∀(ns:List Nm),ns=[nm "count"]->gP ns (decide (cnt.length<=b)) (eW (.val (.obj x raw)) (vS raw) (vS [32]) (vS [9]) (.own (cnt.map .int++jG [.int 0] ((b:Int)-cnt.length+1))) (vI b) (vI ((n:Int)+1)) (vI ((nt:Int)+1)) (vS [c]))
   (eW (.val (.obj x raw)) (vS raw) (vS [32]) (vS [9]) (.own (cnt.map .int)) (vI b) (vI ((n:Int)+1)) (vI ((nt:Int)+1)) (vS [c]))=eW (.val (.obj x raw)) (vS raw) (vS [32]) (vS [9]) (.own (c'.map .int)) (vI b) (vI ((n:Int)+1)) (vI ((nt:Int)+1)) (vS [c]):=λns h=>by
   rw[h,hc',e1];cases hcc:decide (cnt.length<=b)with
   |true=>
    have:cnt.length<=b:=aY hcc;have e3:((b:Int)-cnt.length+1).toNat=b+1-cnt.length:=⋯;rw[e3];kernel_rfl
   |false=>kernel_rfl
  rw[mg _ ∅];have hlt:b<(c'.map V.int).length:=by rw[aW];exact blt
  have hlc:(c'.map V.int).length<=cap:=by rw[aW];unfold cap;omega
  refine pR (l:=c'.map .int) (j:=b) (v := .int (c'.getD b 0+1)) ∅ ∅ (cV (aI rfl (bf rfl (ja (l:=c'.map .int) ∅ ∅) (y := .int (b:Int)) ∅ (ty:=1) ∅ (sub_int hlc hlt (vz blt)))) (y := .int 1) ∅ rfl)
   ∅ hlt hlc (ρ':=eW (.val (.obj x raw)) (vS raw) (vS [32]) (vS [9]) (.own (kO (c'.map .int) b (.int (c'.getD b 0+1)))) (vI b) (vI ((n:Int)+1)) (vI ((nt:Int)+1)) (vS [c])) ∅ ?_
  refine cG (v := .int 0) ∅ ∅ (ρ':=ug x raw (nc ⟨n,nt,cnt,b⟩) (vS [c])) ?_ cF;rw[hset];unfold ug;dsimp only;rw[<-vB]
  kernel_rfl
theorem G9{μ:List Nm}(x:Nat)(raw:List Nat)(s:WS)(c:Nat)(h32:ab [c] [32]=true):ex vD DB μ 1000 DA 195 Fx (ug x raw s (vS [c]))=(true, .next (ug x raw ⟨s.n+1,s.nt,s.cnt,s.b+1⟩ (vS [c]))):=by
 obtain⟨n,nt,cnt,b⟩:=s;refine gi (v := .bool (ab [c] [32])) (c:=ab [c] [32]) ∅ ∅ rfl ?_;rw[h32];refine cG (v := .int ((n:Int)+1)) ∅ ∅ (ρ':=eW (.val (.obj x raw)) (vS raw) (vS [32]) (vS [9]) (.own (cnt.map .int)) (vI b) (vI ((n:Int)+1)) (vI nt) (vS [c])) ∅ ?_;exact cG (v := .int ((b:Int)+1)) ∅ ∅ (ρ':=eW (.val (.obj x raw)) (vS raw) (vS [32]) (vS [9]) (.own (cnt.map .int)) (vI ((b:Int)+1)) (vI ((n:Int)+1)) (vI nt) (vS [c])) ∅ cF
theorem Fz{μ:List Nm}(x:Nat)(raw:List Nat)(s:WS)(c:Nat)(h32:ab [c] [32]=false)(h9:ab [c] [9]=false):ex vD DB μ 1000 DA 195 Fx (ug x raw s (vS [c]))=(true, .brk (ug x raw s (vS [c]))):=by
 refine gi (v := .bool (ab [c] [32])) (c:=ab [c] [32]) ∅ ∅ rfl ?_;rw[h32];refine gi (v := .bool (ab [c] [9])) (c:=ab [c] [9]) ∅ ∅ rfl ?_;rw[h9]
 rfl
theorem si{s:WS}(h:s.cnt.length<=401)(hb:s.b<=400):(nc s).cnt.length<=401:=by
 unfold nc;simp only[List.length_set];cases h2:decide (s.cnt.length<=s.b)with
 |true=>simp;omega
 |false=>simpa using h
theorem tT{μ:List Nm}(hμ:mI (nm "count") μ=true)(x:Nat)(raw:List Nat){s0:WS}:∀(l:List Nat) (s:WS),s.b+l.length<=400->s.cnt.length<=401 ->
 dc (λv ρ=>((bU HH v ρ).1&&(ex vD DB μ 1000 DA 195 Fx (bU HH v ρ).2).1,(ex vD DB μ 1000 DA 195 Fx (bU HH v ρ).2).2)) (ug x raw s0 .un) (ue l) (ug x raw s .un)=(true, .next (ug x raw (gL l s) .un))
 |[],s,_,_=>rfl
 |c::l,s,hb,hc=>by
  rw[aP]at hb;have mk:∀u:WS,mask (ug x raw s0 .un) (ug x raw u (vS [c]))=ug x raw u .un:=λu=>∅
  have tg:bU HH (.str [c]) (ug x raw s .un)=(true,ug x raw s (vS [c])):=∅;show dc _ _ (V.str [c]::ue l) _=_;unfold gL;cases h32:ab [c] [32]with
  |true=>
   refine fc (ie tg (G9 x raw s c h32)) ?_;rw[mk];exact tT hμ x raw l ⟨s.n+1,s.nt,s.cnt,s.b+1⟩ (by show s.b+1+l.length<=400;omega) hc
  |false=>
   cases h9:ab [c] [9]with
   |true=>
    refine fc (ie tg (Fy hμ x raw s c h32 h9 ⋯ hc)) ?_;rw[mk];exact tT hμ x raw l (nc s) (by show 0+l.length<=400;omega) (si hc ⋯)
   |false=>
    refine(Dv (ie tg (Fz x raw s c h32 h9))).trans ?_;rw[mk];rfl
noncomputable abbrev Ex:List Stmt:=(gy.body.drop 1).take 4
theorem FA(x:Nat)(raw:List Nat)(hr:raw.length<=400):ex vD DB (a0 (hZ 20) gy.body) 1000 DA 200 Ex (dD DA [(nm "self", .obj x raw),(nm "ws", .str raw)])=(true, .next (ug x raw (gL raw ⟨0,0,[],0⟩) .un)):=by
 have cr:raw.length<=cap:=by unfold cap;omega
 refine fz (ρ':=eW (.val (.obj x raw)) (vS raw) (vS [32]) (vS [9]) .un .un .un .un .un) ∅ ?_;refine cG (v := .list []) ∅ ∅ (ρ':=eW (.val (.obj x raw)) (vS raw) (vS [32]) (vS [9]) (.own []) .un .un .un .un) ∅ ?_;refine fz (ρ':=ug x raw ⟨0,0,[],0⟩ .un) ∅ ?_;refine tK (dX (by rfl) (v := .str raw) ∅ (xs:=ue raw) (by show((decide (raw.length<=cap),ue raw):Bool×List V)=_;rw[ai cr]) (.inl rfl)) ∅ ?_ cF;have:=tT (μ:=a0 (hZ 20) gy.body) (s0:=⟨0,0,[],0⟩) ∅ x raw raw ⟨0,0,[],0⟩ (by simpa using hr) (by simp);exact this
noncomputable def DC:Stmt->List Pos
 | .Assign [.Attribute (.Name _ a) _ b] _ c=>[a,b,c]
 |_=>[]
noncomputable def tU(s:Option Stmt):Expr:=match s with
 |some (.Assign _ e _)=>e
 |_ => .Name "" default
noncomputable def runW:WsRun:=λraw=>(decide (raw.length<=400),(gL raw ⟨0,0,[],0⟩).n,(gL raw ⟨0,0,[],0⟩).nt,(gL raw ⟨0,0,[],0⟩).cnt,(gL raw ⟨0,0,[],0⟩).b)
theorem pV:∀(l:List Nat) (s:WS),s.b+l.length<=400->s.cnt.length<=401->(gL l s).cnt.length<=401
 |[],s,_,h=>h
 |c::l,s,hb,h=>by
  rw[aP]at hb;unfold gL;cases ab [c] [32]with
  |true=>exact pV l _ (by show s.b+1+l.length<=400;omega) h
  |false=>
   cases ab [c] [9]with
   |true=>exact pV l _ (by show 0+l.length<=400;omega) (si h ⋯)
   |false=>exact h
theorem DD:tG vD DB 1000 (fK ["self","ws"] gy) runW:=by
 refine⟨_,_,_,_,Ex,λi=>((gy.body.drop 5).flatMap DC).getD i default,tU gy.body[5]?,tU gy.body[6]?,tU gy.body[7]?,tU gy.body[8]?,rfl,∅,∅,∅,cJ ⟨∅,cJ ⟨∅,cJ ⟨∅,cJ ⟨∅,λ_ h=>nomatch h⟩⟩⟩⟩,rfl,rfl,rfl,rfl,rfl,λx raw h => ?_,λraw h n nt cnt b e => ?_⟩
 ·have hr:raw.length<=400:=aY h
  refine⟨_,a0 (hZ 20) gy.body,FA x raw hr,∅,∅,∅,∅,∅⟩
 ·have hr:raw.length<=400:=aY h
  have hl:cnt.length<=401:=by
   have:=pV raw ⟨0,0,[],0⟩ (by simpa using hr) (by simp);unfold runW at e;simp only[Prod.mk.injEq]at e;rw[<-e.2.2.2.1];exact this
  have hl':(cnt.map V.int).length<=cap:=by rw[aW];unfold cap;omega
  refine⟨∅,∅, ?_, ?_⟩
  ·refine lA (ao (x := .tup (cnt.map .int)) (bX ∅ ∅ ∅ (ao (x := .list (cnt.map .int)) ∅ aA) (dU rfl ?_)) (ao (x := .int b) ∅ aA)) (by simp[cap])
   show((decide ((cnt.map V.int).length<=cap),V.tup (cnt.map V.int)):R)=_;rw[ai hl']
  ·have:(decide (((cnt.map V.int).length:Int)<=1))=decide (cnt.length<=1):=by
    rw[aW]
    by_cases h:cnt.length<=1
    ·rw[ai h,ai ⋯]
    ·rw[bg h,bg ⋯]
   rw[<-this];refine bH nofun (x := .int ((cnt.map V.int).length:Int)) (y := .int 1) (dq ∅ (aZ (v := .list (cnt.map .int)) ∅ (λl h=>by injections h)) ?_) ∅ rfl;show((decide ((cnt.map V.int).length<=cap),V.int ((cnt.map V.int).length:Int)):R)=_;rw[ai hl']
end
end
section
open PySem PySem.W PySem.Challenge
theorem Ha:G4 vD (fK ["code"] Iy) where
 body:=⟨_,_,_,_,nm "code",rfl,rfl,λc=>bX ∅ ∅ ∅ (ao (x := .str [c]) ∅ aA) (dU rfl ∅)⟩
 glob:=∅
 ch:=∅
noncomputable abbrev pW:List Stmt:=HG.body.drop 1
theorem Hb:G6 vD (fK ["code"] HG) (nm "code") pW where
 params:=rfl
 body:=⟨_,_,_,_,_,_,rfl,rfl,λc=>bX ∅ ∅ ∅ (ao (x := .str [c]) ∅ aA) (dU rfl ∅),rfl,λe p h=>by cases h⟩
 glob:=∅
 ch:=∅
 loc:=∅
noncomputable abbrev zl:List (Str×NameKind):=HG.scope.names
noncomputable def dY(L:List (Int×Str))(c:Nat):List Nat:=match L.lookup (c:Int)with
 |some y=>nm y
 |none=>cu [c]
theorem FB(L:List (Int×Str))(c:Nat):Ib vD 1000 L zl (nm "code") pW [.str [c]]=(true, .str (dY L c)):=by
 show kR (ex vD [] [] 1000 zl 200 pW (put (dD zl [(nm "code", .str [c])]) (nm "r") (.val (zH L c))))=_;have e:ex vD [] [] 1000 zl 200 pW (put (dD zl [(nm "code", .str [c])]) (nm "r") (.val (zH L c)))=(true, .ret (.str (dY L c))):=by
  unfold zH dY;cases L.lookup (c:Int)with
  |some y=>
   refine gi (v := .bool true) (c:=true) ∅ ∅ rfl ?_;exact fA ∅
  |none=>
   refine gi (v := .bool false) (c:=false) ∅ ∅ rfl ?_;exact fA ∅
 rw[e];rfl
theorem Br:Iv vD (fK ["data"] Bm) where
 body:=⟨nm "data",_,_,_,_,_,_,_,_,_,_,rfl,rfl,rfl,rfl,λs=>⟨∅,∅,∅⟩⟩
 glob1:=∅
 glob2:=∅
 ch:=∅
noncomputable def fSub:List V->R:=dF vD [] 1000 (fK ["ch_a","ch_b"] Fw)
noncomputable def Hc:Fns:=⟨GL,[(nm "_substitution_cost",fSub)],[]⟩
noncomputable def fLev:List V->R:=dF Hc xe 1000 (fK ["a","b","max_cost"] ii)
theorem FC(a b:List Nat)(m:Int)(ha:a.length<=500)(hb:b.length<=500):fLev [.str a, .str b, .int m]=(true, .int (tP a b m)):=
 Dz a b m ha hb ⟨λx y=>⟨fSub,rfl,Dx x y⟩,rfl⟩
end
section
open PySem PySem.W PySem.Calls PyProof.Rows PySem.Challenge
noncomputable abbrev GW(w:World)(h:Heap):Cfg:=⟨PW,w,181,h⟩
section
variable {w:World} {h:Heap}
noncomputable abbrev tV(h:Heap):Prop:=eK (gO PW) 57 rowsL h
theorem ds(B:tV h){i:Nat}{x:Addr×Obj}(e:(gO PW).objs[i]? = some x):∃o,h.get? x.1=some o/\hH o=x.2:=B.objs x (gH e)
theorem ff(B:tV h){i:Nat}{x:Addr×Str}(e:(gO PW).codes[i]? = some x):h.CodeRec (.ref x.1) x.2:=B.codes x (gH e)
theorem Ie(B:tV h):eG (GW w h) 56 (fK ["code"] Iy):=dK (c:=55) (q:="in_table_b1") (ds B (i:=1) rfl) (ff B (i:=1) rfl) (λpm doc=>vp λu0=>∅) ∅
theorem Ig(B:tV h):eG (GW w h) 102 (fK ["code"] HG):=dK (c:=101) (q:="map_table_b3") (ds B (i:=2) rfl) (ff B (i:=2) rfl) (λpm doc=>vp λu0=>∅) ∅
theorem DE(B:tV h):eG (GW w h) 119 (fK ["data"] Bm):=dK (c:=118) (q:="quotedata") (ds B (i:=3) rfl) (ff B (i:=3) rfl) (λpm doc=>vp λu0=>∅) ∅
theorem FD(B:tV h):eG (GW w h) 136 (fK ["self","ws"] gy):=dK (c:=135) (q:="Whitespace.__init__") (ds B (i:=4) rfl) (ff B (i:=4) rfl) (λpm doc=>vq λu0 u1=>∅) ∅
theorem FE(B:tV h):∃o fd,h.get? 136=some o/\o.cls = .type "function"/\o.data = .func fd:=by
 obtain⟨o,e1,e2⟩:=ds B (i:=4) rfl;obtain⟨pm,doc,e3,e4⟩:=jT e2;exact⟨o,_,e1,e3,e4⟩
theorem Hd(B:tV h):eG (GW w h) 192 (fK ["ch_a","ch_b"] Fw):=dK (c:=191) (q:="_substitution_cost") (ds B (i:=11) rfl) (ff B (i:=11) rfl) (λpm doc=>vq λu0 u1=>∅) ∅
theorem He(B:tV h):eG (GW w h) 199 (fK ["a","b","max_cost"] ii):=dK (c:=198) (q:="_levenshtein_distance") (ds B (i:=12) rfl) (ff B (i:=12) rfl) (λpm doc=>Bk λu0 u1 u2=>∅) ∅
theorem Hh(B:tV h):eG (GW w h) 206 (fK ["x","name","one"] Bo):=dK (c:=205) (q:="_law_row") (ds B (i:=13) rfl) (ff B (i:=13) rfl) (λpm doc=>Bk λu0 u1 u2=>∅) ∅
theorem FF(B:tV h):eG (GW w h) 211 (fK ["hand","text","name"] Bp):=dK (c:=210) (q:="_law_done") (ds B (i:=14) rfl) (ff B (i:=14) rfl) (λpm doc=>Bk λu0 u1 u2=>∅) ∅
theorem Bt(B:tV h):eG (GW w h) 218 (fK ["word","run"] lC):=dK (c:=217) (q:="_law_stands") (ds B (i:=15) rfl) (ff B (i:=15) rfl) (λpm doc=>vq λu0 u1=>∅) ∅
theorem FG(B:tV h):eG (GW w h) 223 (fK ["rows","run"] rZ):=dK (c:=222) (q:="_law_told") (ds B (i:=16) rfl) (ff B (i:=16) rfl) (λpm doc=>vq λu0 u1=>∅) ∅
theorem Hi(B:tV h):eG (GW w h) 228 (fK ["script"] zi):=dK (c:=227) (q:="law") (ds B (i:=17) rfl) (ff B (i:=17) rfl) (λpm doc=>vp λu0=>∅) ∅
structure Bu(mg mN:Str->Option Value):Prop where
 g:∀e∈(gO PW).globals,(mg e.1).map strip=e.2
 n:∀e∈(match(gO PW).nss with|x::_=>x.2|[]=>[]),(mN e.1).map strip=e.2
theorem ij{mg mb:Str->Option Value}{f:Str}{u:Value}(h:bootBuiltins f=some u)(h1:mg f=none)(h2:mb f=some u):∀v,bootBuiltins f=some v->mg f=none/\mb f=some v:=λv e=>⟨h1,h2.trans (h.symm.trans e)⟩
theorem DF(B:tV h):∃mN mg mb,kh (GW w h) 180 mN mg mb/\Bu mg mN:=by
 obtain⟨mg,hg,eg⟩:=B.globals;obtain⟨mb,hb,eb⟩:=B.builtins;obtain⟨ms,hs,es⟩:=B.statics;obtain⟨mN,hN,eN⟩:=B.nss _ (gH (i:=0) rfl);obtain⟨o,ho,eo⟩:=ds B (i:=18) rfl;obtain⟨k0,k1,k2,k3,k5,rfl⟩:=tI eo;refine⟨mN,mg,mb,⟨⟨⟨_,_,_,_,_,_,_,_,_,_,_,_,ho⟩,hN⟩,bz (said eN (n:="__getattribute__") ∅),bz (said eN (n:="__getattr__") ∅),bz (said eN (n:="__setattr__") ∅),λx hx => ?_,λx hx => ?_,hg,hb,λf v hf hv => ?_,⟨ms,hs,bz (said es (n:="sys.recursionlimit") ∅)⟩,
  km (said eN (n:="S") ∅),km (said eN (n:="T") ∅),⟨ms,hs,bz (said es (n:="thirdparty.any") ∅)⟩⟩,⟨eg,eN⟩⟩
 ·simp only[dn,List.mem_cons,cj,or_false]at hx
  rcases hx with rfl|rfl|rfl|rfl|rfl<;>exact bz (said eN ∅)
 ·simp only[dn,List.mem_cons,cj,or_false]at hx
  rcases hx with rfl|rfl|rfl|rfl|rfl<;>(rw[typeLookup_type,builtinLookup_eq_fast];kernel_rfl)
 ·exact(cJ ⟨ij (u := .builtin "len") ∅ (bz (said eg ∅)) (i9 (said eb ∅)),cJ ⟨ij (u := .builtin "ord") ∅ (bz (said eg ∅)) (i9 (said eb ∅)),cJ ⟨ij (u := .builtin "chr") ∅ (bz (said eg ∅)) (i9 (said eb ∅)),cJ ⟨ij (u := .builtin "min") ∅ (bz (said eg ∅)) (i9 (said eb ∅)),cJ ⟨ij (u := .builtin "sum") ∅ (bz (said eg ∅)) (i9 (said eb ∅)),cJ ⟨ij (u := .type "list") ∅ (bz (said eg ∅)) (lx (said eb ∅)),cJ ⟨ij (u := .type "tuple") ∅ (bz (said eg ∅)) (lx (said eb ∅)),cJ ⟨ij (u := .type "range") ∅ (bz (said eg ∅)) (lx (said eb ∅)),cJ ⟨ij (u := .type "enumerate") ∅ (bz (said eg ∅)) (lx (said eb ∅)),λ_ h=>nomatch h⟩⟩⟩⟩⟩⟩⟩⟩⟩:∀f∈(["len","ord","chr","min","sum","list","tuple","range","enumerate"]:List Str),∀v,bootBuiltins f=some v->mg f=none/\mb f=some v) f hf v hv
noncomputable def DG(x:Option (Addr×Obj)):List (Int×Value):=match x with
 |some (_,⟨_,_, .set es _ _,_⟩)=>es.toList
 |_=>[]
noncomputable def jd:List (Int×Value):=DG ((gO PW).objs[23]?)
theorem FH(B:tV h):h.SetOf (intKind PW w) 46 (pM jd) jd.length:=tJ (L:=jd) (ds B (i:=23) rfl) ∅ ∅ (by decide +kernel)
theorem DH(B:tV h):gv h 107 code1:=ly (ds B (i:=19) rfl) (ds B (i:=21) rfl) rfl rfl rfl ∅
theorem DI(B:tV h):gv h 112 code2:=ly (ds B (i:=20) rfl) (ds B (i:=22) rfl) rfl rfl rfl ∅
end
end
section
open PySem PySem.W
noncomputable def lD(κ:List (Str×NameKind)):List Nm:=κ.filterMap λ(x,k)=>bif ag (some k)then some (nm x)else none
noncomputable def aJ:List Nm->List Mine.Slot->Rho
 |x::ns,s::ss=>(x,s)::aJ ns ss
 |_,_=>[]
noncomputable def FI:List Nm->Nm->Nat
 |[],_=>0
 |y::r,x=>bif ab x y then 0 else FI r x+1
theorem yk:∀{ns:List Nm} {ss:List Mine.Slot} {x:Nm} {i:Nat} {s:Mine.Slot},FI ns x=i->ss[i]? = some s->i<ns.length->lk (aJ ns ss) x=s
 |[],_,_,_,_,_,_,h=>absurd h (Nat.not_lt_zero _)
 |y::ns,[],_,_,_,_,h,_=>by simp at h
 |y::ns,t::ss,x,i,s,h1,h2,h3=>by
  show(bif ab x y then t else lk (aJ ns ss) x)=s;have h1:(bif ab x y then 0 else FI ns x+1)=i:=h1;cases e:ab x y with
  |true=>rw[e]at h1;subst h1;simpa using h2
  |false=>
   rw[e]at h1;subst h1;exact yk rfl (by simpa using h2) (by simpa using h3)
theorem tW:∀{ns:List Nm} {ss:List Mine.Slot} {x:Nm} {i:Nat} {s:Mine.Slot},FI ns x=i->i<ns.length->put (aJ ns ss) x s=aJ ns (ss.set i s)
 |[],_,_,_,_,_,h=>absurd h (Nat.not_lt_zero _)
 |y::ns,[],_,i,_,_,h=>by induction i using Nat.casesOn<;>rfl
 |y::ns,t::ss,x,i,s,h1,h3=>by
  show(bif ab x y then(y,s)::aJ ns ss else(y,t)::put (aJ ns ss) x s)=_;have h1:(bif ab x y then 0 else FI ns x+1)=i:=h1;cases e:ab x y with
  |true=>rw[e]at h1;subst h1;rfl
  |false=>
   rw[e]at h1;subst h1;show(y,t)::put (aJ ns ss) x s=(y,t)::aJ ns (ss.set _ s);rw[tW rfl (by simpa using h3)]
noncomputable def pX(κ:List (Str×NameKind))(ns:List Nm)(a:Str)(i:Nat):Bool:=ag (kd κ (nm a))&&Nat.beq (FI ns (nm a)) i&&Nat.blt i ns.length
theorem je{κ:List (Str×NameKind)}{ns:List Nm}{a:Str}{i:Nat}(h:pX κ ns a i=true):ag (kd κ (nm a))=true/\FI ns (nm a)=i/\i<ns.length:=by
 unfold pX at h;rw[aK,aK]at h;exact⟨h.1.1,eH h.1.2,by have:=h.2;rwa [Nat.blt_eq]at this⟩
section
variable {Φ:Fns} {τ:Tau} {μ:List Nm} {W n N:Nat} {κ:List (Str×NameKind)} {ns:List Nm} {ss:List Mine.Slot} {rest:List Stmt} {res:Res} {p q:Pos} {v x y:V}
theorem aj{a:Str}(i:Nat)(h:pX κ ns a i=true)(hs:ss[i]? = some (.val v)):ev Φ τ (N+1) κ (aJ ns ss) (.Name a p)=(true,v):=by
 have h:=je h;show rd κ Φ (aJ ns ss) (nm a)=_;unfold rd;rw[h.1,cond_true,yk h.2.1 hs h.2.2];rfl
theorem au{c:Const}{k:Nat}{ρ:Rho}(h:sT c=(true,v)):ev Φ τ (N+1) κ ρ (.Constant c k p)=(true,v):=h
theorem fQ{a:Str}(i:Nat)(h:pX κ ns a i=true)(hs:ss[i]? = some (.val v)):look κ (aJ ns ss) (ev Φ τ (N+1) κ (aJ ns ss)) (.Name a p)=(true,v):=by
 refine aZ (aj i h hs) λl e => ?_
 have h:=je h;rw[yk h.2.1 hs h.2.2]at e;injections e
theorem bG{a:Str}{e:Expr}{s:Mine.Slot}(i:Nat)(hf:freeze (bd 40 e) (aJ ns ss)=aJ ns ss)(hx:pX κ ns a i=true)(h:ev Φ τ 40 κ (aJ ns ss) e=(true,v))(hs:iO μ (nm a) e v=s)(h2:ex Φ τ μ W κ n rest (aJ ns (ss.set i s))=res):
 ex Φ τ μ W κ (n+1) (.Assign [.Name a p] e q::rest) (aJ ns ss)=res:=by
 have hx:=je hx;refine cG (by rw[hf];exact h) hx.1 (ρ':=aJ ns (ss.set i s)) ?_ h2;rw[hf,hs];exact tW hx.2.1 hx.2.2
theorem DJ{E:Expr->R}{ρ:Rho}{a:Str}{op:Operator}{e:Expr}(hx:ag (kd κ (nm a))=true)(ho:rd κ Φ ρ (nm a)=(true,x))(h:E e=(true,y))(hr:dv op x y=(true,v))(hk:qX op x=true):qY E κ Φ ρ (.Name a p) op e=(true, .next (put ρ (nm a) (.val v))):=by
 show(let old:=rd κ Φ ρ (nm a);let v:=E e;let r:=dv op old.2 v.2;((ag (kd κ (nm a))&&old.1&&v.1&&r.1&&qX op old.2, .next (put ρ (nm a) (.val r.2))):Res))=_;simp only[hx,ho,h,hr,hk,bZ]
theorem nf{a:Str}{e:Expr}{op:Operator}(i:Nat)(hf:freeze (bd 40 e) (aJ ns ss)=aJ ns ss)(hx:pX κ ns a i=true)(ho:ss[i]? = some (.val x))(h:ev Φ τ 40 κ (aJ ns ss) e=(true,y))(hr:dv op x y=(true,v))(hk:qX op x=true)(h2:ex Φ τ μ W κ n rest (aJ ns (ss.set i (.val v)))=res):
 ex Φ τ μ W κ (n+1) (.AugAssign (.Name a p) op e q::rest) (aJ ns ss)=res:=by
 have hx':=hx;have hx:=je hx;refine xa (ρ':=aJ ns (ss.set i (.val v))) ?_ h2;rw[hf];refine(DJ hx.1 (aj (Φ:=Φ) (τ:=τ) (N:=0) (p:=p) i hx' ho) h hr hk).trans ?_;rw[tW hx.2.1 hx.2.2]
theorem Hj{a:Str}{e:Expr}{l:List V}{q1 q2 q3:Pos}(i:Nat)(hf:freeze (hW (bd 40) [e]) (aJ ns ss)=aJ ns ss)(hx:pX κ ns a i=true)(ho:ss[i]? = some (.own l))(hq:(q1.endLine==q2.line)=true)(hl:l.length<=cap)(h:ev Φ τ 40 κ (aJ ns ss) e=(true,v))(h2:ex Φ τ μ W κ n rest (aJ ns (ss.set i (.own (l++[v]))))=res):
 ex Φ τ μ W κ (n+1) (.Expr (.Call (.Attribute (.Name a p) "append" q1) [e] [] q2) q3::rest) (aJ ns ss)=res:=by
 have hx:=je hx;exact Fu hq (by rw[hf];exact yk hx.2.1 ho hx.2.2) (by rw[hf];exact h) hx.1 hl (by rw[hf,tW hx.2.1 hx.2.2]) h2
theorem pY{t:Expr}{a b:List Stmt}{v:V}(c:Bool)(hf:freeze (bd 40 t) (aJ ns ss)=aJ ns ss)(hp:(bJ a&&bJ b&&aR (fits 20) a&&aR (fits 20) b)=false)(h:ev Φ τ 40 κ (aJ ns ss) t=(true,v))(hv:ad v=(true,c))(hr:ex Φ τ μ W κ n ((bif c then a else b)++rest) (aJ ns ss)=res):
 ex Φ τ μ W κ (n+1) (.If t a b p::rest) (aJ ns ss)=res:=
 gi hp (by rw[hf];exact h) hv (by rw[hf];exact hr)
theorem ng{e:Expr}(hf:freeze (bd 40 e) (aJ ns ss)=aJ ns ss)(h:ev Φ τ 40 κ (aJ ns ss) e=(true,v)):ex Φ τ μ W κ (n+1) (.Return (some e) p::rest) (aJ ns ss)=(true, .ret v):=
 fA (by rw[hf];exact h)
theorem yl {t it:Expr} {b:List Stmt} {ss':List Mine.Slot} {xs:List V} (hf:freeze (bd 40 it) (aJ ns ss)=aJ ns ss) (hi:ci κ (ev Φ τ 40 κ (aJ ns ss)) t it=(true,xs)) (ht:(bh t).all (λx=>ag (kd κ x))=true)
 (h:dc (λv ρ=>((bU t v ρ).1&&(ex Φ τ μ W κ n b (bU t v ρ).2).1,(ex Φ τ μ W κ n b (bU t v ρ).2).2)) (aJ ns ss) xs (aJ ns ss)=(true, .next (aJ ns ss'))) (h2:ex Φ τ μ W κ n rest (aJ ns ss')=res):ex Φ τ μ W κ (n+1) (.For t it b [] p::rest) (aJ ns ss)=res:=
 tK (by rw[hf];exact hi) ht (by rw[hf];exact h) h2
theorem Bv {t it:Expr} {b:List Stmt} (I:Nat->List Mine.Slot) (val:Nat->V) (a k:Nat) (hf:freeze (bd 40 it) (aJ ns (I a))=aJ ns (I a)) (hi:ci κ (ev Φ τ 40 κ (aJ ns (I a))) t it=(true,(List.range' a k).map val)) (ht:(bh t).all (λx=>ag (kd κ x))=true)
 (hb:∀j,a<=j->j<a+k->∃ss1 ss2,bU t (val j) (aJ ns (I j))=(true,aJ ns ss1)/\ex Φ τ μ W κ n b (aJ ns ss1)=(true, .next (aJ ns ss2))/\mask (aJ ns (I a)) (aJ ns ss2)=aJ ns (I (j+1))) (h2:ex Φ τ μ W κ n rest (aJ ns (I (a+k)))=res):
 ex Φ τ μ W κ (n+1) (.For t it b [] p::rest) (aJ ns (I a))=res:=
 yl hf hi ht (tO (λj=>aJ ns (I j)) val k a λj h1 h2=>let⟨x,y,h⟩:=hb j h1 h2;⟨_,_,h⟩) h2
theorem zm {t it:Expr} {b:List Stmt} {xs:List V} (hf:freeze (bd 40 it) (aJ ns ss)=aJ ns ss) (hi:ci κ (ev Φ τ 40 κ (aJ ns ss)) t it=(true,xs)) (ht:(bh t).all (λx=>ag (kd κ x))=true)
 (h:dc (λv ρ=>((bU t v ρ).1&&(ex Φ τ μ W κ n b (bU t v ρ).2).1,(ex Φ τ μ W κ n b (bU t v ρ).2).2)) (aJ ns ss) xs (aJ ns ss)=(true, .ret v)):ex Φ τ μ W κ (n+1) (.For t it b [] p::rest) (aJ ns ss)=(true, .ret v):=
 pO (by rw[hf];exact hi) ht (by rw[hf];exact h)
theorem jf{d:Def}{as:List V}(hl:Nat.beq d.params.length as.length=true)(h0:dD d.κ (nF d.params as)=aJ ns ss)(h:ex Φ τ (a0 (hZ 20) d.body) W d.κ 200 d.body (aJ ns ss)=(true, .ret v))(hp:uw d=true:=by kernel_rfl):dF Φ τ W d as=(true,v):=by
 unfold dF;rw[h0,h];unfold kR;rw[hl,hp];rfl
theorem FJ{e:Expr}{ss':List Mine.Slot}(hf:freeze (bd 40 e) (aJ ns ss)=aJ ns ss')(h:ev Φ τ 40 κ (aJ ns ss') e=(true,v)):ex Φ τ μ W κ (n+1) (.Return (some e) p::rest) (aJ ns ss)=(true, .ret v):=
 fA (by rw[hf];exact h)
noncomputable abbrev tX(scope:Scope):List Nm:=scope.names.map λx=>nm x.1
theorem ko{α:Type}{f:V->Bool×Bool×R}(val:α->V)(c:α->Bool)(g:α->V):∀(l:List α),(∀a∈l,(f (val a)).1=true/\(f (val a)).2.1=c a/\(c a=true->(f (val a)).2.2=(true,g a)))->bD f (l.map val)=(true,(l.filter c).map g)
 |[],_=>rfl
 |a::l,h=>by
  obtain⟨h1,h2,h3⟩:=h a (aO ..);have ih:=ko val c g l λy hy=>h y (aG _ hy)
  rw[aC];rw[CC,ih,h1,h2];cases hc:c a with
  |true=>rw[h3 hc];simp[hc]
  |false=>simp[hc]
theorem jg {α:Type} (val g:α->V) (l:List α) {ρ:Rho} {elt t it:Expr} {scope:Scope} (sc:List Mine.Slot) (h1:fR κ scope=true) (h2:qD scope.names t=true) (hi:ci κ (ev Φ τ N κ ρ) t it=(true,l.map val)) (hc:cK scope ρ=aJ (tX scope) sc) (hl:l.length<=cap)
 (hb:∀a∈l,∃ss1,bU t (val a) (aJ (tX scope) sc)=(true,aJ (tX scope) ss1)/\ev Φ τ N scope.names (aJ (tX scope) ss1) elt=(true,g a)):ev Φ τ (N+1) κ ρ (.ListComp elt [⟨t,it,[],0⟩] scope p)=(true, .list (l.map g)):=by
 refine Dw h1 h2 hi ?_ (by rw[aW];exact hl);rw[hc];refine(ko val (λ_=>true) g l λa ha => ?_).trans (by rw[List.filter_eq_self.mpr λ_ _=>rfl]);obtain⟨ss1,e1,e2⟩:=hb a ha;unfold gp;dsimp only;rw[e1];exact⟨rfl,rfl,λ_=>e2⟩
theorem lE{l:Nat}{k:Nat}(h:k<l):bP l (k:Int)=true/\place l (k:Int)=k:=by
 unfold bP place;rw[ai (show -(l:Int)<=(k:Int)by omega),ai (show(k:Int)<(l:Int)by omega),bg (show ¬(k:Int)<0 by omega)];exact⟨rfl,by simp⟩
theorem vE{l:List V}{k:Nat}(hs:l.length<=cap)(hk:k<l.length)(hx:l.getD k .none=x):kM 0 (.list l) (.int (k:Int))=(true,x):=by
 show((bP l.length (k:Int)&&decide (l.length<=cap),uq l (place l.length (k:Int))):R)=_;rw[(lE hk).1,(lE hk).2,oQ hk,ai hs,hx];rfl
theorem fW{l:List V}{k:Nat}(hs:l.length<=cap)(hk:k<l.length)(hx:l.getD k .none=x):kM 0 (.tup l) (.int (k:Int))=(true,x):=by
 show((bP l.length (k:Int)&&decide (l.length<=cap),uq l (place l.length (k:Int))):R)=_;rw[(lE hk).1,(lE hk).2,oQ hk,ai hs,hx];rfl
theorem Bw {ts es:List Expr} {vs:List V} {k1 k2:Nat} {p3 p4:Pos} {ss':List Mine.Slot} (hf:freeze (bd 40 (.Tuple es k2 p4)) (aJ ns ss)=aJ ns ss) (hc:(!d8 es&&d7 (bh (.Tuple ts 0 default))&&iq κ (bh (.Tuple ts 0 default)))=true) (h:fO (ev Φ τ 40 κ (aJ ns ss)) es=(true,vs)) (hl:vs.length<=cap)
 (ht:f7 ts vs (aJ ns ss)=(true,aJ ns ss')) (hr:ex Φ τ μ W κ n rest (aJ ns ss')=res):ex Φ τ μ W κ (n+1) (.Assign [.Tuple ts k1 p3] (.Tuple es k2 p4) q::rest) (aJ ns ss)=res:=by
 refine fz (ρ':=aJ ns ss') ?_ hr;rw[hf];show((l0 (fO (ev Φ τ 40 κ (aJ ns ss)) es)&&(f7 ts (fO (ev Φ τ 40 κ (aJ ns ss)) es).2 (aJ ns ss)).1&&(!d8 es&&d7 (bh (.Tuple ts 0 default))&&iq κ (bh (.Tuple ts 0 default))),gm.next (f7 ts (fO (ev Φ τ 40 κ (aJ ns ss)) es).2 (aJ ns ss)).2):Res)=_;rw[h,hc];show(((true&&decide (vs.length<=cap))&&(f7 ts vs (aJ ns ss)).1&&true,gm.next (f7 ts vs (aJ ns ss)).2):Res)=_;rw[ht,ai hl];rfl
theorem FK {ts:List Expr} {e:Expr} {vs:List V} {k1:Nat} {p3:Pos} {ss':List Mine.Slot} (he:mQ e=none) (hf:freeze (bd 40 e) (aJ ns ss)=aJ ns ss) (hc:iq κ (bh (.Tuple ts 0 default))=true) (h:ev Φ τ 40 κ (aJ ns ss) e=(true, .tup vs))
 (ht:f7 ts vs (aJ ns ss)=(true,aJ ns ss')) (hr:ex Φ τ μ W κ n rest (aJ ns ss')=res):ex Φ τ μ W κ (n+1) (.Assign [.Tuple ts k1 p3] e q::rest) (aJ ns ss)=res:=by
 refine fz (ρ':=aJ ns ss') ?_ hr;rw[hf];show CG (ev Φ τ 40 κ (aJ ns ss)) κ μ (aJ ns ss) ts e (mQ e)=_;rw[he];show(((ev Φ τ 40 κ (aJ ns ss) e).1&&(bU (.Tuple ts 0 default) (ev Φ τ 40 κ (aJ ns ss) e).2 (aJ ns ss)).1&&iq κ (bh (.Tuple ts 0 default)),gm.next (bU (.Tuple ts 0 default) (ev Φ τ 40 κ (aJ ns ss) e).2 (aJ ns ss)).2):Res)=_;rw[h,hc];show((true&&(f7 ts vs (aJ ns ss)).1&&true,gm.next (f7 ts vs (aJ ns ss)).2):Res)=_;rw[ht];rfl
theorem nY{sep:List Nat}{l:List (List Nat)}(h:(l.map List.length).sum+l.length*sep.length<=cap)(h2:l.length<=cap):fP Φ (nm "join") (.str sep) [.list (l.map V.str)]=(true, .str (db sep l)):=by
 have e:∀L:List V,fP Φ (nm "join") (.str sep) [.list L]=((L.all yE&&decide (L.length<=cap)&&decide (((L.map kL).map List.length).sum+L.length*sep.length<=cap),V.str (db sep (L.map kL))):R):=λL=>∅
 rw[e,show(l.map V.str).map kL=l by rw[dQ];exact List.map_id l,aW,ai h,ai h2,List.all_map,show(l.all (yE∘V.str))=true from List.all_eq_true.mpr λ_ _=>rfl]
 rfl
theorem mw:∀l:List (List Nat),db [] l=l.flatten
 |[]=>rfl
 |[a]=>by rw[CA];simp
 |a::b::l=>by show a++[]++db [] (b::l)=_;rw[mw (b::l)];simp
theorem len_str{l:List Nat}(h:l.length<=cap):qC (.str l)=(true, .int l.length):=by
 show((decide (l.length<=cap),V.int l.length):R)=_;rw[ai h]
theorem IE{r:List Nat}{n t:Int}{c:List Int}{b:Int}{s:Bool}:El (nm "n") (.ws r n t c b s)=(true, .int n):=∅
theorem FL{a b:Int}(h:small a=true):dv .Mult (.int a) (.int b)=(true, .int (a*b)):=by
 show((small a||small b,V.int (a*b)):R)=_;rw[h,Bool.true_or]
theorem Hk{a k:Nat}(h:k≠0):dv .Mod (.int (a:Int)) (.int (k:Int))=(true, .int ((a%k:Nat):Int)):=by
 show((!decide ((k:Int)=0),V.int ((a:Int).fmod (k:Int))):R)=_;rw[bg ⋯,Int.fmod_eq_emod_of_nonneg _ ⋯];rfl
theorem Hm{a k:Nat}(h:k≠0)(h2:k<10000000000):dv .FloorDiv (.int (a:Int)) (.int (k:Int))=(true, .int ((a/k:Nat):Int)):=by
 show((!decide ((k:Int)=0)&&small (k:Int),V.int ((a:Int).fdiv (k:Int))):R)=_;rw[bg ⋯,show small (k:Int)=true by unfold small big;rw[ai ⋯,ai ⋯];rfl];rw[Int.fdiv_eq_ediv_of_nonneg _ ⋯];rfl
end
end
section
open PySem PySem.W
noncomputable def bo:Bool->List Nat->List Nat
 |_,[]=>[]
 |b,c::l=>bif b&&c==46 then 46::46::bo false l else c::bo (c==10) l
theorem DK{b:Bool}{c:Nat}{l:List Nat}:bo b (c::l)=bif b&&c==46 then 46::46::bo false l else c::bo (c==10) l:=rfl
noncomputable def aB:Bool->List Nat->List Nat
 |_,[]=>[]
 |p,c::l=>bif c==13 then 13::10::aB true l else bif c==10 then(bif p then aB false l else 13::10::aB false l)else c::aB false l
theorem lF{p:Bool}{c:Nat}{l:List Nat}:aB p (c::l)=bif c==13 then 13::10::aB true l else bif c==10 then(bif p then aB false l else 13::10::aB false l)else c::aB false l:=rfl
noncomputable def fg(x:List Nat)(p:Nat):Bool:=p==0||x.getD (p-1) 0==10
theorem gj(x:List Nat)(p:Nat):x.toArray.getD p 0=x.getD p 0:=by simp[Array.getD_eq_getD_getElem?,cA]
theorem gM{x:List Nat}{p:Nat}(h:p<x.length):x.drop p=x.getD p 0::x.drop (p+1):=by
 rw[List.drop_eq_getElem_cons h,cA,gF h];rfl
theorem lG{x:List Nat}{p b:Nat}(h:p<b)(hb:b<=x.length):(x.take b).drop p=x.getD p 0::(x.take b).drop (p+1):=by
 have hp:p<(x.take b).length:=by rw[cR];omega
 rw[gM hp]
 congr 1
 rw[cA,cA,List.getElem?_take,if_pos h]
theorem jh{x:List Nat}{p:Nat}:(x.take p).drop p=[]:=by
 rw[List.drop_eq_nil_iff,cR];omega
theorem vF(x:List Nat):∀(n p:Nat),x.length-p<=n+1->match dI x.toArray x.length n p with
 |none=>bo (fg x p) (x.drop p)=x.drop p
 |some b=>p<=b/\b<x.length/\bo (fg x p) (x.drop p)=(x.take b).drop p++(46::46::bo false (x.drop (b+1))):=by
 have base:∀p,ei x.toArray x.length p=(fg x p&&decide (p<x.length)&&x.getD p 0==46):=λp=>by
  unfold ei fg;rw[gj,gj]
 have out:∀p,x.length<=p->ei x.toArray x.length p=false:=λp h=>by
  rw[base,bg ⋯];simp
 have yes:∀p,ei x.toArray x.length p=true->p<x.length/\bo (fg x p) (x.drop p)=(x.take p).drop p++(46::46::bo false (x.drop (p+1))):=λp h=>by
  rw[base]at h;simp only[aK,decide_eq_true_eq,beq_iff_eq]at h;obtain⟨⟨h1,h2⟩,h3⟩:=h;refine⟨h2, ?_⟩;rw[jh,gM h2,h3,h1];rfl
 have no:∀p,p<x.length->ei x.toArray x.length p=false->bo (fg x p) (x.drop p)=x.getD p 0::bo (fg x (p+1)) (x.drop (p+1)):=λp h hh=>by
  rw[base,ai h,Bool.and_true]at hh;rw[gM h];show(bif fg x p&&x.getD p 0==46 then _ else x.getD p 0::bo (x.getD p 0==10) (x.drop (p+1)))=_;rw[hh];show x.getD p 0::bo (x.getD p 0==10) (x.drop (p+1))=_;have:fg x (p+1)=(x.getD p 0==10):=by unfold fg;simp
  rw[this]
 intro n
 induction n with
 |zero=>
  intro p hp;show match(if ei x.toArray x.length p=true then some p else none)with|none=>_|some b=>_
  cases hh:ei x.toArray x.length p with
  |true=>rw[if_pos rfl];exact⟨aq _,yes p hh⟩
  |false=>
   rw[if_neg (by simp)];show bo (fg x p) (x.drop p)=x.drop p
   rcases Nat.lt_or_ge p x.length with h|h
   ·rw[no p h hh,ft (show x.length<=p+1 by omega),gM h,ft (show x.length<=p+1 by omega)];rfl
   ·rw[ft h];rfl
 |succ n ih=>
  intro p hp;show match(if ei x.toArray x.length p=true then some p else dI x.toArray x.length n (p+1))with|none=>_|some b=>_
  cases hh:ei x.toArray x.length p with
  |true=>rw[if_pos rfl];exact⟨aq _,yes p hh⟩
  |false=>
   rw[if_neg (by simp)];have I:=ih (p+1) ⋯
   rcases Nat.lt_or_ge p x.length with h|h
   ·cases hf:dI x.toArray x.length n (p+1)with
    |none=>rw[hf]at I;show bo _ _=_;rw[no p h hh,I,gM h]
    |some b=>
     rw[hf]at I;obtain⟨i1,i2,i3⟩:=I;refine⟨⋯,i2, ?_⟩;rw[no p h hh,i3,lG (p:=p) (b:=b) ⋯ ⋯];rfl
   ·cases hf:dI x.toArray x.length n (p+1)with
    |none=>show bo _ _=_;rw[ft h];rfl
    |some b=>rw[hf]at I;omega
theorem pZ(text:Array Nat)(lim:Nat):∀(n p b:Nat),dI text lim n p=some b->ei text lim b=true
 |0,p,b,h=>by
  have h:(if ei text lim p=true then some p else none)=some b:=h
  split at h
  ·injection h with h;subst h;assumption
  ·injections h
 |n+1,p,b,h=>by
  have h:(if ei text lim p=true then some p else dI text lim n (p+1))=some b:=h
  split at h
  ·injection h with h;subst h;assumption
  ·exact pZ text lim n (p+1) b h
theorem vG(x:List Nat):∀(n s:Nat),x.length-s<n->lq f1 [46,46] x n s=bo (fg x s) (x.drop s)
 |0,s,h=>⋯
 |n+1,s,h=>by
  have F:=vF x (x.length-s) s ⋯;have e:f1 x s=(dI x.toArray x.length (x.length-s) s).map λb=>(b,b+1):=by unfold f1;simp
  show(match f1 x s with|some (b,e)=>(x.take b).drop s++([46,46]++lq f1 [46,46] x n e)|none=>x.drop s)=_;rw[e];cases hf:dI x.toArray x.length (x.length-s) s with
  |none=>rw[hf]at F;exact F.symm
  |some b=>
   rw[hf]at F;obtain⟨h1,h2,h3⟩:=F;show(x.take b).drop s++([46,46]++lq f1 [46,46] x n (b+1))=_;rw[vG x n (b+1) ⋯,h3]
   by_cases hb:b+1<x.length\/True
   ·have:fg x (b+1)=(x.getD b 0==10):=by unfold fg;simp
    rw[this];have h46:x.getD b 0=46:=by
     have hm:=pZ x.toArray x.length (x.length-s) s b hf;unfold ei at hm;simp only[aK,beq_iff_eq]at hm;have h2:=hm.2
     rwa [gj]at h2
    rw[h46];rfl
   ·exact absurd (.inr trivial) hb
theorem vH(x:List Nat):∀(n p:Nat),x.length-p<=n->match dJ x.toArray x.length n p with
 |none=>aB false (x.drop p)=x.drop p
 |some b=>p<=b/\b<x.length/\aB false (x.drop p)=(x.take b).drop p++(13::10::aB false (x.drop (eY x.toArray x.length b))):=by
 intro n
 induction n with
 |zero=>
  intro p hp;show aB false (x.drop p)=x.drop p;rw[ft ⋯];rfl
 |succ n ih=>
  intro p hp;show match(if i7 (x.toArray.getD p 0)=true then some p else dJ x.toArray x.length n (p+1))with|none=>_|some b=>_
  have I:=ih (p+1) ⋯;cases hh:i7 (x.toArray.getD p 0)with
  |true=>
   rw[if_pos rfl];rw[gj]at hh;have hlt:p<x.length:=by
    rcases Nat.lt_or_ge p x.length with h|h
    ·exact h
    ·rw[cA,List.getElem?_eq_none h]at hh;injections hh
   refine⟨aq _,hlt, ?_⟩;rw[jh,gM hlt];show aB false (x.getD p 0::x.drop (p+1))=13::10::aB false (x.drop (eY x.toArray x.length p));unfold eY;rw[gj,gj];have hc:x.getD p 0=10\/x.getD p 0=13:=by
    unfold i7 at hh;rw[Bool.or_eq_true,beq_iff_eq,beq_iff_eq]at hh;exact hh.symm
   rcases hc with hc|hc
   ·rw[hc,if_neg (by simp)];rfl
   ·rw[hc]
    show 13::10::aB true (x.drop (p+1))=_
    congr 2
    rcases Nat.lt_or_ge (p+1) x.length with h|h
    ·rw[gM h]
     by_cases h10:x.getD (p+1) 0=10
     ·rw[h10,if_pos (by simp[h])];rfl
     ·rw[if_neg (by simp only[aK,beq_iff_eq];exact λe=>h10 e.2),gM h]
      have e10:(x.getD (p+1) 0==10)=false:=by rw[beq_eq_false_iff_ne];exact h10
      rw[lF,lF,e10];rfl
    ·rw[if_neg (by simp only[aK,decide_eq_true_eq];omega),ft h];rfl
  |false=>
   rw[if_neg (by simp)];rw[gj]at hh
   rcases Nat.lt_or_ge p x.length with h|h
   ·have hno:aB false (x.drop p)=x.getD p 0::aB false (x.drop (p+1)):=by
     rw[gM h];unfold i7 at hh;simp only[Bool.or_eq_false_iff]at hh;rw[lF];have a:(x.getD p 0==13)=false:=by first|exact hh.2|exact hh.1
     have b:(x.getD p 0==10)=false:=by first|exact hh.1|exact hh.2
     rw[a,b];rfl
    cases hf:dJ x.toArray x.length n (p+1)with
    |none=>rw[hf]at I;show aB false _=_;rw[hno,I,<-gM h]
    |some b=>
     rw[hf]at I;obtain⟨i1,i2,i3⟩:=I;refine⟨⋯,i2, ?_⟩;rw[hno,i3,lG (p:=p) (b:=b) ⋯ ⋯];rfl
   ·cases hf:dJ x.toArray x.length n (p+1)with
    |none=>show aB false _=_;rw[ft h];rfl
    |some b=>rw[hf]at I;omega
theorem p8(x:List Nat):∀(n s:Nat),x.length-s<n->lq f2 [13,10] x n s=aB false (x.drop s)
 |0,s,h=>⋯
 |n+1,s,h=>by
  have F:=vH x (x.length-s) s ⋯;have e:f2 x s=(dJ x.toArray x.length (x.length-s) s).map λb=>(b,eY x.toArray x.length b):=by unfold f2;simp
  show(match f2 x s with|some (b,e)=>(x.take b).drop s++([13,10]++lq f2 [13,10] x n e)|none=>x.drop s)=_;rw[e];cases hf:dJ x.toArray x.length (x.length-s) s with
  |none=>rw[hf]at F;exact F.symm
  |some b=>
   rw[hf]at F;obtain⟨h1,h2,h3⟩:=F;have he:b<eY x.toArray x.length b:=by unfold eY;split<;>omega
   show(x.take b).drop s++([13,10]++lq f2 [13,10] x n (eY x.toArray x.length b))=_;rw[p8 x n _ ⋯,h3];rfl
theorem vJ(x:List Nat):yg (jS x)=bo true (aB false x):=by
 unfold yg jS;rw[p8 x _ 0 ⋯,List.drop_zero,vG _ _ 0 ⋯,List.drop_zero];rfl
end
section
open PySem PySem.W
open PySem.StrLaws PySem.Builtin.Str
theorem xf{l:List Nat}{a b n i:Nat}(hn:n=l.length):At (tx l) (tx [a,b]) n i↔l[i]? = some a/\l[i+1]? = some b:=by
 subst hn;unfold At;rw[subAt_eq];show i+2<=l.length/\((l.drop i).take 2==[a,b])=true↔_
 constructor
 ·rintro⟨h1,h2⟩
  have h3:=eq_of_beq h2;have e0:((l.drop i).take 2)[0]? = some a:=by rw[h3];rfl
  have e1:((l.drop i).take 2)[1]? = some b:=by rw[h3];rfl
  rw[List.getElem?_take,if_pos nofun,List.getElem?_drop]at e0 e1;exact⟨e0,e1⟩
 ·rintro⟨h1,h2⟩
  obtain⟨k1,e1⟩:=List.getElem?_eq_some_iff.mp h1;obtain⟨k2,e2⟩:=List.getElem?_eq_some_iff.mp h2;refine⟨⋯, ?_⟩;rw[List.drop_eq_getElem_cons k1,List.drop_eq_getElem_cons k2,e1,e2];simp
theorem xg{l:List Nat}{a n i:Nat}(hn:n=l.length):At (tx l) (tx [a]) n i↔l[i]? = some a:=by
 subst hn;exact subAt_one (tx l) a i
theorem gZ(l:List Nat)(a b:Nat):(strSub (tx l) a b).cps.toList=(l.drop a).take (b-a):=strSub_toList _ _ _
theorem p9{l last:List Nat}(hlast:13∉last):∀(rows:List (List Nat)) (a:Nat) (cuts:List Nat) (f:Nat),(∀r∈rows,13∉r)->l.drop a=(rows.map (· ++ [13,10])).flatten++last->a<=l.length->ChainG (tx l) (tx [13,10]) l.length a cuts f->(∀k,f<=k->¬At (tx l) (tx [13,10]) l.length k) ->
 (partsFrom (tx l) 2 a cuts).map (λx=>x.cps.toList)=rows++[last]
 |[],a,cuts,f,hr,hd,ha,hc,hf=>by
  have hd:l.drop a=last:=by simpa using hd
  induction cuts using List.casesOn with
  |nil=>
   show[(strSub (tx l) a (tx l).length).cps.toList]=[last];rw[gZ,hd]
   congr 1
   exact gE (by rw[<-hd];show(l.drop a).length<=l.length-a;simp)
  |cons c r=>
   have h1:=((xf rfl).mp hc.2.1).1;have h2:last[c-a]? = some 13:=by rw[<-hd,List.getElem?_drop,show a+(c-a)=c by have:=hc.1;omega];exact h1
   exact absurd (gH h2) hlast
 |row::rows,a,cuts,f,hr,hd,ha,hc,hf=>by
  have hd':l.drop a=row++13::10::((rows.map (· ++ [13,10])).flatten++last):=by rw[hd];simp
  have hat:At (tx l) (tx [13,10]) l.length (a+row.length):=(xf rfl).mpr ⟨by rw[<-List.getElem?_drop,hd',List.getElem?_append_right (aq _),Nat.sub_self];rfl,by
   rw[show a+row.length+1=a+(row.length+1)by omega,<-List.getElem?_drop,hd',List.getElem?_append_right ⋯,show row.length+1-row.length=1 by omega];rfl⟩
  have hrow:=hr row (aO ..)
  induction cuts using List.casesOn with
  |nil=>
   have e:f=a:=hc;exact absurd hat (hf _ ⋯)
  |cons c r=>
   obtain⟨h1,h2,h3,h4⟩:=hc;have hle:c<=a+row.length:=by
    rcases Nat.lt_or_ge (a+row.length) c with h|h
    ·exact absurd hat (h3 _ ⋯ h)
    ·exact h
   have hce:c=a+row.length:=by
    rcases Nat.lt_or_ge c (a+row.length)with h|h
    ·have e13:=((xf rfl).mp h2).1
     have:row[c-a]? = some 13:=by
      have:(l.drop a)[c-a]? = some 13:=by rw[List.getElem?_drop,show a+(c-a)=c by omega];exact e13
      rw[hd',List.getElem?_append_left ⋯]at this;exact this
     exact absurd (gH this) hrow
    ·omega
   subst hce;have hlen:a+row.length+2<=l.length:=by
    have:=congrArg List.length hd';simp at this
    omega
   have hd2:l.drop (a+row.length+2)=(rows.map (· ++ [13,10])).flatten++last:=by
    rw[show a+row.length+2=a+(row.length+2)by omega,<-List.drop_drop,hd',show row.length+2=(row++[13,10]).length by simp,show row++13::10::((rows.map (· ++ [13,10])).flatten++last)=(row++[13,10])++((rows.map (· ++ [13,10])).flatten++last)by simp];exact List.drop_left
   show(strSub (tx l) a (a+row.length)).cps.toList::(partsFrom (tx l) 2 (a+row.length+2) r).map (λx=>x.cps.toList)=row::(rows++[last]);rw[p9 hlast rows (a+row.length+2) r f (λx hx=>hr x (aG _ hx)) hd2 ⋯ h4 hf,gZ,hd',show a+row.length-a=row.length by omega,List.take_left]
theorem xh{rows:List (List Nat)}{last:List Nat}(hr:∀r∈rows,13∉r)(hlast:13∉last)(hne:rows≠[]):aQ ((rows.map (· ++ [13,10])).flatten++last) [13,10]=rows++[last]:=by
 generalize hl:(rows.map (· ++ [13,10])).flatten++last=l;obtain⟨f,h1,h2⟩:=occ_tight (tx l) (tx [13,10]) nofun;have C:=p9 hlast rows 0 _ f hr (by rw[List.drop_zero,hl]) (bw _) h1 h2;have hmem:13∈l:=by
  induction rows using List.casesOn with
  |nil=>exact absurd rfl hne
  |cons r rs=>rw[<-hl];simp
 unfold aQ Txt.split;have hk:(decide ((tx l).length<(tx [13,10]).length)||decide (strKind (tx l)<strKind (tx [13,10])))=false:=by
  rw[Bool.or_eq_false_iff]
  constructor
  ·apply bg
   show ¬l.length<2
   induction rows using List.casesOn with
   |nil=>exact absurd rfl hne
   |cons r rs=>rw[<-hl];simp;omega
  ·apply bg
   intro hlt;have e:strKind (tx [13,10])=strKind (⟨#[13]⟩:Str):=by decide +kernel
   rw[e]at hlt;exact kind_free (tx l) 13 hlt hmem
 rw[hk,if_neg (by simp)];cases ho:occurrences (tx l) (tx [13,10]) 0 (tx l).length ((tx l).length+1)with
 |nil=>
  rw[ho]at C;rw[if_pos (show([]:List Nat).isEmpty=true from rfl)];have C':[(strSub (tx l) 0 l.length).cps.toList]=rows++[last]:=C;have e:(strSub (tx l) 0 l.length).cps.toList=l:=by rw[gZ];simp
  rw[e]at C';exact C'
 |cons c r=>
  rw[ho]at C;rw[if_neg (show ¬(c::r).isEmpty=true by simp),partsBetween_eq];exact C
end
section
open PySem PySem.W
theorem lH(x y:Nat):ab [x] [y]=Nat.beq x y:=by show(Nat.beq x y&&true)=_;rw[Bool.and_true]
theorem cP{x y:Nat}(h:x≠y):Nat.beq x y=false:=by
 cases e:Nat.beq x y with
 |true=>exact absurd (eH e) h
 |false=>rfl
theorem g6(a b:List Nat):ab a b=ab b a:=by
 cases h:ab a b with
 |true=>rw[an.mp h];exact(an.mpr rfl).symm
 |false=>
  cases h2:ab b a with
  |true=>rw[an.mp h2,an.mpr rfl]at h;injections h
  |false=>rfl
theorem vK(x y:Nat):de x y=de y x:=by
 unfold de;rw[g6 [x] [y],g6 (cu [x]) (cu [y])]
theorem zn(x:Nat):de x x=0:=by unfold de;rw[an.mpr rfl];rfl
theorem gA(x y:Nat):0<=de x y/\de x y<=2:=by
 unfold de;cases ab [x] [y]<;>cases ab (cu [x]) (cu [y])<;>exact⟨nofun,nofun⟩
inductive Al:List Nat->List Nat->Int->Prop
 |nil:Al [] [] 0
 |sub (x y:Nat) {a b:List Nat} {n:Int} (_:Al a b n):Al (x::a) (y::b) (n+de x y)
 |del (x:Nat) {a b:List Nat} {n:Int} (_:Al a b n):Al (x::a) b (n+2)
 |ins (y:Nat) {a b:List Nat} {n:Int} (_:Al a b n):Al a (y::b) (n+2)
theorem Al.cast{a b:List Nat}{n m:Int}(h:Al a b n)(e:n=m):Al a b m:=e▸h
theorem Al.nonneg{a b:List Nat}{n:Int}(h:Al a b n):0<=n:=by
 induction h with
 |nil=>exact Int.le_refl _
 |sub x y _ ih=>have:=gA x y;omega
 |del _ _ ih=>omega
 |ins _ _ ih=>omega
theorem Al.len{a b:List Nat}{n:Int}(h:Al a b n):2*((b.length:Int)-a.length)<=n:=by
 induction h with
 |nil=>exact Int.le_refl _
 |sub x y _ ih=>have:=gA x y;simp only[aP];omega
 |del _ _ ih=>simp only[aP];omega
 |ins _ _ ih=>simp only[aP];omega
theorem Al.sym{a b:List Nat}{n:Int}(h:Al a b n):Al b a n:=by
 induction h with
 |nil=>exact .nil
 |sub x y _ ih=>rw[vK];exact .sub y x ih
 |del x _ ih=>exact .ins x ih
 |ins y _ ih=>exact .del y ih
theorem Al.app{a b c d:List Nat}{n m:Int}(h:Al a b n)(k:Al c d m):Al (a++c) (b++d) (n+m):=by
 induction h with
 |nil=>exact k.cast (Int.zero_add m).symm
 |sub x y _ ih=>exact(Al.sub x y ih).cast ⋯
 |del x _ ih=>exact(Al.del x ih).cast ⋯
 |ins y _ ih=>exact(Al.ins y ih).cast ⋯
theorem Al.rev{a b:List Nat}{n:Int}(h:Al a b n):Al a.reverse b.reverse n:=by
 induction h with
 |nil=>exact .nil
 |sub x y _ ih=>rw[List.reverse_cons,List.reverse_cons];exact(ih.app (.sub x y .nil)).cast ⋯
 |del x _ ih=>rw[List.reverse_cons];exact((ih.app (.del x .nil)).cast ⋯:Al (_++[x]) (_++[]) _)|>λh=>by rwa [bY]at h
 |ins y _ ih=>rw[List.reverse_cons];exact((ih.app (.ins y .nil)).cast ⋯:Al (_++[]) (_++[y]) _)|>λh=>by rwa [bY]at h
theorem Al.rev_iff{a b:List Nat}{n:Int}:Al a.reverse b.reverse n↔Al a b n:=⟨λh=>by have:=h.rev;rwa [List.reverse_reverse,List.reverse_reverse]at this,Al.rev⟩
theorem Al.all_del:∀a:List Nat,Al a [] (2*a.length)
 |[] => .nil
 |x::a=>(Al.del x (Al.all_del a)).cast (by simp only[aP];omega)
theorem Al.less{a b:List Nat}{c:Nat}{n:Int}(h:Al a (c::b) n):∃m,m<=n+2/\Al a b m:=by
 generalize e:c::b=d at h
 induction h with
 |nil=>injections e
 |sub x y h ih=>
  injection e with e1 e2;subst e2
  have:=gA x y;exact⟨_,⋯, .del x h⟩
 |del x h ih=>
  obtain⟨m,h1,h2⟩:=ih e;exact⟨_,⋯, .del x h2⟩
 |ins y h ih=>
  injection e with e1 e2;subst e2
  exact⟨_,⋯,h⟩
theorem Al.strip{a b:List Nat}{c:Nat}{n:Int}(h:Al (c::a) (c::b) n):∃m,m<=n/\Al a b m:=by
 cases h with
 |sub _ _ h=>have:=gA c c;exact⟨_,⋯,h⟩
 |del _ h=>obtain⟨m,h1,h2⟩:=h.less;exact⟨m,⋯,h2⟩
 |ins _ h=>obtain⟨m,h1,h2⟩:=h.sym.less;exact⟨m,⋯,h2.sym⟩
theorem sj:∀(a b:List Nat),a.take (bn a b)=b.take (bn a b)
 |[],b=>by induction b using List.casesOn<;>rfl
 |x::a,[]=>rfl
 |x::a,y::b=>by
  have e:bn (x::a) (y::b)=bif ab [x] [y]then bn a b+1 else 0:=rfl
  rw[e];cases h:ab [x] [y]with
  |false=>rfl
  |true=>
   have:=an.mp h
   injection this with h _
   rw[h,cond_true,List.take_succ_cons,List.take_succ_cons,sj a b]
theorem Al.pre:∀(c:List Nat) {a b:List Nat} {n:Int},Al (c++a) (c++b) n->∃m,m<=n/\Al a b m
 |[],_,_,n,h=>⟨n,Int.le_refl _,h⟩
 |x::c,_,_,n,h=>by
  obtain⟨m,h1,h2⟩:=h.strip;obtain⟨k,h3,h4⟩:=Al.pre c h2;exact⟨k,⋯,h4⟩
theorem Al.unpre:∀(c:List Nat) {a b:List Nat} {n:Int},Al a b n->Al (c++a) (c++b) n
 |[],_,_,_,h=>h
 |x::c,_,_,n,h=>(Al.sub x x (Al.unpre c h)).cast (by rw[zn];omega)
noncomputable def Bx(a b a' b':List Nat):Prop:=(∀n,Al a b n->∃m,m<=n/\Al a' b' m)/\∀n,Al a' b' n->Al a b n
theorem vL(a b:List Nat):Bx a b (a.drop (bn a b)) (b.drop (bn a b)):=by
 have ea:=List.take_append_drop (bn a b) a;have eb:=List.take_append_drop (bn a b) b;rw[<-sj]at eb;exact⟨λn h=>Al.pre (a.take (bn a b)) (by rw[ea,eb];exact h),λn h=>by
  have:=Al.unpre (a.take (bn a b)) h
  rwa [ea,eb]at this⟩
theorem By{a b a' b':List Nat}(h:Bx a.reverse b.reverse a'.reverse b'.reverse):Bx a b a' b':=
 ⟨λn k=>by obtain⟨m,h1,h2⟩:=h.1 n k.rev;exact⟨m,h1,Al.rev_iff.mp h2⟩,λn k=>Al.rev_iff.mp (h.2 n k.rev)⟩
theorem ym(a:List Nat)(q:Nat):(bI a q).reverse=a.reverse.drop q:=by
 unfold bI;rw[List.reverse_take,List.drop_reverse,List.drop_reverse]
 by_cases h:q<=a.length
 ·rw[show a.length-(a.length-q)=q by omega]
 ·rw[show a.length-q=0 by omega];simp
theorem Bz(a b:List Nat):Bx a b (bI a (bn a.reverse b.reverse)) (bI b (bn a.reverse b.reverse)):=
 By (by rw[ym,ym];exact vL _ _)
noncomputable def cW(a b:List Nat)(v:Int):Prop:=Al a b v/\∀n,Al a b n->v<=n
noncomputable def kq(a b:List Nat)(m r:Int):Prop:=cW a b r\/(r=m+1/\∀n,Al a b n->m<n)
theorem kq.equi{a b a' b':List Nat}{m r:Int}(e:Bx a b a' b')(h:kq a' b' m r):kq a b m r:=by
 rcases h with h|⟨h1,h2⟩
 ·exact .inl ⟨e.2 _ h.1,λn k=>by obtain⟨x,h3,h4⟩:=e.1 n k;have:=h.2 x h4;omega⟩
 ·exact .inr ⟨h1,λn k=>by obtain⟨x,h3,h4⟩:=e.1 n k;have:=h2 x h4;omega⟩
theorem kq.sym{a b:List Nat}{m r:Int}(h:kq a b m r):kq b a m r:=h.imp (λh=>⟨h.1.sym,λn k=>h.2 n k.sym⟩) λh=>⟨h.1,λn k=>h.2 n k.sym⟩
theorem cW.nil(a:List Nat):cW a [] (2*a.length):=⟨Al.all_del a,λn h=>by have:=h.sym.len;simp only[List.length_nil]at this;omega⟩
theorem cW.lin(b:List Nat):cW [] b (2*b.length):=⟨(Al.all_del b).sym,λn h=>by have:=h.len;simp only[List.length_nil]at this;omega⟩
theorem BA(a b:Int):(bif decide (a<b)then a else b)<=a/\(bif decide (a<b)then a else b)<=b/\((bif decide (a<b)then a else b)=a\/(bif decide (a<b)then a else b)=b):=by
 by_cases h:a<b
 ·rw[ai h];exact⟨Int.le_refl _,Int.le_of_lt h, .inl rfl⟩
 ·rw[bg h];exact⟨Int.not_lt.mp h,Int.le_refl _, .inr rfl⟩
theorem cW.step {a b:List Nat} {x y:Nat} {u d q res r:Int} (h1:cW a b u) (h2:cW (a++[x]) b d) (h3:cW a (b++[y]) q) (hr:res=q\/(res=u/\u<=q))
 (e:r=bif decide (u+de y x<(bif decide (d<res)then d else res)+2)then u+de y x else(bif decide (d<res)then d else res)+2):cW (a++[x]) (b++[y]) r:=by
 have c:=gA x y;obtain⟨m1,m2,m3⟩:=BA d res;obtain⟨r1,r2,r3⟩:=BA (u+de y x) ((bif decide (d<res)then d else res)+2);rw[<-e,vK y x]at r1 r3;rw[<-e]at r2;clear e;generalize (bif decide (d<res)then d else res)=m at m1 m2 m3 r2 r3;have g2:r<=d+2:=Int.le_trans r2 (Int.add_le_add_right m1 2);have g3:r<=q+2:=Int.le_trans r2 (Int.add_le_add_right (Int.le_trans m2 (by
  rcases hr with k|⟨k,k2⟩
  ·exact Int.le_of_eq k
  ·rw[k];exact k2)) 2)
 have g4:r=u+de x y\/r=d+2\/r=q+2:=by
  rcases r3 with k|k
  ·exact .inl k
  ·rcases m3 with k2|k2
   ·exact .inr (.inl (by rw[k,k2]))
   ·rcases hr with k3|⟨k3,_⟩
    ·exact .inr (.inr (by rw[k,k2,k3]))
    ·exact .inl (Int.le_antisymm r1 (by rw[k,k2,k3];exact Int.add_le_add_left c.2 u))
 constructor
 ·rcases g4 with g|g|g
  ·rw[g];exact(h1.1.app (.sub x y .nil)).cast (by rw[Int.zero_add])
  ·rw[g];exact((h2.1.app (.ins y .nil)).cast (by rw[Int.zero_add]):Al (_++[]) (_++[y]) _)|>λh=>by rwa [bY]at h
  ·rw[g];exact((h3.1.app (.del x .nil)).cast (by rw[Int.zero_add]):Al (_++[x]) (_++[]) _)|>λh=>by rwa [bY]at h
 ·intro n h
  replace h:=h.rev
  rw[List.reverse_append,List.reverse_append]at h;generalize ea:a.reverse=a',eb:b.reverse=b' at h;cases h with
  |sub _ _ h=>exact Int.le_trans r1 (Int.add_le_add_right (h1.2 _ (Al.rev_iff.mp (by rw[ea,eb];exact h))) _)
  |del _ h=>exact Int.le_trans g3 (Int.add_le_add_right (h3.2 _ (Al.rev_iff.mp (by rw[ea,List.reverse_append,eb];exact h))) _)
  |ins _ h=>exact Int.le_trans g2 (Int.add_le_add_right (h2.2 _ (Al.rev_iff.mp (by rw[eb,List.reverse_append,ea];exact h))) _)
theorem mx{a:List Nat}{k:Nat}(h:k<a.length):a.take (k+1)=a.take k++[a.getD k 0]:=by
 rw[List.take_add_one,gF h,cA,gF h];rfl
theorem BB{row:List Int}{k:Nat}{r:Int}(h:k<row.length):(row.set k r).getD k 0=r:=by
 rw[cA,List.getElem?_set_self h];rfl
theorem yn{row:List Int}{k i:Nat}{r:Int}(h:k≠i):(row.set k r).getD i 0=row.getD i 0:=by
 rw[cA,List.getElem?_set_ne h,cA]
structure ik(a bj:List Nat)(c:Nat)(k:Nat)(s:LS):Prop where
 len:s.row.length=a.length
 lo:∀i,i<k->cW (a.take (i+1)) (bj++[c]) (s.row.getD i 0)/\s.mn<=s.row.getD i 0
 hi:∀i,k<=i->i<a.length->cW (a.take (i+1)) bj (s.row.getD i 0)
 dist:cW (a.take k) bj s.dist
 res:∃q,cW (a.take k) (bj++[c]) q/\(s.res=q\/(s.res=s.dist/\s.dist<=q))
 end_:0<k->cW (a.take k) (bj++[c]) s.res
theorem ik.step{a bj:List Nat}{c k:Nat}{s:LS}(h:ik a bj c k s)(hk:k<a.length):ik a bj c (k+1) (kn c a k s):=by
 obtain⟨q,h1,h2⟩:=h.res;have hd:=h.hi k (aq _) hk;have hl:k<s.row.length:=by rw[h.len];exact hk
 have ht:=mx hk;have M:∀r,r=(bif decide (s.dist+de c (a.getD k 0)<(bif decide (s.row.getD k 0<s.res)then s.row.getD k 0 else s.res)+2)then s.dist+de c (a.getD k 0)else(bif decide (s.row.getD k 0<s.res)then s.row.getD k 0 else s.res)+2) ->
  cW (a.take (k+1)) (bj++[c]) r:=λr e=>by
  rw[ht]at hd |-;exact h.dist.step hd h1 h2 e
 obtain⟨r,hr⟩:∃r,r=(bif decide (s.dist+de c (a.getD k 0)<(bif decide (s.row.getD k 0<s.res)then s.row.getD k 0 else s.res)+2)then s.dist+de c (a.getD k 0)else(bif decide (s.row.getD k 0<s.res)then s.row.getD k 0 else s.res)+2):=⟨_,rfl⟩;have e:kn c a k s=⟨s.row.set k r,s.row.getD k 0,r,bif decide (r<s.mn)then r else s.mn⟩:=by rw[hr];rfl
 have mn1:(bif decide (r<s.mn)then r else s.mn)<=r/\(bif decide (r<s.mn)then r else s.mn)<=s.mn:=by
  by_cases g:r<s.mn
  ·rw[ai g];exact⟨Int.le_refl _,Int.le_of_lt g⟩
  ·rw[bg g];exact⟨Int.not_lt.mp g,Int.le_refl _⟩
 have M:=M r hr;rw[e];refine⟨(List.length_set ..).trans h.len,λi hi => ?_,λi hi hi2 => ?_,hd,⟨r,M, .inl rfl⟩,λ_=>M⟩
 ·dsimp only
  by_cases g:k=i
  ·subst g;rw[BB hl];exact⟨M,mn1.1⟩
  ·rw[yn g]
   have:=h.lo i ⋯;exact⟨this.1,Int.le_trans mn1.2 this.2⟩
 ·dsimp only
  rw[yn ⋯];exact h.hi i ⋯ hi2
theorem ik.run{a bj:List Nat}{c:Nat}{s:LS}(h:ik a bj c 0 s):∀k,k<=a.length->ik a bj c k (gz c a s k)
 |0,_=>h
 |k+1,hk=>(ik.run h k ⋯).step ⋯
theorem Al.split{a b:List Nat}{n:Int}(h:Al a b n):∀{b1 b2:List Nat},b=b1++b2->∃i m,i<=a.length/\m<=n/\Al (a.take i) b1 m:=by
 induction h with
 |nil=>intro b1 b2 e;exact⟨0,0,aq _,Int.le_refl _,by rw[(List.append_eq_nil_iff.mp e.symm).1];exact .nil⟩
 | @sub x y a b n h ih=>
   intro b1 b2 e;have c:=gA x y;cases b1 with
   |nil=>exact⟨0,0,bw _,by have:=h.nonneg;omega, .nil⟩
   |cons z b1=>
    injection e with e1 e2;subst e1
    obtain⟨i,m,h1,h2,h3⟩:=ih e2;exact⟨i+1,_,by rw[aP];omega,⋯, .sub x y h3⟩
 | @del x a b n h ih=>
   intro b1 b2 e;obtain⟨i,m,h1,h2,h3⟩:=ih e;exact⟨i+1,_,by rw[aP];omega,⋯, .del x h3⟩
 | @ins y a b n h ih=>
   intro b1 b2 e;cases b1 with
   |nil=>exact⟨0,0,bw _,by have:=h.nonneg;omega, .nil⟩
   |cons z b1=>
    injection e with e1 e2;subst e1
    obtain⟨i,m,h1,h2,h3⟩:=ih e2;exact⟨i,_,h1,⋯, .ins y h3⟩
theorem vM{a:List Nat}(ha:0<a.length)(m:Int):∀(bs bj:List Nat) (j:Nat) (row:List Int) (res:Int),j=bj.length->row.length=a.length->(∀i,i<a.length->cW (a.take (i+1)) bj (row.getD i 0))->(bs=[]->cW a bj res)->kq a (bj++bs) m (jc a m bs j row res)
 |[],bj,j,row,res,_,_,_,h => .inl (by rw[bY];exact h rfl)
 |c::bs,bj,j,row,res,hj,hl,hr,_=>by
  have J:ik a bj c a.length (gz c a ⟨row,(j:Int)*2,(j:Int)*2,Ew⟩ a.length):=by
   refine ik.run ⟨hl,λi h=>absurd h (Nat.not_lt_zero _),λi _ h=>hr i h, ?_,⟨2*((bj++[c]).length:Nat),cW.lin _, .inr ⟨rfl, ?_⟩⟩,λh=>absurd h (dl _)⟩ _ (aq _)
   ·rw[show(j:Int)*2=2*(bj.length:Nat)by omega];exact cW.lin bj
   ·simp only[bk,fu];omega
  show kq a (bj++c::bs) m (let s:=gz c a ⟨row,(j:Int)*2,(j:Int)*2,Ew⟩ a.length;bif decide (m<s.mn)then m+1 else jc a m bs (j+1) s.row s.res);generalize gz c a ⟨row,(j:Int)*2,(j:Int)*2,Ew⟩ a.length=s at J;dsimp only;rw[show bj++c::bs=(bj++[c])++bs by simp]
  by_cases g:m<s.mn
  ·rw[ai g]
   refine .inr ⟨rfl,λn h => ?_⟩;obtain⟨i,n1,h1,h2,h3⟩:=h.split rfl;cases i with
   |zero=>
    have l1:=h3.len;obtain⟨d1,d2⟩:=J.lo 0 ha;have al:Al (a.take (0+1)) (bj++[c]) (2*(bj.length:Nat)+de (a.getD 0 0) c):=by
     rw[mx ha];exact((cW.lin bj).1.app (.sub _ _ .nil)).cast ⋯
    have:=d1.2 _ al;have:=gA (a.getD 0 0) c;simp only[bk,fu,List.take_zero,List.length_nil]at l1
    omega
   |succ i=>
    obtain⟨d1,d2⟩:=J.lo i ⋯;have:=d1.2 _ h3
    omega
  ·rw[bg g]
   refine vM ha m bs (bj++[c]) (j+1) s.row s.res (by simp only[bk,fu];omega) J.len (λi h=>(J.lo i h).1) λ_ => ?_
   have:=J.end_ ha
   rwa [List.take_length]at this
theorem sk{a b:List Nat}(m:Int)(ha:0<a.length)(hab:a.length<=b.length):kq a b m (m9 a b m):=by
 unfold m9
 by_cases g:m<((b.length:Int)-a.length)*2
 ·rw[ai g]
  exact .inr ⟨rfl,λn h=>by have:=h.len;omega⟩
 ·rw[bg g]
  refine vM ha m b [] 0 _ 0 rfl (by simp) (λi h => ?_) λe=>by rw[e]at hab;exact absurd hab (Nat.not_le.mpr ha)
  have e:((List.range' 1 a.length).map λi:Nat=>(i:Int)*2).getD i 0=2*((a.take (i+1)).length:Nat):=by
   rw[cA,List.getElem?_map,List.getElem?_range' h,cR,Nat.min_eq_left ⋯];show((1+1*i:Nat):Int)*2=_
   omega
  rw[e];exact cW.nil _
theorem BC{a b:List Nat}(m:Int)(ha:a.length<=40)(hb:b.length<=40):kq a b m (vy a b m):=by
 unfold vy;cases a with
 |nil=>
  refine .inl ?_;have:=cW.lin b;rw[show 2*(((([]:List Nat).length:Nat):Int)+b.length)=2*(b.length:Nat)by simp only[List.length_nil];omega];exact this
 |cons x a=>cases b with
  |nil=>
   refine .inl ?_;show cW (x::a) [] (2*(((x::a).length:Int)+(([]:List Nat).length:Nat)));rw[show 2*(((x::a).length:Int)+(([]:List Nat).length:Nat))=2*((x::a).length:Nat)by simp only[List.length_nil];omega];exact cW.nil _
  |cons y b=>
   rw[bg (Nat.not_lt.mpr ha),bg (Nat.not_lt.mpr hb)];show kq (x::a) (y::b) m (bif decide ((y::b).length<(x::a).length)then m9 (y::b) (x::a) m else m9 (x::a) (y::b) m)
   by_cases g:(y::b).length<(x::a).length
   ·rw[ai g]
    exact(sk m (show 0<(y::b).length from Nat.succ_pos _) (Nat.le_of_lt g)).sym
   ·rw[bg g]
    exact sk m (show 0<(x::a).length from Nat.succ_pos _) (Nat.not_lt.mp g)
end
section
open PySem PySem.W PySem.Challenge
noncomputable def vN(i:Nat):V := .int (i:Int)
theorem kr{s:List V}(h:s.length<=cap):sQ (.list s)=(true,s):=by
 show((decide (s.length<=cap),s):Bool×List V)=_;rw[ai h]
theorem yo{row:List Nat}{i:Nat}(h:i<row.length):(row.map vN).getD i .none=vN (row.getD i 0):=by
 simp[cA,h]
theorem qa{α:Type}{f:α->V}{row:List α}{i:Nat}(d:α)(h:i<row.length):(row.map f).getD i .none=f (row.getD i d):=by
 simp[cA,h]
theorem dL{α:Type}{row:List α}{i:Nat}(d:α)(h:i<row.length):row.getD i d∈row:=by
 rw[cA,gF h];exact List.getElem_mem h
noncomputable def tableL:List Nat:=[173,847,6150,6155,6156,6157,8203,8204,8205,8288,65279,65024,65025,65026,65027,65028,65029,65030,65031,65032,65033,65034,65035,65036,65037,65038,65039]
theorem add_str{a b:List Nat}(h:a.length+b.length<=cap):dv .Add (.str a) (.str b)=(true, .str (a++b)):=by
 show((decide (a.length+b.length<=cap),V.str (a++b)):R)=_;rw[ai h]
theorem xi{c:Nat}(h:c<1114112):iM (nm "chr") [vN c]=(true, .hid c):=by
 show((decide (0<=(c:Int))&&decide ((c:Int)<1114112),V.hid (c:Int).toNat):R)=_;rw[ai ⋯,ai ⋯];rfl
theorem FM{c:Nat}:iM (nm "ord") [.str [c]]=(true,vN c):=rfl
theorem tY{a k:Nat}(h:k≠0):dv .Mod (vN a) (vN k)=(true,vN (a%k)):=Hk h
theorem FN{a k:Nat}(h:k≠0)(h2:k<10000000000):dv .FloorDiv (vN a) (vN k)=(true,vN (a/k)):=Hm h h2
theorem BD{l:List Nat}{k:Nat}(hs:l.length<=cap)(hk:k<l.length):kM 0 (.list (l.map vN)) (vN k)=(true,vN (l.getD k 0)):=
 vE (by rw[aW];exact hs) (by rw[aW];exact hk) (yo hk)
theorem yp{l:List Nat}{k:Nat}(hs:l.length<=cap)(hk:k<l.length):kM 0 (.tup (l.map vN)) (vN k)=(true,vN (l.getD k 0)):=
 fW (by rw[aW];exact hs) (by rw[aW];exact hk) (yo hk)
theorem BE{l:List (List Nat)}{k:Nat}(hs:l.length<=cap)(hk:k<l.length):kM 0 (.list (l.map .str)) (vN k)=(true, .str (l.getD k [])):=
 vE (by rw[aW];exact hs) (by rw[aW];exact hk) (qa [] hk)
noncomputable def iu(t:List Nat):Prop:=∀c∈t,c≠10/\c≠13
theorem kt:∀(t r:List Nat),iu t->bo false (t++r)=t++bo false r
 |[],r,_=>rfl
 |c::t,r,h=>by
  have hc:=h c (aO ..);have b:(c==10)=false:=by rw[beq_eq_false_iff_ne];exact hc.1
  show(bif false&&c==46 then _ else c::bo (c==10) (t++r))=_;rw[b];show c::bo false (t++r)=_;rw[kt t r λx hx=>h x (aG _ hx)];rfl
noncomputable def fQuoteP:List V->R:=iL (mJ λx=>(decide (x.length<=10000), .str (bo true (aB false x))))
theorem ji:∀(b:Bool) (x:List Nat),(aB b x).length<=2*x.length
 |_,[]=>aq _
 |b,c::x=>by
  have h1:=ji true x;have h2:=ji false x;show(bif c==13 then 13::10::aB true x else bif c==10 then(bif b then aB false x else 13::10::aB false x)else c::aB false x).length<=2*(x.length+1);cases c==13<;>cases c==10<;>induction b using Bool.casesOn<;>simp<;>omega
theorem DL{as:List V}(h:(fQuoteP as).1=true):fQuote as=fQuoteP as:=by
 refine nL (λas r=>fQuote as=r) h λv h=>Ab (λv r=>fQuote [v]=r) h λx h => ?_
 have h1:=aY h;rw[ai h1];show((decide (x.length<=100000)&&decide ((jS x).length<=100000),V.str (yg (jS x))):R)=_;have h2:(jS x).length<=100000:=by
  have:jS x=aB false x:=by unfold jS;rw[p8 x _ 0 ⋯,List.drop_zero]
  rw[this];have:=ji false x;omega
 rw[ai ⋯,ai h2,vJ];rfl
theorem zo{l:List V}{k:Nat}(hs:l.length<=cap):eO (.list l) .none (.int (k:Int)) .none=(true, .list (l.take k)):=by
 show((decide (l.length<=cap),V.list (mM l none (some (k:Int)))):R)=_;rw[ai hs]
 congr 2
 unfold mM bound;dsimp only;rw[show decide ((k:Int)<0)=false by simp];simp only[cond_false,Int.toNat_natCast,List.drop_zero,Nat.sub_zero]
 by_cases h:k<=l.length
 ·rw[show Nat.min k l.length=k from Nat.min_eq_left h]
 ·rw[show Nat.min k l.length=l.length from Nat.min_eq_right ⋯,gE (aq _),gE ⋯]
theorem Ey(a b:Nat):gQ .Lt (vN a) (vN b)=(true,Nat.blt a b):=by
 show((true,decide ((a:Int)<(b:Int))):Bool×Bool)=_
 congr 1
 cases e:Nat.blt a b with
 |true=>have:=iA e;exact ai ⋯
 |false=>have:=Nat.not_le_of_not_ble_eq_true (n:=a+1) (m:=b) (by show ¬Nat.blt a b=true;rw[e];simp);exact bg ⋯
noncomputable def df(run:List Nat):List Nat->Int->Bool
 |[],_=>true
 |c::w,p=>bif decide (bT run [c] p+1=0)then false else df run w (bT run [c] p+1)
theorem qb{run w:List Nat}{c:Nat}{p:Int}:df run (c::w) p=bif decide (bT run [c] p+1=0)then false else df run w (bT run [c] p+1):=rfl
noncomputable abbrev ku:Fns:=⟨GL,[],[]⟩
noncomputable def fStands:List V->R:=dF ku [] 1000 (fK ["word","run"] lC)
noncomputable abbrev xj:List (Str×NameKind):=lC.scope.names
noncomputable abbrev BF:List Nm:=lD xj
noncomputable def Ih:List Stmt->List Stmt
 |_ :: .For _ _ b _ _::_=>b
 |_=>[]
theorem DM{run y:List Nat}{p:Int}(h1:run.length<=1000)(h2:y.isEmpty=false)(h3:0<=p)(h4:p<=1000000):fP ku (nm "find") (.str run) [.str y, .int p]=(true, .int (bT run y p)):=by
 show((decide (run.length<=cap) && !y.isEmpty&&decide (0<=p)&&small p,V.int (bT run y p)):R)=_;have hs:small p=true:=by unfold small big;rw[ai ⋯,ai ⋯];rfl
 rw[ai (show run.length<=cap by unfold cap;omega),h2,ai h3,hs];rfl
theorem DN(run y:List Nat)(p:Int) : -1<=bT run y p/\bT run y p<=run.length:=by
 have:=PyProof.Rows.fact_find3 (tx run) (tx y) p
 rwa [aV]at this
noncomputable abbrev HI:List Stmt:=Ih lC.body
theorem vO{word run:List Nat}{c:Nat}{p:Int}{μ:List Nm}{n:Nat}(hr:run.length<=1000)(h0:0<=p)(h1:p<=1001):ex ku [] μ 1000 xj (n+3) HI (aJ BF [vS word,vS run,vI p,vS [c]]) =
 bif decide (bT run [c] p+1=0)then(true, .ret (.bool false))else(true, .next (aJ BF [vS word,vS run,vI (bT run [c] p+1),vS [c]])):=by
 refine bG (v := .int (bT run [c] p+1)) (s:=vI (bT run [c] p+1)) 2 ∅ ∅ (cV (x := .int (bT run [c] p)) (y := .int 1) (aI rfl (fe (x := .str run) (vs:=[.str [c], .int p]) ∅ nofun rfl (aj 1 ∅ rfl) (ao (aj 3 ∅ rfl) (ao (aj 2 ∅ rfl) aA)) (DM hr rfl h0 ⋯))) (au rfl) rfl) rfl ?_;generalize bT run [c] p+1=q;refine pY (v := .bool (decide (q=0))) (decide (q=0)) ∅ ∅ (bH (x := .int q) (y := .int 0) nofun (aj 2 ∅ rfl) (au rfl) rfl) rfl ?_;cases decide (q=0)with
 |true=>exact ng ∅ (au rfl)
 |false=>rfl
noncomputable abbrev Ii(μ:List Nm)(n:Nat):V->Rho->Res:=λv ρ=>((bU (.Name "letter" default) v ρ).1&&(ex ku [] μ 1000 xj n HI (bU (.Name "letter" default) v ρ).2).1,(ex ku [] μ 1000 xj n HI (bU (.Name "letter" default) v ρ).2).2)
theorem nh{word run:List Nat}{μ:List Nm}{n:Nat}{p0:Int}(hr:run.length<=1000):∀(w:List Nat) (p:Int),0<=p->p<=1001 ->
 (df run w p=true->∃p',dc (Ii μ (n+3)) (aJ BF [vS word,vS run,vI p0, .un]) (ue w) (aJ BF [vS word,vS run,vI p, .un])=(true, .next (aJ BF [vS word,vS run,vI p', .un]))) /\
 (df run w p=false->dc (Ii μ (n+3)) (aJ BF [vS word,vS run,vI p0, .un]) (ue w) (aJ BF [vS word,vS run,vI p, .un])=(true, .ret (.bool false)))
 |[],p,_,_=>⟨λ_=>⟨p,rfl⟩,λh=>aa h.symm⟩
 |c::w,p,h0,h1=>by
  have b:=DN run [c] p;have T:=vO (word:=word) (c:=c) (μ:=μ) (n:=n) hr h0 h1;have e1:Ii μ (n+3) (.str [c]) (aJ BF [vS word,vS run,vI p, .un])=ex ku [] μ 1000 xj (n+3) HI (aJ BF [vS word,vS run,vI p,vS [c]]):=rfl;rw[T]at e1;rw[qb];show _/\_;generalize hq:bT run [c] p+1=q at e1 b |-;cases h:decide (q=0)with
  |true=>
   rw[h]at e1;exact⟨λk=>aa k,λ_=>yh e1⟩
  |false=>
   rw[h]at e1;have ih:=nh (word:=word) (μ:=μ) (n:=n) (p0:=p0) hr w q ⋯ ⋯;refine⟨λk => ?_,λk => ?_⟩
   ·obtain⟨p',e⟩:=ih.1 k
    exact⟨p',fc e1 e⟩
   ·exact fc e1 (ih.2 k)
theorem xk{word run:List Nat}(hw:word.length<=1000)(hr:run.length<=1000):fStands [.str word, .str run]=(true, .bool (df run word 0)):=by
 refine jf (ns:=BF) (ss:=[vS word,vS run, .un, .un]) rfl ∅ ?_;refine bG (v := .int 0) (s:=vI 0) 2 ∅ ∅ (au rfl) rfl ?_;have L:=nh (word:=word) (run:=run) (μ:=a0 (hZ 20) lC.body) (n:=195) (p0:=0) hr word 0 nofun nofun;have hi:ci xj (ev ku [] 40 xj (aJ BF [vS word,vS run,vI 0, .un])) (.Name "letter" default) (.Name "word" default)=(true,ue word):=by
  show(((true&&decide (word.length<=cap))&&true:Bool),ue word)=_;rw[ai (show word.length<=cap by unfold cap;omega)];rfl
 generalize df run word 0=b at L;cases b with
 |true=>
  obtain⟨p',e⟩:=L.1 rfl;exact yl ∅ hi ∅ e (ng ∅ (au rfl))
 |false=>exact zm ∅ hi ∅ (L.2 rfl)
section
variable {Φ:Fns} {τ:Tau} {μ:List Nm} {W n:Nat} {κ:List (Str×NameKind)} {ns:List Nm} {ss:List Mine.Slot} {rest:List Stmt} {res:Res} {p:Pos}
theorem qc {t:Expr} {a b:List Stmt} {v:V} {ssa ssb ss':List Mine.Slot} (c:Bool) (hf:freeze (bd 40 t) (aJ ns ss)=aJ ns ss) (hp:(bJ a&&bJ b&&aR (fits 20) a&&aR (fits 20) b)=true) (h:ev Φ τ 40 κ (aJ ns ss) t=(true,v)) (hv:ad v=(true,c))
 (ha:ex Φ τ μ W κ n a (aJ ns ss)=(true, .next (aJ ns ssa))) (hb:ex Φ τ μ W κ n b (aJ ns ss)=(true, .next (aJ ns ssb))) (hm:gP (a0 (fw 20) a++a0 (fw 20) b) c (aJ ns ssa) (aJ ns ssb)=aJ ns ss') (hr:ex Φ τ μ W κ n rest (aJ ns ss')=res):
 ex Φ τ μ W κ (n+1) (.If t a b p::rest) (aJ ns ss)=res:=
 nU hp (by rw[hf];exact h) hv (by rw[hf];exact ha) (by rw[hf];exact hb) (by cases c<;>rfl) (by rw[hm];exact hr)
end
noncomputable def fB3r:List V->R:=Ib vD 1000 rowsL zl (nm "code") pW
noncomputable def fB1r:List V->R:=Iu (pM jd)
noncomputable def Gq:Fns:=⟨GL,[(nm "quotedata",fQuoteP),(nm "in_table_b1",fB1r),(nm "map_table_b3",fB3r),(nm "_levenshtein_distance",fLev),(nm "Whitespace",G3 runW)],[]⟩
noncomputable abbrev IF:List (Str×NameKind):=Bp.scope.names
noncomputable abbrev nD:List Nm:=lD IF
noncomputable def fDone:List V->R:=dF Gq [] 1000 (fK ["hand","text","name"] Bp)
noncomputable def prepC(c:Nat):List Nat:=bif pM jd (c:Int)then[]else dY rowsL c
theorem vP{α:Type}(f:α->List Nat)(b:Nat):∀l:List α,(∀c∈l,(f c).length<=b)->(l.flatMap f).length<=b*l.length
 |[],_=>bw _
 |x::l,h=>by
  have h1:=h x (aO ..);have h2:=vP f b l λc hc=>h c (aG _ hc)
  rw[List.flatMap_cons,bk,aP,Nat.mul_succ]
  omega
theorem zp(l:List Nat):ue l=(List.range' 0 l.length).map λk=>V.str [l.getD k 0]:=by
 unfold ue;refine List.ext_getElem (by simp) λi h1 h2 => ?_
 have:i<l.length:=by simpa using h1
 simp[List.getElem_map,List.getElem_range',this]
noncomputable abbrev xl(h t n m:List Nat)(sg tk:Mine.Slot):List Mine.Slot:=[.val (.str h), .val (.str t), .val (.str n), .un, .un, .val (.str m),sg,tk, .un, .un, .un, .un]
theorem FO{t n:List Nat}(hl:t.length<=100)(hc:∀c∈t,(dY rowsL c).length<=4):fDone [.str [80], .str t, .str n]=(true, .str (t.flatMap prepC)):=by
 have ct:t.length<=cap:=by unfold cap;omega
 refine jf (ns:=nD) (ss:=[.val (.str [80]), .val (.str t), .val (.str n), .un, .un, .un, .un, .un, .un, .un, .un, .un]) rfl ∅ ?_;refine pY (v := .bool false) false ∅ ∅ ∅ rfl ?_;refine pY (v := .bool true) true ∅ ∅ ∅ rfl ?_;refine bG 5 ∅ (by decide +kernel) (v := .str []) ∅ (s := .val (.str ((t.take 0).flatMap prepC))) rfl ?_;refine Bv (λk=>xl [80] t n ((t.take k).flatMap prepC) .un .un) (λk => .str [t.getD k 0]) 0 t.length ∅ ?_ ∅ (λk h1 h2 => ?_) ?_
 ·rw[<-zp]
  exact dX ∅ (v := .str t) (aj 1 ∅ rfl) (by show((decide (t.length<=cap),ue t):Bool×List V)=_;rw[ai ct]) (.inl rfl)
 ·have hk:k<t.length:=⋯
  have e:(t.take (k+1)).flatMap prepC=(t.take k).flatMap prepC++prepC (t.getD k 0):=by rw[mx hk];simp
  have hb:((t.take k).flatMap prepC).length<=400:=by
   have:=vP prepC 4 (t.take k) λc h=>by
    have:=hc c (List.mem_of_mem_take h);unfold prepC;cases pM jd (c:Int)with
    |true=>exact bw _
    |false=>exact this
   rw[cR]at this;omega
  rw[e];have h4:=hc _ (dL 0 hk);generalize (t.take k).flatMap prepC=m at hb |-;generalize t.getD k 0=c at h4 |-;obtain⟨b,eb⟩:∃b,b=pM jd (c:Int):=⟨_,rfl⟩;unfold prepC;rw[<-eb];refine⟨xl [80] t n m (.val (.str [c])) .un,xl [80] t n (m++bif b then[]else dY rowsL c) (.val (.str [c])) (.val (.bool b)),∅, ?_,∅⟩;refine bG 7 ∅ (by decide +kernel) (v := .bool b) ?_ (s := .val (.bool b)) rfl ?_
  ·rw[eb]
   exact bX ∅ ∅ ∅ (vs:=[.str [c]]) (ao (aj 6 ∅ rfl) aA) (dW (F:=fB1r) rfl rfl)
  have two:∀b:Bool,(bif !b then m++dY rowsL c else bif !b then m++[63]else m)=m++bif b then[]else dY rowsL c:=λb=>by cases b<;>simp
  rw[<-two b];refine qc (!b) (ssa:=xl [80] t n (m++dY rowsL c) (.val (.str [c])) (.val (.bool b))) (ssb:=xl [80] t n (bif !b then m++[63]else m) (.val (.str [c])) (.val (.bool b))) ∅ (by decide +kernel) (v := .bool (!b)) ?_ rfl ?_ ?_ ∅ cF
  ·exact bH nofun (x := .bool b) (y := .bool false) (aj 7 ∅ rfl) ∅ (by cases b<;>rfl)
  ·refine nf 5 ∅ (by decide +kernel) (x := .str m) rfl (y := .str (dY rowsL c)) ?_ (v := .str (m++dY rowsL c)) (add_str (by unfold cap;omega)) rfl cF
   exact bX ∅ ∅ ∅ (vs:=[.str [c]]) (ao (aj 6 ∅ rfl) aA) (dW (F:=fB3r) rfl (FB rowsL c))
  ·refine qc (!b) (ssa:=xl [80] t n (m++[63]) (.val (.str [c])) (.val (.bool b))) (ssb:=xl [80] t n m (.val (.str [c])) (.val (.bool b))) ∅ (by decide +kernel) (v := .bool (!b)) ?_ rfl ?_ cF ∅ cF
   ·exact bH nofun (x := .bool b) (y := .bool true) (aj 7 ∅ rfl) ∅ (by cases b<;>rfl)
   ·exact nf 5 ∅ (by decide +kernel) (x := .str m) rfl (y := .str [63]) ∅ (v := .str (m++[63])) (add_str (by simp[cap];omega)) rfl cF
 ·rw[Nat.zero_add,List.take_length]
  exact ng ∅ (aj 5 ∅ rfl)
end
section
open PySem PySem.W PySem.Challenge
noncomputable def dR:List Nat->Nat
 |[]=>0
 |c::l=>bif ab [c] [32]then dR l+1 else bif ab [c] [9]then dR l+1 else 0
theorem qd{c:Nat}{l:List Nat}:dR (c::l)=bif ab [c] [32]then dR l+1 else bif ab [c] [9]then dR l+1 else 0:=rfl
theorem FP{c:Nat}{l:List Nat}{s:WS}:gL (c::l) s=bif ab [c] [32]then gL l ⟨s.n+1,s.nt,s.cnt,s.b+1⟩else bif ab [c] [9]then gL l (nc s)else s:=rfl
theorem xm:∀(l:List Nat) (s:WS),(gL l s).n=s.n+dR l
 |[],s=>rfl
 |c::l,s=>by
  rw[FP,qd];cases ab [c] [32]with
  |true=>exact(xm l _).trans (by show s.n+1+dR l=s.n+(dR l+1);omega)
  |false=>cases ab [c] [9]with
   |true=>exact(xm l _).trans (by show s.n+1+dR l=s.n+(dR l+1);omega)
   |false=>rfl
noncomputable def aE(l:List Nat):List Nat:=l.drop (dR l)
theorem BG(l:List (List Nat)):((l.map aE).map List.length).sum<=(l.map List.length).sum:=by
 induction l with
 |nil=>exact aq _
 |cons x l ih=>
  rw[aC,aC,aC,List.sum_cons,List.sum_cons];have:(aE x).length<=x.length:=by unfold aE;rw[dj];omega
  omega
theorem so{t:List Nat}(h:t.length<=cap):fP Gq (nm "split") (.str t) [.str [10]]=(true, .list ((aQ t [10]).map .str)):=by
 have e:fP Gq (nm "split") (.str t) [.str [10]]=((decide (t.length<=cap)&&true, .list ((aQ t [10]).map .str)):R):=∅;rw[e,ai h];rfl
theorem Hn{p:List Nat}(h:p.length<=400):G3 runW [.str p]=(true, .ws p ((gL p ⟨0,0,[],0⟩).n:Int) ((gL p ⟨0,0,[],0⟩).nt:Int) (gL p ⟨0,0,[],0⟩).cnt ((gL p ⟨0,0,[],0⟩).b:Int) (decide ((gL p ⟨0,0,[],0⟩).cnt.length<=1))):=by
 show((decide (p.length<=400),_):R)=_;rw[ai h];rfl
theorem FQ{t n:List Nat}(hl:t.length<=100)(hn:(aQ t [10]).length<=101)(hs:((aQ t [10]).map List.length).sum<=1000)(hq:∀p∈aQ t [10],p.length<=400):fDone [.str [76], .str t, .str n]=(true, .str (db [10] ((aQ t [10]).map aE))):=by
 have ct:t.length<=cap:=by unfold cap;omega
 have sp:=so ct;generalize aQ t [10]=L at sp hn hs hq |-;have cn:L.length<=cap:=by unfold cap;omega
 refine jf (ns:=nD) (ss:=[.val (.str [76]), .val (.str t), .val (.str n), .un, .un, .un, .un, .un, .un, .un, .un, .un]) rfl ∅ ?_;refine pY (v := .bool false) false ∅ ∅ ∅ rfl ?_;refine pY (v := .bool false) false ∅ ∅ ∅ rfl ?_;refine bG 8 ∅ (by decide +kernel) (v := .list (L.map .str)) (fe (x := .str t) (vs:=[.str [10]]) ∅ nofun rfl (aj 1 ∅ rfl) (ao (au rfl) aA) sp) (s := .val (.list (L.map .str))) ∅ ?_;refine pY (v := .bool true) true ∅ ∅ ∅ rfl ?_;have sd:=BG L;refine ng ∅ (fe (x := .str [10]) (vs:=[.list ((L.map aE).map .str)]) ∅ nofun rfl (au rfl) (ao ?_ aA) (nY (by rw[aW];simp only[fu];unfold cap;omega) (by rw[aW];exact cn)))
 rw[dQ];refine jg V.str (λp => .str (aE p)) L [.un, .un, .un] ∅ ∅ (dX ∅ (v := .list (L.map .str)) (aj 8 ∅ rfl) (by show((decide ((L.map V.str).length<=cap),_):Bool×List V)=_;rw[aW,ai cn]) (.inl rfl)) ∅ cn λp hp=>⟨[.un, .val (.str p), .un],∅, ?_⟩
 have h4:=hq p hp;refine aN (x := .str p) (a := .int ((gL p ⟨0,0,[],0⟩).n:Int)) (aj 1 ∅ rfl) (cw (Bl rfl (bX ∅ ∅ ∅ (vs:=[.str p]) (ao (aj 1 ∅ rfl) aA) (dW (F:=G3 runW) rfl (Hn h4))) IE)) rfl rfl ?_;rw[xm,show(0:Nat)+dR p=dR p from Nat.zero_add _];exact bE (by unfold cap;omega)
end
section
open PySem PySem.W PySem.Challenge
open PySem.Builtin.Str PySem.StrLaws
theorem sq{z:Nat}{l last:List Nat}(hlast:z∉last):∀(rows:List (List Nat)) (a:Nat) (cuts:List Nat) (f:Nat),(∀r∈rows,z∉r)->l.drop a=(rows.map (· ++ [z])).flatten++last->a<=l.length->ChainG (tx l) (tx [z]) l.length a cuts f->(∀k,f<=k->¬At (tx l) (tx [z]) l.length k) ->
 (partsFrom (tx l) 1 a cuts).map (λx=>x.cps.toList)=rows++[last]
 |[],a,cuts,f,hr,hd,ha,hc,hf=>by
  have hd:l.drop a=last:=by simpa using hd
  induction cuts using List.casesOn with
  |nil=>
   show[(strSub (tx l) a (tx l).length).cps.toList]=[last];rw[gZ,hd]
   congr 1
   exact gE (by rw[<-hd];show(l.drop a).length<=l.length-a;simp)
  |cons c r=>
   have h1:=(xg rfl).mp hc.2.1;have h2:last[c-a]? = some z:=by rw[<-hd,List.getElem?_drop,show a+(c-a)=c by have:=hc.1;omega];exact h1
   exact absurd (gH h2) hlast
 |row::rows,a,cuts,f,hr,hd,ha,hc,hf=>by
  have hd':l.drop a=row++z::((rows.map (· ++ [z])).flatten++last):=by rw[hd];simp
  have hat:At (tx l) (tx [z]) l.length (a+row.length):=(xg rfl).mpr (by rw[<-List.getElem?_drop,hd',List.getElem?_append_right (aq _),Nat.sub_self];rfl);have hrow:=hr row (aO ..)
  induction cuts using List.casesOn with
  |nil=>
   have e:f=a:=hc;exact absurd hat (hf _ ⋯)
  |cons c r=>
   obtain⟨h1,h2,h3,h4⟩:=hc;have hle:c<=a+row.length:=by
    rcases Nat.lt_or_ge (a+row.length) c with h|h
    ·exact absurd hat (h3 _ ⋯ h)
    ·exact h
   have hce:c=a+row.length:=by
    rcases Nat.lt_or_ge c (a+row.length)with h|h
    ·have e13:=(xg rfl).mp h2
     have:row[c-a]? = some z:=by
      have:(l.drop a)[c-a]? = some z:=by rw[List.getElem?_drop,show a+(c-a)=c by omega];exact e13
      rw[hd',List.getElem?_append_left ⋯]at this;exact this
     exact absurd (gH this) hrow
    ·omega
   subst hce;have hlen:a+row.length+1<=l.length:=by
    have:=congrArg List.length hd';simp at this
    omega
   have hd2:l.drop (a+row.length+1)=(rows.map (· ++ [z])).flatten++last:=by
    rw[show a+row.length+1=a+(row.length+1)by omega,<-List.drop_drop,hd',show row.length+1=(row++[z]).length by simp,show row++z::((rows.map (· ++ [z])).flatten++last)=(row++[z])++((rows.map (· ++ [z])).flatten++last)by simp];exact List.drop_left
   show(strSub (tx l) a (a+row.length)).cps.toList::(partsFrom (tx l) 1 (a+row.length+1) r).map (λx=>x.cps.toList)=row::(rows++[last]);rw[sq hlast rows (a+row.length+1) r f (λx hx=>hr x (aG _ hx)) hd2 ⋯ h4 hf,gZ,hd',show a+row.length-a=row.length by omega,List.take_left]
theorem jj{z:Nat}{rows:List (List Nat)}{last:List Nat}(hr:∀r∈rows,z∉r)(hlast:z∉last):aQ ((rows.map (· ++ [z])).flatten++last) [z]=rows++[last]:=by
 generalize hl:(rows.map (· ++ [z])).flatten++last=l;obtain⟨f,h1,h2⟩:=occ_tight (tx l) (tx [z]) (by simp[tx,Str.length]);have C:=sq hlast rows 0 _ f hr (by rw[List.drop_zero,hl]) (bw _) h1 h2;have single:z∉l->[l]=rows++[last]:=λhz=>by
  induction rows using List.casesOn with
  |nil=>rw[<-hl];rfl
  |cons r rs=>exact absurd (by rw[<-hl];simp) hz
 unfold aQ Txt.split;cases hk:(decide ((tx l).length<(tx [z]).length)||decide (strKind (tx l)<strKind (tx [z])))with
 |true=>
  rw[if_pos rfl];show[l]=_;refine single λhm => ?_
  rcases Bool.or_eq_true_iff.mp hk with h|h
  ·have h:l.length<1:=aY h
   have:l=[]:=List.eq_nil_of_length_eq_zero ⋯;rw[this]at hm;exact cj hm
  ·exact kind_free (tx l) z (aY h) hm
 |false=>
  rw[if_neg (by simp)];cases ho:occurrences (tx l) (tx [z]) 0 (tx l).length ((tx l).length+1)with
  |nil=>
   rw[ho]at C;rw[if_pos (show([]:List Nat).isEmpty=true from rfl)];have C':[(strSub (tx l) 0 l.length).cps.toList]=rows++[last]:=C;have e:(strSub (tx l) 0 l.length).cps.toList=l:=by rw[gZ];simp
   rw[e]at C';exact C'
  |cons c r=>
   rw[ho]at C;rw[if_neg (show ¬(c::r).isEmpty=true by simp),partsBetween_eq];exact C
theorem xn{last:List Nat}(hlast:13∉last):aQ last [13,10]=[last]:=by
 obtain⟨f,h1,h2⟩:=occ_tight (tx last) (tx [13,10]) nofun;have C:=p9 hlast [] 0 _ f (λ_ h=>nomatch h) (by rw[List.drop_zero];rfl) (bw _) h1 h2;unfold aQ Txt.split;cases hk:(decide ((tx last).length<(tx [13,10]).length)||decide (strKind (tx last)<strKind (tx [13,10])))with
 |true=>rw[if_pos rfl];rfl
 |false=>
  rw[if_neg (by simp)];cases ho:occurrences (tx last) (tx [13,10]) 0 (tx last).length ((tx last).length+1)with
  |nil=>rw[if_pos (show([]:List Nat).isEmpty=true from rfl)];rfl
  |cons c r=>
   rw[ho]at C;rw[if_neg (show ¬(c::r).isEmpty=true by simp),partsBetween_eq];exact C
noncomputable def my(rows:List (List Nat))(last:List Nat):List Nat:=(rows.map (· ++ [13,10])).flatten++last
theorem jk{r:List Nat}{rows:List (List Nat)}{last:List Nat}:my (r::rows) last=r++13::10::my rows last:=by unfold my;simp
theorem qe{rows:List (List Nat)}{last:List Nat}(hr:∀r∈rows,13∉r)(hl:13∉last):aQ (my rows last) [13,10]=rows++[last]:=by
 by_cases h:rows=[]
 ·subst h;exact xn hl
 ·exact xh hr hl h
theorem g7:∀(x:List Nat) (b:Bool),∃rows last,aB b x=my rows last/\(∀r∈rows,iu r)/\iu last
 |[],b=>⟨[],[],rfl,(λ_ h=>nomatch h),λ_ h=>nomatch h⟩
 |c::x,b=>by
  show ∃rows last,(bif c==13 then 13::10::aB true x else bif c==10 then(bif b then aB false x else 13::10::aB false x)else c::aB false x)=my rows last/\(∀r∈rows,iu r)/\iu last;have new:∀b,∃rows last,13::10::aB b x=my rows last/\(∀r∈rows,iu r)/\iu last:=λb=>by
   obtain⟨rows,last,e,h1,h2⟩:=g7 x b;exact⟨[]::rows,last,by rw[jk,e];rfl,cJ ⟨(λ_ h=>nomatch h),h1⟩,h2⟩
  cases h13:c==13 with
  |true=>exact new true
  |false=>cases h10:c==10 with
   |true=>cases b with
    |true=>exact g7 x false
    |false=>exact new false
   |false=>
    have hc:c≠10/\c≠13:=⟨by simpa using h10,by simpa using h13⟩;obtain⟨rows,last,e,h1,h2⟩:=g7 x false;cases rows with
    |nil=>exact⟨[],c::last,by show c::aB false x=_;rw[e];rfl,h1,λy hy=>(bu hy).elim (λk=>k▸hc) (h2 y)⟩
    |cons r rows=>
     refine⟨(c::r)::rows,last,by show c::aB false x=_;rw[e,jk,jk];rfl,cJ ⟨λy hy=>(bu hy).elim (λk=>k▸hc) (h1 r (aO ..) y),λr' h'=>h1 r' (aG _ h')⟩,h2⟩
noncomputable def DO(r:List Nat):List Nat:=match r with
 |[]=>[]
 |c::r=>bif c==46 then 46::46::r else c::r
noncomputable def jU(r:List Nat):List Nat:=bif ab (r.take 1) [46]then r.drop 1 else r
theorem sr(r:List Nat):jU (DO r)=r:=by
 cases r with
 |nil=>rfl
 |cons c r=>
  show jU (bif c==46 then 46::46::r else c::r)=_;cases h:c==46 with
  |true=>rw[eq_of_beq h];rfl
  |false=>
   show(bif (Nat.beq c 46&&true)then r else c::r)=_;have:Nat.beq c 46=false:=by
    cases hb:Nat.beq c 46 with
    |false=>rfl
    |true=>rw[eH hb]at h;simp at h
   rw[this];rfl
theorem BH:∀(r rest:List Nat),iu r->bo true (r++13::10::rest)=DO r++13::10::bo true rest
 |[],rest,_=>rfl
 |c::r,rest,h=>by
  have hc:=h c (aO ..);have b:(c==10)=false:=by rw[beq_eq_false_iff_ne];exact hc.1
  have e:=kt r (13::10::rest) λx hx=>h x (aG _ hx)
  have e2:bo false (13::10::rest)=13::10::bo true rest:=rfl;rw[e2]at e;show(bif true&&c==46 then 46::46::bo false (r++13::10::rest)else c::bo (c==10) (r++13::10::rest))=(bif c==46 then 46::46::r else c::r)++_;rw[b,e];cases h46:c==46<;>rfl
theorem zq:∀(r:List Nat),iu r->bo true r=DO r
 |[],_=>rfl
 |c::r,h=>by
  have hc:=h c (aO ..);have b:(c==10)=false:=by rw[beq_eq_false_iff_ne];exact hc.1
  have e:=kt r [] λx hx=>h x (aG _ hx)
  rw[bY,show bo false []=[]from rfl,bY]at e;show(bif true&&c==46 then 46::46::bo false r else c::bo (c==10) r)=bif c==46 then 46::46::r else c::r
  rw[b,e];cases h46:c==46<;>rfl
theorem mz:∀(rows:List (List Nat)) (last:List Nat),(∀r∈rows,iu r)->iu last->bo true (my rows last)=my (rows.map DO) (DO last)
 |[],last,_,h=>zq last h
 |r::rows,last,h1,h2=>by
  rw[jk,BH r _ (h1 r (aO ..)),mz rows last (λx hx=>h1 x (aG _ hx)) h2,aC,jk]
theorem su:∀(rows:List (List Nat)) (last:List Nat),db [13,10] (rows++[last])=my rows last
 |[],last=>rfl
 |[r],last=>by rw[jk];show r++[13,10]++last=_;simp[my]
 |r::r'::rows,last=>by
  rw[jk,<-su (r'::rows) last];show r++[13,10]++db [13,10] (r'::(rows++[last]))=_;simp
theorem lI{r:List Nat}(h:iu r):13∉DO r:=by
 cases r with
 |nil=>exact cj
 |cons c r=>
  show 13∉(bif c==46 then 46::46::r else c::r);have hr:13∉c::r:=λm=>(h 13 m).2 rfl
  cases h46:c==46 with
  |true=>
   intro m
   rcases bu m with k|m
   ·omega
   ·rcases bu m with k|m
    ·omega
    ·exact hr (aG _ m)
  |false=>exact hr
theorem DQ(t:List Nat):db [13,10] ((aQ (bo true (aB false t)) [13,10]).map jU)=aB false t:=by
 obtain⟨rows,last,e,h1,h2⟩:=g7 t false;rw[e,mz rows last h1 h2,qe (λr hr=>by obtain⟨x,hx,rfl⟩:=List.mem_map.mp hr;exact lI (h1 x hx)) (lI h2),List.map_append,dQ,aC,List.map_nil,sr];rw[show rows.map (jU∘DO)=rows from(List.map_congr_left λr _=>sr r).trans (List.map_id rows)];exact su rows last
end
section
open PySem PySem.W PySem.Challenge
theorem lJ:∀(x:List Nat) (b:Bool),(bo b x).length<=2*x.length
 |[],_=>aq _
 |c::x,b=>by
  have h1:=lJ x false;have h2:=lJ x (c==10);rw[DK];cases(b&&c==46)with
  |true=>show(46::46::bo false x).length<=_;simp only[aP];omega
  |false=>show(c::bo (c==10) x).length<=_;simp only[aP];omega
theorem vQ:∀(rows:List (List Nat)) (last:List Nat),((rows++[last]).map List.length).sum+2*rows.length=(my rows last).length
 |[],last=>by simp[my]
 |r::rows,last=>by
  have ih:=vQ rows last;rw[jk];simp only[List.cons_append,aC,List.sum_cons,aP,bk]at ih |-
  omega
theorem il:∀{L:List (List Nat)} {p:List Nat},p∈L->p.length<=(L.map List.length).sum
 |x::L,p,h=>by
  rw[aC,List.sum_cons]
  rcases bu h with rfl|h
  ·omega
  ·have:=il h;omega
theorem FR(t:List Nat)(hl:t.length<=100):(aQ (bo true (aB false t)) [13,10]).length<=401/\((aQ (bo true (aB false t)) [13,10]).map List.length).sum<=400:=by
 obtain⟨rows,last,e,h1,h2⟩:=g7 t false;have l1:=ji false t;have l2:=lJ (aB false t) true;rw[e]at l2 |-;rw[mz rows last h1 h2]at l2 |-;rw[qe (λr hr=>by obtain⟨x,hx,rfl⟩:=List.mem_map.mp hr;exact lI (h1 x hx)) (lI h2)];have g:=vQ (rows.map DO) (DO last);rw[<-e]at l2;rw[bk,fu]
 omega
theorem FS{t n:List Nat}(hl:t.length<=100):fDone [.str [83], .str t, .str n]=(true, .str (aB false t)):=by
 have l1:=ji false t;have l2:=lJ (aB false t) true;obtain⟨r1,r2⟩:=FR t hl;have qp:mP Gq (nm "quotedata") [.str t]=(true, .str (bo true (aB false t))):=dW (F:=fQuoteP) rfl (by show((decide (t.length<=10000),_):R)=_;rw[ai ⋯]);rw[<-DQ t];generalize bo true (aB false t)=q at l2 r1 r2 qp |-;have sp:fP Gq (nm "split") (.str q) [.str [13,10]]=(true, .list ((aQ q [13,10]).map .str)):=by
  have e:fP Gq (nm "split") (.str q) [.str [13,10]]=((decide (q.length<=cap)&&true, .list ((aQ q [13,10]).map .str)):R):=∅;rw[e,ai (show q.length<=cap by unfold cap;omega)];rfl
 generalize aQ q [13,10]=L at sp r1 r2 |-;have cn:L.length<=cap:=by unfold cap;omega
 refine jf (ns:=nD) (ss:=[.val (.str [83]), .val (.str t), .val (.str n), .un, .un, .un, .un, .un, .un, .un, .un, .un]) rfl ∅ ?_;refine pY (v := .bool true) true ∅ ∅ ∅ rfl ?_;refine bG 3 ∅ (by decide +kernel) (v := .list (L.map .str)) (fe (x := .str q) (vs:=[.str [13,10]]) ∅ nofun rfl (bX ∅ ∅ ∅ (vs:=[.str t]) (ao (aj 1 ∅ rfl) aA) qp) (ao (au rfl) aA) sp) (s := .val (.list (L.map .str))) ∅ ?_;have sd:((L.map jU).map List.length).sum<=(L.map List.length).sum:=by
  clear sp r1 r2 cn
  induction L with
  |nil=>exact aq _
  |cons x l ih=>
   rw[aC,aC,aC,List.sum_cons,List.sum_cons];have:(jU x).length<=x.length:=by
    unfold jU;cases ab (x.take 1) [46]with
    |true=>show(x.drop 1).length<=_;rw[dj];omega
    |false=>exact aq _
   omega
 refine ng ∅ (fe (x := .str [13,10]) (vs:=[.list ((L.map jU).map .str)]) ∅ nofun rfl (au rfl) (ao ?_ aA) (nY (by rw[aW];simp only[aP,List.length_nil];unfold cap;omega) (by rw[aW];exact cn)));rw[dQ];refine jg V.str (λp => .str (jU p)) L [.un, .un] ∅ ∅ (dX ∅ (v := .list (L.map .str)) (aj 3 ∅ rfl) (by show((decide ((L.map V.str).length<=cap),_):Bool×List V)=_;rw[aW,ai cn]) (.inl rfl)) ∅ cn λp hp=>⟨[.un, .val (.str p)],∅, ?_⟩
 have h4:p.length<=cap:=by
  have:p.length<=(L.map List.length).sum:=il hp;unfold cap;omega
 refine vu (x := .bool (ab (p.take 1) [46])) (c:=ab (p.take 1) [46]) (bH (x := .str (p.take 1)) (y := .str [46]) nofun (aN (x := .str p) (a := .none) (b := .int 1) (aj 1 ∅ rfl) rfl (cw (au rfl)) rfl (vw (k:=1) h4)) (au rfl) rfl) rfl ?_;unfold jU;cases ab (p.take 1) [46]with
 |true=>exact aN (x := .str p) (a := .int 1) (b := .none) (aj 1 ∅ rfl) (cw (au rfl)) rfl rfl (bE (k:=1) h4)
 |false=>exact aj 1 ∅ rfl
theorem qf(n:Nat):bound n (-1)=n-1:=by
 unfold bound;rw[show decide ((-1:Int)<0)=true from rfl];show((-1:Int)+n).toNat=n-1
 omega
theorem xo{s:List Nat}(hs:s.length<=cap):eO (.str s) (.int (-1)) .none .none=(true, .str (s.drop (s.length-1))):=by
 show((decide (s.length<=cap),V.str (mM s (some (-1)) none)):R)=_;rw[ai hs]
 congr 2
 unfold mM;dsimp only;rw[qf];exact gE (Nat.le_of_eq dj)
theorem zr{s:List Nat}(hs:s.length<=cap):eO (.str s) .none (.int (-1)) .none=(true, .str (s.take (s.length-1))):=by
 show((decide (s.length<=cap),V.str (mM s none (some (-1)))):R)=_;rw[ai hs]
 congr 2
 unfold mM;dsimp only;rw[qf,List.drop_zero,Nat.sub_zero]
noncomputable def bare(p:List Nat):List Nat:=bif ab (p.drop (p.length-1)) [13]then p.take (p.length-1)else p
theorem BI(p:List Nat):(bare p).length<=p.length:=by
 unfold bare;cases ab (p.drop (p.length-1)) [13]with
 |true=>show(p.take _).length<=_;rw[cR];omega
 |false=>exact aq _
noncomputable def dZ(name p:List Nat):List Nat:=bif decide (tP (bare p) name 1<2)then p.drop (bare p).length else p
theorem xp(L:List (List Nat)):L.map V.str=(List.range' 0 L.length).map λk=>V.str (L.getD k []):=by
 refine List.ext_getElem (by simp) λi h1 h2 => ?_
 have:i<L.length:=by simpa using h1
 simp[List.getElem_map,List.getElem_range',this]
theorem xq{a:List (List Nat)}{k:Nat}(h:k<a.length):a.take (k+1)=a.take k++[a.getD k []]:=by
 rw[List.take_add_one,gF h,cA,gF h];rfl
noncomputable abbrev FT(t n:List Nat)(L:List (List Nat))(row pc:Mine.Slot)(left:List V)(nr:Mine.Slot):List Mine.Slot:=[.val (.str [78]), .val (.str t), .val (.str n), .un,row, .un, .un, .un, .val (.list (L.map .str)),pc, .own left,nr]
theorem FU{t n:List Nat}(hl:t.length<=100)(h5:n.length<=500)(hn:(aQ t [10]).length<=101)(hq:∀p∈aQ t [10],p.length<=400)(hs:(((aQ t [10]).map (dZ n)).map List.length).sum<=1000):fDone [.str [78], .str t, .str n]=(true, .str (db [10] ((aQ t [10]).map (dZ n)))):=by
 have ct:t.length<=cap:=by unfold cap;omega
 have sp:=so ct;generalize aQ t [10]=L at sp hn hs hq |-;have cn:L.length<=cap:=by unfold cap;omega
 refine jf (ns:=nD) (ss:=[.val (.str [78]), .val (.str t), .val (.str n), .un, .un, .un, .un, .un, .un, .un, .un, .un]) rfl ∅ ?_;refine pY (v := .bool false) false ∅ ∅ ∅ rfl ?_;refine pY (v := .bool false) false ∅ ∅ ∅ rfl ?_;refine bG 8 ∅ (by decide +kernel) (v := .list (L.map .str)) (fe (x := .str t) (vs:=[.str [10]]) ∅ nofun rfl (aj 1 ∅ rfl) (ao (au rfl) aA) sp) (s := .val (.list (L.map .str))) ∅ ?_;refine pY (v := .bool false) false ∅ ∅ ∅ rfl ?_;refine bG 10 ∅ (by decide +kernel) (v := .list []) ∅ (s := .own (((L.take 0).map (dZ n)).map .str)) ∅ ?_;refine Bv (λk=>FT t n L .un .un (((L.take k).map (dZ n)).map .str) .un) (λk => .str (L.getD k [])) 0 L.length ∅ ?_ ∅ (λk h1 h2 => ?_) ?_
 ·rw[<-xp]
  exact dX ∅ (v := .list (L.map .str)) (aj 8 ∅ rfl) (by show((decide ((L.map V.str).length<=cap),_):Bool×List V)=_;rw[aW,ai cn]) (.inl rfl)
 ·have hk:k<L.length:=⋯
  have e:((L.take (k+1)).map (dZ n)).map V.str=((L.take k).map (dZ n)).map V.str++[.str (dZ n (L.getD k []))]:=by rw[xq hk];simp
  have hlen:(((L.take k).map (dZ n)).map V.str).length<=cap:=by rw[aW,aW,cR];unfold cap;omega
  rw[e];have h4:=hq _ (dL [] hk);generalize ((L.take k).map (dZ n)).map V.str=m at hlen |-;generalize L.getD k []=p at h4 |-;have hp:p.length<=cap:=by unfold cap;omega
  have hb:=BI p;obtain⟨nr,enr⟩:∃nr,nr=decide (tP (bare p) n 1<2):=⟨_,rfl⟩;have ew:dZ n p=bif nr then p.drop (bare p).length else p:=by rw[enr];rfl
  rw[ew];refine⟨FT t n L .un (.val (.str p)) m .un,FT t n L (.val (.str (bare p))) (.val (.str p)) (m++[.str (bif nr then p.drop (bare p).length else p)]) (.val (.bool nr)),∅, ?_,∅⟩;refine bG 4 ∅ (by decide +kernel) (v := .str (bare p)) ?_ (s := .val (.str (bare p))) rfl ?_
  ·refine vu (x := .bool (ab (p.drop (p.length-1)) [13])) (c:=ab (p.drop (p.length-1)) [13]) (bH (x := .str (p.drop (p.length-1))) (y := .str [13]) nofun (aN (x := .str p) (a := .int (-1)) (b := .none) (aj 9 ∅ rfl) (cw ∅) rfl rfl (xo hp)) (au rfl) rfl) rfl ?_
   unfold bare;cases ab (p.drop (p.length-1)) [13]with
   |true=>exact aN (x := .str p) (a := .none) (b := .int (-1)) (aj 9 ∅ rfl) rfl (cw ∅) rfl (zr hp)
   |false=>exact aj 9 ∅ rfl
  refine bG 11 ∅ (by decide +kernel) (v := .bool nr) (s := .val (.bool nr)) ?_ rfl ?_
  ·rw[enr]
   exact bH (x := .int (tP (bare p) n 1)) (y := .int 2) nofun (bX ∅ ∅ ∅ (vs:=[.str (bare p), .str n, .int 1]) (ao (aj 4 ∅ rfl) (ao (aj 2 ∅ rfl) (ao (au rfl) aA))) (dW (F:=fLev) rfl (FC (bare p) n 1 ⋯ h5))) (au rfl) rfl
  refine Hj 10 ∅ (by decide +kernel) rfl ∅ hlen ?_ cF;refine vu (x := .bool nr) (c:=nr) (aj 11 ∅ rfl) rfl ?_;cases nr with
  |true=>exact aN (x := .str p) (a := .int ((bare p).length:Int)) (b := .none) (aj 9 ∅ rfl) (cw (dq ∅ (fQ 4 ∅ rfl) (len_str ⋯))) rfl rfl (bE hp)
  |false=>exact aj 9 ∅ rfl
 ·rw[Nat.zero_add,List.take_length]
  refine FJ (ss':=[.val (.str [78]), .val (.str t), .val (.str n), .un, .un, .un, .un, .un, .val (.list (L.map .str)), .un, .val (.list ((L.map (dZ n)).map .str)), .un]) ∅ (fe (x := .str [10]) (vs:=[.list ((L.map (dZ n)).map .str)]) ∅ nofun rfl (au rfl) (ao (aj 10 ∅ rfl) aA) (nY (by rw[aW];simp only[fu];unfold cap;omega) (by rw[aW];exact cn)))
noncomputable def qg(z:Nat)(rows:List (List Nat))(last:List Nat):List Nat:=(rows.map (· ++ [z])).flatten++last
theorem lK{z:Nat}{r:List Nat}{rows:List (List Nat)}{last:List Nat}:qg z (r::rows) last=r++z::qg z rows last:=by unfold qg;simp
theorem lL(z:Nat):∀t:List Nat,∃rows last,t=qg z rows last/\(∀r∈rows,z∉r)/\z∉last
 |[]=>⟨[],[],rfl,(λ_ h=>nomatch h),cj⟩
 |c::t=>by
  obtain⟨rows,last,e,h1,h2⟩:=lL z t
  by_cases h:c=z
  ·exact⟨[]::rows,last,by rw[lK,<-e,h];rfl,cJ ⟨cj,h1⟩,h2⟩
  ·cases rows with
   |nil=>exact⟨[],c::last,by rw[e];rfl,h1,λm=>(bu m).elim (λk=>h k.symm) h2⟩
   |cons r rows=>
    exact⟨(c::r)::rows,last,by rw[e,lK,lK];rfl,cJ ⟨λm=>(bu m).elim (λk=>h k.symm) (h1 r (aO ..)),λr' h'=>h1 r' (aG _ h')⟩,h2⟩
theorem sv(z:Nat):∀(rows:List (List Nat)) (last:List Nat),((rows++[last]).map List.length).sum+rows.length=(qg z rows last).length
 |[],last=>by simp[qg]
 |r::rows,last=>by
  have ih:=sv z rows last;rw[lK];simp only[List.cons_append,aC,List.sum_cons,aP,bk]at ih |-
  omega
theorem mA(t:List Nat)(z:Nat):(aQ t [z]).length<=t.length+1/\((aQ t [z]).map List.length).sum<=t.length:=by
 obtain⟨rows,last,e,h1,h2⟩:=lL z t;have g:=sv z rows last;have s:=jj h1 h2;rw[show(rows.map (· ++ [z])).flatten++last=t from e.symm]at s;rw[s,bk,fu];rw[<-e]at g
 omega
noncomputable def bq:List Nat->List Nat->Bool
 |[],w=>w.isEmpty
 |d::l,w=>match w with
  |[]=>true
  |c::w=>bif Nat.beq c d then bq l w else bq l (c::w)
theorem BJ{d c:Nat}{l w:List Nat}:bq (d::l) (c::w)=bif Nat.beq c d then bq l w else bq l (c::w):=rfl
theorem fh:∀l:List Nat,bq l []=true
 |[]=>rfl
 |_::_=>rfl
theorem qh{c:Nat}{w:List Nat}:∀{l:List Nat},c∉l->bq l (c::w)=false
 |[],_=>rfl
 |d::l,h=>by
  rw[BJ,cP (x:=c) (y:=d) (λe=>h (List.mem_cons.mpr (.inl e)))];exact qh λm=>h (aG _ m)
theorem yq{c:Nat}{w l2:List Nat}:∀{l1:List Nat},c∉l1->bq (l1++c::l2) (c::w)=bq l2 w
 |[],_=>by show(bif Nat.beq c c then bq l2 w else bq l2 (c::w))=_;rw[Nat.beq_refl];rfl
 |d::l,h=>by
  rw[List.cons_append,BJ,cP (x:=c) (y:=d) (λe=>h (List.mem_cons.mpr (.inl e)))];exact yq λm=>h (aG _ m)
theorem g8{d c:Nat}:∀(l w:List Nat),bq (l++[d]) (w++[c])=(bq l (w++[c])||(Nat.beq c d&&bq l w))
 |[],[]=>by show(bif Nat.beq c d then true else false)=(false||(Nat.beq c d&&true));cases Nat.beq c d<;>rfl
 |[],a::w=>by
  have e:bq [] (w++[c])=false:=by cases w<;>rfl
  show(bif Nat.beq a d then bq [] (w++[c])else false)=(false||(Nat.beq c d&&false));rw[e];cases Nat.beq a d<;>cases Nat.beq c d<;>rfl
 |e::l,[]=>by
  show(bif Nat.beq c e then bq (l++[d]) []else bq (l++[d]) ([]++[c]))=((bif Nat.beq c e then bq l []else bq l ([]++[c]))||(Nat.beq c d&&true));rw[fh,fh,g8 l [],fh];cases Nat.beq c e<;>rfl
 |e::l,a::w=>by
  show(bif Nat.beq a e then bq (l++[d]) (w++[c])else bq (l++[d]) ((a::w)++[c]))=((bif Nat.beq a e then bq l (w++[c])else bq l ((a::w)++[c]))||(Nat.beq c d&&(bif Nat.beq a e then bq l w else bq l (a::w))));rw[g8 l w,g8 l (a::w)];cases Nat.beq a e<;>rfl
theorem dh{c:Nat}:∀(l w:List Nat),bq l (w++[c])=true->bq l w=true
 |[],[],_=>rfl
 |[],a::w,h=>aa h
 |e::l,[],_=>rfl
 |e::l,a::w,h=>by
  have h:(bif Nat.beq a e then bq l (w++[c])else bq l ((a::w)++[c]))=true:=h;show(bif Nat.beq a e then bq l w else bq l (a::w))=true;cases x:Nat.beq a e with
  |true=>rw[x]at h;exact dh l w h
  |false=>rw[x]at h;exact dh l (a::w) h
theorem qi(n p:Nat):fromIndex n (p:Int)=p:=by
 unfold fromIndex;rw[if_neg ⋯]
 omega
theorem vR{l:List Nat}{c:Nat}{p:Nat}(h:c∉l.drop p):bT l [c] (p:Int) = -1:=by
 rcases StrLaws.find3_spec (tx l) c (p:Int)with⟨e,_⟩|⟨k,e,h1,h2,h3,_⟩
 ·exact e
 ·have h3:l[k]? = some c:=StrLaws.getElem?_of_getD h2 h3
  rw[qi]at h1;have:(l.drop p)[k-p]? = some c:=by rw[List.getElem?_drop,show p+(k-p)=k by omega];exact h3
  exact absurd (gH this) h
theorem vU{l l1 l2:List Nat}{c:Nat}{p:Nat}(e:l.drop p=l1++c::l2)(h:c∉l1):bT l [c] (p:Int)=((p+l1.length:Nat):Int):=by
 have hk:l[p+l1.length]? = some c:=by rw[<-List.getElem?_drop,e,List.getElem?_append_right (aq _),Nat.sub_self];rfl
 have hlt:p+l1.length<l.length:=(List.getElem?_eq_some_iff.mp hk).1
 rcases StrLaws.find3_spec (tx l) c (p:Int)with⟨_,h1⟩|⟨k,e',h1,h2,h3,h4⟩
 ·exact absurd (StrLaws.getD_of_getElem? hk) (h1 _ (by rw[qi];omega) hlt)
 ·rw[qi]at h1 h4
  have h3:l[k]? = some c:=StrLaws.getElem?_of_getD h2 h3;have ge:p+l1.length<=k:=by
   rcases Nat.lt_or_ge k (p+l1.length)with g|g
   ·have:l1[k-p]? = some c:=by
     have q:(l.drop p)[k-p]? = some c:=by rw[List.getElem?_drop,show p+(k-p)=k by omega];exact h3
     rw[e,List.getElem?_append_left ⋯]at q;exact q
    exact absurd (gH this) h
   ·exact g
  rcases Nat.lt_or_ge (p+l1.length) k with g|g
  ·exact absurd (StrLaws.getD_of_getElem? hk) (h4 _ ⋯ g)
  ·show Txt.find3 (tx l) ⟨#[c]⟩ (p:Int)=_
   rw[e',show k=p+l1.length by omega]
theorem lM{c:Nat}:∀{l:List Nat},c∈l->∃l1 l2,l=l1++c::l2/\c∉l1
 |d::l,h=>by
  by_cases e:c=d
  ·exact⟨[],l,by rw[e];rfl,cj⟩
  ·obtain⟨l1,l2,e1,e2⟩:=lM ((bu h).resolve_left e)
   exact⟨d::l1,l2,by rw[e1];rfl,λm=>(bu m).elim e e2⟩
theorem qj(run:List Nat):∀(w:List Nat) (p:Nat),df run w (p:Int)=bq (run.drop p) w
 |[],p=>(fh _).symm
 |c::w,p=>by
  rw[qb]
  by_cases h:c∈run.drop p
  ·obtain⟨l1,l2,e1,e2⟩:=lM h
   rw[vU e1 e2,bg ⋯,e1,yq e2];show df run w (((p+l1.length:Nat):Int)+1)=_;have:=qj run w (p+l1.length+1);rw[show(((p+l1.length:Nat):Int)+1)=((p+l1.length+1:Nat):Int)by omega,this]
   congr 1
   rw[show p+l1.length+1=p+(l1.length+1)by omega,<-List.drop_drop,e1,show l1.length+1=(l1++[c]).length by simp,show l1++c::l2=(l1++[c])++l2 by simp];exact List.drop_left
  ·rw[vR h,qh h];rfl
noncomputable def eu:List Nat->Bool
 |[]=>false
 |d::l=>bif Nat.beq d 80 then true else bif Nat.beq d 83 then false else eu l
noncomputable def ky(run:List Nat):Bool:=decide (0<=bT run [80] 0)&&decide (bT run [80] 0<bT run [83] 0)
theorem zs{l:List Nat}{c:Nat}(h:c∉l):bT l [c] 0 = -1:=vR (p:=0) h
theorem qk{l1 l2:List Nat}{c:Nat}(h:c∉l1):bT (l1++c::l2) [c] 0=(l1.length:Int):=by
 have:=vU (l:=l1++c::l2) (p:=0) rfl h
 rwa [Nat.zero_add]at this
theorem mB:∀{l1 l2:List Nat} {d:Nat},80∉l1->83∉l1->d=80\/d=83->eu (l1++d::l2)=Nat.beq d 80
 |[],l2,d,_,_,h=>by rcases h with rfl|rfl<;>rfl
 |e::l1,l2,d,h1,h2,h=>by
  show(bif Nat.beq e 80 then true else bif Nat.beq e 83 then false else eu (l1++d::l2))=_;rw[cP (x:=e) (λk=>h1 (List.mem_cons.mpr (.inl k.symm))),cP (x:=e) (λk=>h2 (List.mem_cons.mpr (.inl k.symm)))];exact mB (λm=>h1 (aG _ m)) (λm=>h2 (aG _ m)) h
theorem BK{run:List Nat}(h:83∈run):ky run=eu run:=by
 obtain⟨l1,l2,e,h1⟩:=lM h;subst e;unfold ky;rw[qk h1]
 by_cases m:80∈l1
 ·obtain⟨a,b,e,ha⟩:=lM m
  subst e;rw[show(a++80::b)++83::l2=a++80::(b++83::l2)by simp,qk ha,mB ha (λk=>h1 (List.mem_append_left _ k)) (.inl rfl),ai ⋯,ai (by simp;omega)];rfl
 ·rw[mB m h1 (.inr rfl)]
  by_cases m2:80∈l2
  ·obtain⟨a,b,e,ha⟩:=lM m2
   subst e;rw[show l1++83::(a++80::b)=(l1++83::a)++80::b by simp,qk (λk=>by
    rcases eJ k with k|k
    ·exact m k
    ·rcases bu k with k|k
     ·omega
     ·exact ha k),bg (show ¬(((l1++83::a).length:Int)<(l1.length:Int))by rw[bk];omega),Bool.and_false];rfl
  ·rw[zs (λk=>by
    rcases eJ k with k|k
    ·exact m k
    ·rcases bu k with k|k
     ·omega
     ·exact m2 k)];rfl
theorem jm{d:Nat}:∀{l:List Nat},eu (l++[d])=bif bq l [80]||bq l [83]then eu l else Nat.beq d 80
 |[]=>by show(bif Nat.beq d 80 then true else bif Nat.beq d 83 then false else false)=Nat.beq d 80;cases Nat.beq d 80<;>cases Nat.beq d 83<;>rfl
 |e::l=>by
  have ih:=jm (d:=d) (l:=l);show(bif Nat.beq e 80 then true else bif Nat.beq e 83 then false else eu (l++[d]))=bif (bif Nat.beq 80 e then bq l []else bq l [80])||(bif Nat.beq 83 e then bq l []else bq l [83])then(bif Nat.beq e 80 then true else bif Nat.beq e 83 then false else eu l)else Nat.beq d 80
  by_cases h1:e=80
  ·subst h1
   rw[fh];rfl
  ·by_cases h2:e=83
   ·subst h2
    rw[fh];simp[cP]
   ·rw[cP h1,cP h2,cP (Ne.symm h1),cP (Ne.symm h2)]
    exact ih
end
section
structure Bits where
 (p s l n pl sl pn sn ln pln sln ps:Bool)
noncomputable def cQ(r:List Nat):Bits:=⟨bq r [80],bq r [83],bq r [76],bq r [78],bq r [80,76],bq r [83,76],bq r [80,78],bq r [83,78],bq r [76,78],bq r [80,76,78],bq r [83,76,78],eu r⟩
noncomputable def bp(d:Nat)(b:Bits):Bits:=
 bif Nat.beq d 80 then{ b with p:=true,ps:=bif b.p||b.s then b.ps else true }
 else bif Nat.beq d 83 then{ b with s:=true,ps:=bif b.p||b.s then b.ps else false }
 else bif Nat.beq d 76 then{ b with l:=true,pl:=b.p,sl:=b.s }
 else{ b with n:=true,pn:=b.p,sn:=b.s,ln:=b.l,pln:=b.pl,sln:=b.sl }
structure dM(b:Bits):Prop where
 pl:b.pl=true->b.p=true
 sl:b.sl=true->b.s=true
 pn:b.pn=true->b.p=true
 sn:b.sn=true->b.s=true
 ln:b.ln=true->b.l=true
 pln:b.pln=true->b.pl=true
 sln:b.sln=true->b.sl=true
 ps:b.s=false->b.ps=b.p
theorem DR{x y:Bool}(h:x=true->y=true):(x||(true&&y))=y:=by
 cases x with
 |true=>rw[h rfl];rfl
 |false=>rfl
theorem vV:∀{r:List Nat},bq r [83]=false->eu r=bq r [80]
 |[],_=>rfl
 |d::l,h=>by
  have h:(bif Nat.beq 83 d then bq l []else bq l [83])=false:=h;show(bif Nat.beq d 80 then true else bif Nat.beq d 83 then false else eu l)=bif Nat.beq 80 d then bq l []else bq l [80]
  by_cases e:d=80
  ·subst e;rw[fh];rfl
  ·by_cases e2:d=83
   ·subst e2;rw[fh]at h;exact aa h.symm
   ·rw[cP (Ne.symm e2)]at h
    rw[cP e,cP e2,cP (Ne.symm e)];exact vV h
theorem sw(r:List Nat):dM (cQ r):=⟨dh r [80],dh r [83],dh r [80],dh r [83],dh r [76],dh r [80,76],dh r [83,76],vV⟩
theorem Bits.eq{a b:Bits}(h1:a.p=b.p)(h2:a.s=b.s)(h3:a.l=b.l)(h4:a.n=b.n)(h5:a.pl=b.pl)(h6:a.sl=b.sl)(h7:a.pn=b.pn)(h8:a.sn=b.sn)(h9:a.ln=b.ln)(h10:a.pln=b.pln)(h11:a.sln=b.sln)(h12:a.ps=b.ps):a=b:=by
 cases a;cases b;simp only at h1 h2 h3 h4 h5 h6 h7 h8 h9 h10 h11 h12;subst h1 h2 h3 h4 h5 h6 h7 h8 h9 h10 h11 h12;rfl
theorem sy(r:List Nat){d:Nat}(hd:d=80\/d=83\/d=76\/d=78):cQ (r++[d])=bp d (cQ r):=by
 have off:∀(c d:Nat) (w:List Nat),Nat.beq c d=false->bq (r++[d]) (w++[c])=bq r (w++[c]):=λc d w h=>by rw[g8,h];exact Bool.or_false _
 have on:∀(d:Nat) (w:List Nat),bq (r++[d]) (w++[d])=bq r w:=λd w=>by
  rw[g8,Nat.beq_refl];exact DR (dh r w)
 have on0:∀d:Nat,bq (r++[d]) [d]=true:=λd=>(on d []).trans (fh r)
 rcases hd with rfl|rfl|rfl|rfl
 ·exact Bits.eq (on0 80) (off 83 80 [] rfl) (off 76 80 [] rfl) (off 78 80 [] rfl) (off 76 80 [80] rfl) (off 76 80 [83] rfl) (off 78 80 [80] rfl) (off 78 80 [83] rfl) (off 78 80 [76] rfl) (off 78 80 [80,76] rfl) (off 78 80 [83,76] rfl) jm
 ·exact Bits.eq (off 80 83 [] rfl) (on0 83) (off 76 83 [] rfl) (off 78 83 [] rfl) (off 76 83 [80] rfl) (off 76 83 [83] rfl) (off 78 83 [80] rfl) (off 78 83 [83] rfl) (off 78 83 [76] rfl) (off 78 83 [80,76] rfl) (off 78 83 [83,76] rfl) jm
 ·exact Bits.eq (off 80 76 [] rfl) (off 83 76 [] rfl) (on0 76) (off 78 76 [] rfl) (on 76 [80]) (on 76 [83]) (off 78 76 [80] rfl) (off 78 76 [83] rfl) (off 78 76 [76] rfl) (off 78 76 [80,76] rfl) (off 78 76 [83,76] rfl) (pf nofun nofun)
 ·exact Bits.eq (off 80 78 [] rfl) (off 83 78 [] rfl) (off 76 78 [] rfl) (on0 78) (off 76 78 [80] rfl) (off 76 78 [83] rfl) (on 78 [80]) (on 78 [83]) (on 78 [76]) (on 78 [80,76]) (on 78 [83,76]) (pf nofun nofun)
where pf {d:Nat} (h1:d≠80) (h2:d≠83):∀{l:List Nat},eu (l++[d])=eu l
 |[]=>by show(bif Nat.beq d 80 then true else bif Nat.beq d 83 then false else false)=false;rw[cP h1,cP h2];rfl
 |e::l=>by
  show(bif Nat.beq e 80 then true else bif Nat.beq e 83 then false else eu (l++[d]))=bif Nat.beq e 80 then true else bif Nat.beq e 83 then false else eu l
  rw[pf h1 h2 (l:=l)]
end
section
open PySem PySem.W PySem.Challenge
section
variable {Φ:Fns} {τ:Tau} {μ:List Nm} {W n N:Nat} {κ:List (Str×NameKind)} {ρ:Rho} {x y z v:V} {p q:Pos}
theorem BL{o:Expr}{m:Str}{as:List Expr}{vs ws:List V}(hp:(p.endLine==q.line)=true)(hl:as.length<30)(hs:dT o=true)(ho:ev Φ τ N κ ρ o=(true,x))(ha:fO (ev Φ τ N κ ρ) as=(true,vs))(um:vs.map unh=ws)(hr:fP Φ (nm m) (unh x) ws=(true,v))(hm:ab (nm m) (nm "replace")=false):
 ev Φ τ (N+1) κ ρ (.Call (.Attribute o m p) as [] q)=(true,v):=by
 show(bif p.endLine==q.line&&decide (as.length<30)then(bif ab (nm m) (nm "replace")then _ else f9 Φ (ev Φ τ N κ ρ) o (nm m) as)else bad)=_;rw[hp,ai hl,hm];show f9 Φ (ev Φ τ N κ ρ) o (nm m) as=_;unfold f9;simp only[ho,ha,um,hr,hs,bZ]
theorem tZ{o a b:Expr}{s y z:List Nat}(hp:(p.endLine==q.line)=true)(hs:dT o=true)(ho:ev Φ τ N κ ρ o=(true,x))(hx:unh x = .str s)(hy:jN (ay (kd κ (nm "chr"))) (ev Φ τ N κ ρ a) (eC a)=(true,y))(hz:eC b=some z)(hyz:ab y z=false)(hl:s.length<=cap)(hzl:z.length<=14):
 ev Φ τ (N+1) κ ρ (.Call (.Attribute o "replace" p) [a,b] [] q)=(true, .str (av s y z)):=by
 show(bif p.endLine==q.line&&true then xM (ev Φ τ N κ ρ) (ay (kd κ (nm "chr"))) o a (eC b)else bad)=_;rw[hp,hz];show(((ev Φ τ N κ ρ o).1&&(jN (ay (kd κ (nm "chr"))) (ev Φ τ N κ ρ a) (eC a)).1&&(mJ (sS (jN (ay (kd κ (nm "chr"))) (ev Φ τ N κ ρ a) (eC a)).2 z) (unh (ev Φ τ N κ ρ o).2)).1&&dT o,(mJ (sS (jN (ay (kd κ (nm "chr"))) (ev Φ τ N κ ρ a) (eC a)).2 z) (unh (ev Φ τ N κ ρ o).2)).2):R)=_;rw[ho,hy,hs];show((true&&true&&(mJ (sS y z) (unh x)).1&&true,(mJ (sS y z) (unh x)).2):R)=_;rw[hx];show((true&&true&&(!ab y z&&decide (s.length<=cap)&&decide (z.length<=14))&&true, .str (av s y z)):R)=_;rw[hyz,ai hl,ai hzl];rfl
theorem yr{g:Bool}{a:Expr}{o:R}{c:Nat}(h1:eC a=none)(h:o=(true, .hid c)):jN g o (eC a)=(true,[c]):=by
 rw[h1,h];rfl
theorem Ho{a b:Expr}{c:Bool}(ha:ev Φ τ N κ ρ a=(true,x))(hb:ev Φ τ N κ ρ b=(true,y))(hr:HB x y=(true,c))(ux:unh x=x:=by rfl)(uy:unh y=y:=by rfl):ev Φ τ (N+1) κ ρ (.Compare a [.In] [b] p)=(true, .bool c):=by
 show f8 (ev Φ τ N κ ρ) a .In b=_;unfold f8;have hr:gQ .In x y=(true,c):=hr;simp only[ha,hb,ux,uy,hr,bZ]
theorem DS{a b e:Expr}{op op':CmpOp}{c d:Bool}(ha:ev Φ τ N κ ρ a=(true,x))(hb:ev Φ τ N κ ρ b=(true,y))(he:ev Φ τ N κ ρ e=(true,z))(h1:gQ op x y=(true,c))(h2:gQ op' y z=(true,d))(ux:unh x=x:=by rfl)(uy:unh y=y:=by rfl)(uz:unh z=z:=by rfl):
 ev Φ τ (N+1) κ ρ (.Compare a [op,op'] [b,e] p)=(true, .bool (c&&d)):=by
 show j2 (ev Φ τ N κ ρ) a op b op' e=_;unfold j2;simp only[ha,hb,he,ux,uy,uz,h1,h2,bZ]
theorem nZ{E:Expr->R}{a b:Expr}{c d:Bool}(ha:E a=(true, .bool c))(hb:E b=(true, .bool d)):gI E [a,b]=(true, .bool (c&&d)):=by
 cases c with
 |true=>exact fL ha rfl (lz hb)
 |false=>exact gX ha rfl
theorem xr{E:Expr->R}{a b:Expr}{c d:Bool}(ha:E a=(true, .bool c))(hb:E b=(true, .bool d)):qx E [a,b]=(true, .bool (c||d)):=by
 cases c with
 |true=>exact nV ha rfl
 |false=>exact yi ha rfl (tL hb)
theorem ql{t a b:Expr}{c:Bool}{r s:List Nat}(ht:ev Φ τ N κ ρ t=(true, .bool c))(ha:c=true->ev Φ τ N κ ρ a=(true, .str r))(hb:c=false->ev Φ τ N κ ρ b=(true, .str s)):ev Φ τ (N+1) κ ρ (.IfExp t a b p)=(true, .str (bif c then r else s)):=by
 refine vu (c:=c) ht rfl ?_;cases c with
 |true=>exact ha rfl
 |false=>exact hb rfl
end
structure RowD where
 (front body folded:List Nat) (kind:Nat) (fin:List Nat) (hid:Nat)
noncomputable def iz(r:RowD):V := .tup [.str r.front, .str r.body, .str r.folded,vN r.kind, .str r.fin, .hid r.hid]
noncomputable def bS(r:RowD):List Nat:=(aQ r.front [r.hid]).getD 0 []
noncomputable def bC(r:RowD):List Nat:=r.front.drop (bS r).length
noncomputable def ax(r:RowD):List Nat:=av (bC r) [r.hid] []
noncomputable def bF(b:Bits)(seen:Bool):Bool:=bif seen then b.l else b.sl
noncomputable def bL(b:Bits)(seen:Bool)(r:RowD):List Nat:=(bif bF b seen then[]else bS r)++bif b.p then ax r++r.folded else bC r++r.body
noncomputable def aT(b:Bits)(seen:Bool)(r:RowD):List Nat:=bif bF b seen&&b.pl then aE (bL b seen r)else bL b seen r
noncomputable def iv(r:RowD):Bool:=ab r.fin ([13]++[r.hid]++[10])
noncomputable def BM(b:Bits)(r:RowD):Bool:=bif Nat.blt 1 r.kind || !ab (bC r) []then(b.n&&Nat.blt r.kind 6)&&b.pn else b.n&&Nat.blt r.kind 6
noncomputable def BN(b:Bits)(r:RowD):Bool:=bif !ab (ax r) []then BM b r&&b.pln else BM b r
noncomputable def BO(b:Bits)(seen:Bool)(r:RowD):Bool:=bif !ab (bS r++ax r) []then BN b r&&(bif seen then b.ln else b.sln)else BN b r
noncomputable def vW(b:Bits)(seen:Bool)(r:RowD):Bool:=bif ab r.fin [13] || !seen then BO b seen r&&b.sn else BO b seen r
noncomputable def cy(b:Bits)(seen:Bool)(r:RowD):Bool:=bif iv r then vW b seen r&&(b.pn||b.sn)else vW b seen r
noncomputable def aF(b:Bits)(seen:Bool)(r:RowD):List Nat:=bif cy b seen r then[]else aT b seen r
noncomputable def fi(b:Bits)(r:RowD):List Nat:=bif !b.s then(bif b.p then av r.fin [r.hid] []else r.fin)else bif iv r && !b.ps then[13,10]++(bif b.p then[]else[r.hid])++[13,10]else[13,10]
noncomputable def d0(r:RowD):Bool := !ab r.fin [13]
noncomputable def bM(b:Bits):List RowD->Bool->List Nat
 |[],_=>[]
 |r::l,seen=>aF b seen r++fi b r++bM b l (d0 r)
theorem d4{b:Bits}{r:RowD}{l:List RowD}{seen:Bool}:bM b (r::l) seen=aF b seen r++fi b r++bM b l (d0 r):=rfl
noncomputable def yt:List RowD->Bool->Bool
 |[],s=>s
 |r::l,_=>yt l (d0 r)
theorem DT{r:RowD}{l:List RowD}{s:Bool}:yt (r::l) s=yt l (d0 r):=rfl
theorem cZ(s:List Nat)(c:Nat):av s [c] []=s.filter (· != c):=PyProof.Rows.replace_strikes (tx s) c
noncomputable abbrev kB:Fns:=⟨GL,[(nm "_law_stands",fStands)],[]⟩
noncomputable abbrev mC:List (Str×NameKind):=rZ.scope.names
noncomputable abbrev nT:List Nm:=lD mC
noncomputable def Ij:List Stmt->List Stmt
 |_::_::_ :: .For _ _ b _ _::_=>b
 |_=>[]
noncomputable abbrev tB:List Stmt:=Ij rZ.body
noncomputable def DU(b:Bits):V := .dict [([80],b.p),([83],b.s),([76],b.l),([78],b.n),([80,76],b.pl),([83,76],b.sl),([80,78],b.pn),([83,78],b.sn),([76,78],b.ln),([80,76,78],b.pln),([83,76,78],b.sln)]
noncomputable def FV:Option Stmt->List Stmt
 |some (.While _ b _ _)=>b
 |_=>[]
noncomputable def FW:Option Stmt->Expr
 |some (.While t _ _ _)=>t
 |_ => .Constant .none 0 default
end
section
open PySem PySem.W PySem.Challenge
noncomputable abbrev qI(R ws:V)(run:List Nat)(b:Bits)(text:List Nat)(seen:Bool)(r:RowD)(pt ld rs bl sh gn:Mine.Slot):List Mine.Slot:=
 [.val R, .val (.str run), .val ws, .val (DU b), .val (.str text), .val (.bool seen), .val (.str r.front), .val (.str r.body), .val (.str r.folded), .val (vN r.kind), .val (.str r.fin), .val (.hid r.hid),pt,ld,rs,bl,sh,gn]
section
variable {R ws:V} {run text:List Nat} {b:Bits} {seen:Bool} {r:RowD} {μ:List Nm} {n:Nat} {res:Res}
theorem DV{s:List Nat}{c:Nat}(h:s.length<=cap):fP kB (nm "split") (.str s) [.str [c]]=(true, .list ((aQ s [c]).map .str)):=by
 have e:fP kB (nm "split") (.str s) [.str [c]]=((decide (s.length<=cap)&&true, .list ((aQ s [c]).map .str)):R):=∅;rw[e,ai h];rfl
theorem sz(s:List Nat)(c:Nat):0<(aQ s [c]).length:=by
 obtain⟨rows,last,e,h1,h2⟩:=lL c s;have:=jj h1 h2;rw[show(rows.map (· ++ [c])).flatten++last=s from e.symm]at this;rw[this];simp
theorem FX(hf:r.front.length<=20)(h:ex kB [] μ 1000 mC n (tB.drop 2) (aJ nT (qI R ws run b text seen r (.val (.bool (bF b seen))) (.val (.str (bS r))) .un .un .un .un))=res):ex kB [] μ 1000 mC (n+2) tB (aJ nT (qI R ws run b text seen r .un .un .un .un .un .un))=res:=by
 refine bG 12 ∅ (by decide +kernel) (v := .bool (bF b seen)) ?_ (s := .val (.bool (bF b seen))) rfl ?_
 ·refine vu (x := .bool seen) (c:=seen) (aj 5 ∅ rfl) rfl ?_
  cases seen<;>kernel_rfl
 have hc:r.front.length<=cap:=by unfold cap;omega
 have hl:=mA r.front r.hid;refine bG 13 ∅ (by decide +kernel) (v := .str (bS r)) ?_ (s := .val (.str (bS r))) rfl h;refine bf (x := .list ((aQ r.front [r.hid]).map .str)) (y:=vN 0) rfl (aI rfl (BL (x := .str r.front) (vs:=[.hid r.hid]) (ws:=[.str [r.hid]]) ∅ nofun rfl (aj 6 ∅ rfl) (ao (aj 11 ∅ rfl) aA) rfl (DV hc) ∅)) (au rfl) rfl ?_;exact BE (by unfold cap;omega) (sz r.front r.hid)
theorem lN(r:RowD):(bS r).length<=r.front.length:=by
 have h:=il (dL [] (sz r.front r.hid));exact ah h (mA r.front r.hid).2
theorem lO(r:RowD):(bC r).length<=r.front.length:=by unfold bC;rw[dj];omega
theorem kF(r:RowD):(ax r).length<=r.front.length:=by
 unfold ax;rw[cZ];exact ah (List.length_filter_le _ _) (lO r)
theorem FY(hf:r.front.length<=20)(h:ex kB [] μ 1000 mC n (tB.drop 4) (aJ nT (qI R ws run b text seen r (.val (.bool (bF b seen))) (.val (.str (bS r))) (.val (.str (bC r))) (.val (.str (ax r))) .un .un))=res):
 ex kB [] μ 1000 mC (n+2) (tB.drop 2) (aJ nT (qI R ws run b text seen r (.val (.bool (bF b seen))) (.val (.str (bS r))) .un .un .un .un))=res:=by
 have hc:r.front.length<=cap:=by unfold cap;omega
 have l1:=lN r;have l2:=lO r;refine bG 14 ∅ (by decide +kernel) (v := .str (bC r)) ?_ (s := .val (.str (bC r))) rfl ?_
 ·exact aN (x := .str r.front) (a := .int ((bS r).length:Int)) (b := .none) (aj 6 ∅ rfl) (cw (dq ∅ (fQ 13 ∅ rfl) (len_str ⋯))) rfl rfl (bE hc)
 refine bG 15 ∅ (by decide +kernel) (v := .str (ax r)) ?_ (s := .val (.str (ax r))) rfl h;exact tZ (x := .str (bC r)) ∅ rfl (aj 14 ∅ rfl) rfl (yr rfl (aj 11 ∅ rfl)) ∅ rfl ⋯ (bw _)
theorem FZ(hf:r.front.length<=20)(hb:r.body.length<=20)(hd:r.folded.length<=20)(h:ex kB [] μ 1000 mC n (tB.drop 6) (aJ nT (qI R ws run b text seen r (.val (.bool (bF b seen))) (.val (.str (bS r))) (.val (.str (bC r))) (.val (.str (ax r))) (.val (.str (bL b seen r))) .un))=res):
 ex kB [] μ 1000 mC (n+2) (tB.drop 4) (aJ nT (qI R ws run b text seen r (.val (.bool (bF b seen))) (.val (.str (bS r))) (.val (.str (bC r))) (.val (.str (ax r))) .un .un))=res:=by
 have l1:=lN r;have l2:=lO r;have l3:=kF r;refine bG 16 ∅ (by decide +kernel) (v := .str (bif bF b seen then[]else bS r)) ?_ (s := .val (.str (bif bF b seen then[]else bS r))) rfl ?_
 ·exact ql (aj 12 ∅ rfl) (λ_=>au rfl) (λ_=>aj 13 ∅ rfl)
 have l4:(bif bF b seen then[]else bS r:List Nat).length<=20:=by
  cases bF b seen with
  |true=>exact bw _
  |false=>exact ah l1 hf
 have l5:(bif b.p then ax r++r.folded else bC r++r.body:List Nat).length<=40:=by
  cases b.p<;>(simp only[cond_true,cond_false,bk];omega)
 refine nf 16 ∅ (by decide +kernel) (x := .str (bif bF b seen then[]else bS r)) rfl (y := .str (bif b.p then ax r++r.folded else bC r++r.body)) ?_ (v := .str (bL b seen r)) (add_str (by unfold cap;omega)) rfl h;exact ql ∅ (λ_=>cV (x := .str (ax r)) (y := .str r.folded) (fQ 15 ∅ rfl) (aj 8 ∅ rfl) (add_str (by unfold cap;omega))) (λ_=>cV (x := .str (bC r)) (y := .str r.body) (fQ 14 ∅ rfl) (aj 7 ∅ rfl) (add_str (by unfold cap;omega)))
end
end
section
open PySem PySem.W PySem.Challenge
noncomputable def t7(s:List Nat):Bool:=ab [32] (s.take 1)||(ab [9] (s.take 1)||false)
theorem jn:∀{s:List Nat},t7 s=true->aE s=aE (s.drop 1)
 |[],h=>aa h
 |c::l,h=>by
  have h:(ab [32] [c]||(ab [9] [c]||false))=true:=h;rw[g6,g6 [9] [c],Bool.or_false]at h;unfold aE;rw[qd];have:(bif ab [c] [32]then dR l+1 else bif ab [c] [9]then dR l+1 else 0)=dR l+1:=by
   revert h;cases ab [c] [32]with
   |true=>exact λ_=>rfl
   |false=>intro h;rw[show ab [c] [9]=true from h];rfl
  rw[this];rfl
theorem fX:∀{s:List Nat},t7 s=false->aE s=s
 |[],_=>rfl
 |c::l,h=>by
  have h:(ab [32] [c]||(ab [9] [c]||false))=false:=h;rw[g6,g6 [9] [c],Bool.or_false]at h;have h:=Bool.or_eq_false_iff.mp h;unfold aE;rw[qd,h.1,h.2];rfl
section
variable {R ws:V} {run text:List Nat} {b:Bits} {seen:Bool} {r:RowD} {μ:List Nm} {n:Nat} {res:Res}
noncomputable abbrev nJ(R ws:V)(run:List Nat)(b:Bits)(text:List Nat)(seen:Bool)(r:RowD)(pp:Bool)(sh:List Nat):List Mine.Slot:=qI R ws run b text seen r (.val (.bool pp)) (.val (.str (bS r))) (.val (.str (bC r))) (.val (.str (ax r))) (.val (.str sh)) .un
noncomputable abbrev wT:Expr:=FW tB[6]?
noncomputable abbrev wB:List Stmt:=FV tB[6]?
theorem xt{pp:Bool}{sh:List Nat}(hs:sh.length<=cap):ev kB [] 40 mC (aJ nT (nJ R ws run b text seen r pp sh)) wT=(true, .bool (pp&&(b.pl&&t7 sh))):=by
 cases pp with
 |false=>exact fB (gX (x := .bool false) (aj 12 ∅ rfl) rfl)
 |true=>
  refine fB (fL (x := .bool true) (aj 12 ∅ rfl) rfl (nZ (c:=b.pl) ∅ ?_));exact Ho (x := .str (sh.take 1)) (y := .tup [.str [32], .str [9]]) (aN (x := .str sh) (a := .none) (b := .int 1) (aj 16 ∅ rfl) rfl (cw (au rfl)) rfl (vw (k:=1) hs)) ∅ rfl
theorem xu{pp:Bool}{sh:List Nat}(hs:sh.length<=cap):ex kB [] μ 1000 mC (n+2) wB (aJ nT (nJ R ws run b text seen r pp sh))=(true, .next (aJ nT (nJ R ws run b text seen r pp (sh.drop 1)))):=by
 refine bG 16 ∅ (by decide +kernel) (v := .str (sh.drop 1)) ?_ (s := .val (.str (sh.drop 1))) rfl cF;exact aN (x := .str sh) (a := .int 1) (b := .none) (aj 16 ∅ rfl) (cw (au rfl)) rfl rfl (bE (k:=1) hs)
theorem sB{pp:Bool}:∀(k:Nat) (sh:List Nat),sh.length<k->sh.length<=cap->cS (λρ=>ev kB [] 40 mC ρ wT) (ex kB [] μ 1000 mC (n+2) wB) k (aJ nT (nJ R ws run b text seen r pp sh))=(true, .next (aJ nT (nJ R ws run b text seen r pp (bif pp&&b.pl then aE sh else sh))))
 |0,sh,h,_=>absurd h (Nat.not_lt_zero _)
 |k+1,sh,h,hs=>by
  have T:=xt (R:=R) (ws:=ws) (run:=run) (b:=b) (text:=text) (seen:=seen) (r:=r) (pp:=pp) hs
  by_cases hg:(pp&&(b.pl&&t7 sh))=true
  ·have h1:=bc hg
   have h2:=bc h1.2;have hl:(sh.drop 1).length<k/\(sh.drop 1).length<=cap:=by
    have:sh≠[]:=λe=>by rw[e]at h2;exact aa h2.2
    have:=List.length_pos_iff.mpr this;rw[dj];omega
   refine pP T (by rw[hg];rfl) (xu hs) ?_;rw[sB k (sh.drop 1) hl.1 hl.2,h1.1,h2.1];show _=(true,gm.next (aJ nT (nJ R ws run b text seen r true (aE sh))));rw[jn h2.2];rfl
  ·have hg:=Bool.eq_false_iff.mpr hg
   refine(rY T (by rw[hg];rfl)).trans ?_;cases pp with
   |false=>rfl
   |true=>cases hp:b.pl with
    |false=>rfl
    |true=>
     rw[hp]at hg;show _=(true,gm.next (aJ nT (nJ R ws run b text seen r true (aE sh))));rw[fX hg]
theorem F1(hs:(bL b seen r).length<1000)(h:ex kB [] μ 1000 mC (n+2) (tB.drop 7) (aJ nT (nJ R ws run b text seen r (bF b seen) (aT b seen r)))=res):
 ex kB [] μ 1000 mC (n+3) (tB.drop 6) (aJ nT (nJ R ws run b text seen r (bF b seen) (bL b seen r)))=res:=
 pN (t:=wT) (b:=wB) (by
  rw[show freeze (bd 40 wT) (aJ nT (nJ R ws run b text seen r (bF b seen) (bL b seen r)))=aJ nT (nJ R ws run b text seen r (bF b seen) (bL b seen r))by kernel_rfl];exact sB 1000 _ hs (by unfold cap;omega)) h
end
end
section
open PySem PySem.W PySem.Challenge
theorem ne_str(x y:List Nat):gQ .NotEq (.str x) (.str y)=(true, !ab x y):=rfl
theorem eq_str(x y:List Nat):gQ .Eq (.str x) (.str y)=(true,ab x y):=rfl
theorem DW(x y:Nat):decide ((x:Int)<(y:Int))=Nat.blt x y:=by
 cases h:Nat.blt x y with
 |true=>rw[Nat.blt_eq]at h;exact ai ⋯
 |false=>
  refine bg λk => ?_
  have:Nat.blt x y=true:=Nat.blt_eq.mpr ⋯;rw[h]at this;exact Bool.noConfusion this
theorem Hp(a b:Nat):gQ .Gt (vN a) (vN b)=(true,Nat.blt b a):=by
 show((true,decide ((b:Int)<(a:Int))):Bool×Bool)=_;rw[DW]
section
variable {R ws:V} {run text sh:List Nat} {b:Bits} {seen pp:Bool} {r:RowD} {μ:List Nm} {n:Nat} {res:Res}
noncomputable abbrev fU(R ws:V)(run:List Nat)(b:Bits)(text:List Nat)(seen:Bool)(r:RowD)(pp:Bool)(sh:List Nat)(g:Bool):List Mine.Slot:=qI R ws run b text seen r (.val (.bool pp)) (.val (.str (bS r))) (.val (.str (bC r))) (.val (.str (ax r))) (.val (.str sh)) (.val (.bool g))
theorem F2(h:ex kB [] μ 1000 mC n (tB.drop 8) (aJ nT (fU R ws run b text seen r pp sh (b.n&&Nat.blt r.kind 6)))=res):
 ex kB [] μ 1000 mC (n+1) (tB.drop 7) (aJ nT (nJ R ws run b text seen r pp sh))=res:=by
 refine bG 17 ∅ (by decide +kernel) (v := .bool (b.n&&Nat.blt r.kind 6)) ?_ (s := .val (.bool (b.n&&Nat.blt r.kind 6))) rfl h;exact fB (nZ (c:=b.n) ∅ (bH (x:=vN r.kind) (y:=vN 6) nofun (aj 9 ∅ rfl) (au rfl) (Ey _ _)))
theorem lP {t e:Expr} {rest:List Stmt} {p1 p2 p3 p4 p5:Pos} {g c d:Bool} (ht:ev kB [] 40 mC (aJ nT (fU R ws run b text seen r pp sh g)) t=(true, .bool c)) (he:ev kB [] 39 mC (aJ nT (fU R ws run b text seen r pp sh g)) e=(true, .bool d)) (hf:freeze (bd 40 t) (aJ nT (fU R ws run b text seen r pp sh g))=aJ nT (fU R ws run b text seen r pp sh g))
 (hf2:freeze (bd 40 (.BoolOp .And [.Name "gone" p1,e] p2)) (aJ nT (fU R ws run b text seen r pp sh g))=aJ nT (fU R ws run b text seen r pp sh g))
 (h:ex kB [] μ 1000 mC (n+2) rest (aJ nT (fU R ws run b text seen r pp sh (bif c then g&&d else g)))=res):
 ex kB [] μ 1000 mC (n+3) (.If t [.Assign [.Name "gone" p3] (.BoolOp .And [.Name "gone" p1,e] p2) p4] [] p5::rest) (aJ nT (fU R ws run b text seen r pp sh g))=res:=by
 refine qc c (ssa:=fU R ws run b text seen r pp sh (g&&d)) (ssb:=fU R ws run b text seen r pp sh g) hf rfl ht rfl ?_ cF ?_ h
 ·exact bG 17 hf2 (by decide +kernel) (v := .bool (g&&d)) (fB (nZ (aj 17 ∅ rfl) he)) (s := .val (.bool (g&&d))) rfl cF
 ·kernel_rfl
theorem F4(hf:r.front.length<=20)(hfin:r.fin.length<=20)(h:ex kB [] μ 1000 mC (n+2) (tB.drop 13) (aJ nT (fU R ws run b text seen r pp sh (cy b seen r)))=res):
 ex kB [] μ 1000 mC (n+7) (tB.drop 8) (aJ nT (fU R ws run b text seen r pp sh (b.n&&Nat.blt r.kind 6)))=res:=by
 have l1:=lN r;have l3:=kF r;refine lP (c:=Nat.blt 1 r.kind || !ab (bC r) []) (d:=b.pn) (gw (xr (bH (x:=vN r.kind) (y:=vN 1) nofun (aj 9 ∅ rfl) (au rfl) (Hp _ _)) (bH (x := .str (bC r)) (y := .str []) nofun (aj 14 ∅ rfl) (au rfl) (ne_str _ _)))) ∅ ∅ ∅ ?_;refine lP (c := !ab (ax r) []) (d:=b.pln) (bH (x := .str (ax r)) (y := .str []) nofun (aj 15 ∅ rfl) (au rfl) (ne_str _ _)) ∅ ∅ ∅ ?_;refine lP (c := !ab (bS r++ax r) []) (d:=bif seen then b.ln else b.sln) (bH (x := .str (bS r++ax r)) (y := .str []) nofun (cV (x := .str (bS r)) (y := .str (ax r)) (fQ 13 ∅ rfl) (aj 15 ∅ rfl) (add_str (by unfold cap;omega))) (au rfl) (ne_str _ _)) ?_ ∅ ∅ ?_
 ·cases seen<;>kernel_rfl
 refine lP (c:=ab r.fin [13] || !seen) (d:=b.sn) (gw (xr (bH (x := .str r.fin) (y := .str [13]) nofun (aj 10 ∅ rfl) (au rfl) (eq_str _ _)) (mq (aj 5 ∅ rfl) rfl))) ∅ ∅ ∅ ?_;refine lP (c:=iv r) (d:=b.pn||b.sn) ?_ (gw (xr ∅ ∅)) ∅ ∅ h;exact bH (x := .str r.fin) (y := .str ([13]++[r.hid]++[10])) nofun (aj 10 ∅ rfl) ∅ (eq_str _ _)
end
end
section
open PySem PySem.W PySem.Challenge
theorem DX{Φ:Fns}{τ:Tau}{N:Nat}{κ:List (Str×NameKind)}{ρ:Rho}{p:Pos}{t a b:Expr}{c:Bool}{r s:List Nat}(ht:ev Φ τ N κ ρ t=(true, .bool c))(ha:∃v,ev Φ τ N κ ρ a=(true,v)/\unh v = .str r)(hb:∃v,ev Φ τ N κ ρ b=(true,v)/\unh v = .str s):ev Φ τ (N+1) κ ρ (.IfExp t a b p)=(true, .str (bif c then r else s)):=by
 show nE (ev Φ τ N κ ρ) t a b=_;obtain⟨v,h1,h2⟩:=ha;obtain⟨w,h3,h4⟩:=hb;unfold nE;simp only[ht,h1,h3,h2,h4];cases c<;>rfl
theorem BP{s:List Nat}{c:Nat}(h:s.length<=cap):fP kB (nm "find") (.str s) [.str [c]]=(true, .int (bT s [c] 0)):=by
 have e:fP kB (nm "find") (.str s) [.str [c]]=((decide (s.length<=cap)&&true, .int (bT s [c] 0)):R):=∅;rw[e,ai h];rfl
section
variable {R ws:V} {run text sh:List Nat} {b:Bits} {seen pp:Bool} {r:RowD} {μ:List Nm} {n:Nat} {res:Res} {g:Bool}
noncomputable def DY(q:Bool)(b:Bits)(r:RowD):List Nat:=bif !b.s then(bif b.p then av r.fin [r.hid] []else r.fin)else bif iv r && !q then[13,10]++(bif b.p then[]else[r.hid])++[13,10]else[13,10]
theorem yu(h:r.fin.length<=20):(av r.fin [r.hid] []).length<=20:=by
 rw[cZ];exact ah (List.length_filter_le _ _) h
theorem F6 (ht:text.length<=1000) (hs:sh.length<=100) (hfin:r.fin.length<=20) (hr:run.length<=1000) (hq:b.s=true->ky run=b.ps)
 (h:ex kB [] μ 1000 mC (n+4) (tB.drop 15) (aJ nT (fU R ws run b (text++(bif g then[]else sh)++fi b r) seen r pp sh g))=res):
 ex kB [] μ 1000 mC (n+6) (tB.drop 13) (aJ nT (fU R ws run b text seen r pp sh g))=res:=by
 have l1:(bif g then[]else sh:List Nat).length<=100:=by
  cases g with
  |true=>exact bw _
  |false=>exact hs
 refine nf 4 ∅ (by decide +kernel) (x := .str text) rfl (y := .str (bif g then[]else sh)) ?_ (v := .str (text++(bif g then[]else sh))) (add_str (by unfold cap;omega)) rfl ?_
 ·exact ql (aj 17 ∅ rfl) (λ_=>au rfl) (λ_=>aj 16 ∅ rfl)
 have l2:(text++(bif g then[]else sh)).length<=1100:=by rw[bk];omega
 have ee:fi b r=DY (ky run) b r:=by
  unfold fi DY;cases hb:b.s with
  |true=>rw[hq hb]
  |false=>rfl
 rw[ee]at h;generalize text++(bif g then[]else sh)=T at l2 h;have lf:=yu hfin;refine qc (!b.s) (ssa:=fU R ws run b (T++bif b.p then av r.fin [r.hid] []else r.fin) seen r pp sh g) (ssb:=fU R ws run b (T++bif iv r && !ky run then[13,10]++(bif b.p then[]else[r.hid])++[13,10]else[13,10]) seen r pp sh g) (ss':=fU R ws run b (bif !b.s then T++(bif b.p then av r.fin [r.hid] []else r.fin)else T++bif iv r && !ky run then[13,10]++(bif b.p then[]else[r.hid])++[13,10]else[13,10]) seen r pp sh g) ∅ ∅ (v := .bool (!b.s)) (mq (x := .bool b.s) ∅ rfl) rfl ?_ ?_ ∅ ?_
 ·refine nf 4 ∅ (by decide +kernel) (x := .str T) rfl (y := .str (bif b.p then av r.fin [r.hid] []else r.fin)) ?_ (v := .str (T++bif b.p then av r.fin [r.hid] []else r.fin)) (add_str ?_) rfl cF
  ·exact ql ∅ (λ_=>tZ (x := .str r.fin) ∅ rfl (aj 10 ∅ rfl) rfl (yr rfl (aj 11 ∅ rfl)) ∅ rfl (by unfold cap;omega) (bw _)) (λ_=>aj 10 ∅ rfl)
  ·cases b.p<;>(simp only[cond_true,cond_false];unfold cap;omega)
 ·refine qc (iv r && !ky run) (ssa:=fU R ws run b (T++([13,10]++(bif b.p then[]else[r.hid])++[13,10])) seen r pp sh g) (ssb:=fU R ws run b (T++[13,10]) seen r pp sh g) (ss':=fU R ws run b (bif iv r && !ky run then T++([13,10]++(bif b.p then[]else[r.hid])++[13,10])else T++[13,10]) seen r pp sh g) ∅ ∅ (v := .bool (iv r && !ky run)) ?_ rfl ?_ ?_ ∅ ?_
  ·exact fB (nZ (bH (x := .str r.fin) (y := .str ([13]++[r.hid]++[10])) nofun (aj 10 ∅ rfl) ∅ (eq_str _ _)) (mq (DS (x := .int 0) (y := .int (bT run [80] 0)) (z := .int (bT run [83] 0)) (c:=decide (0<=bT run [80] 0)) (d:=decide (bT run [80] 0<bT run [83] 0)) (au rfl) (fe (x := .str run) (vs:=[.str [80]]) ∅ nofun rfl (aj 1 ∅ rfl) (ao (au rfl) aA) (BP (by unfold cap;omega))) (fe (x := .str run) (vs:=[.str [83]]) ∅ nofun rfl (aj 1 ∅ rfl) (ao (au rfl) aA) (BP (by unfold cap;omega))) rfl rfl) rfl))
  ·refine nf 4 ∅ (by decide +kernel) (x := .str T) rfl (y := .str ([13,10]++(bif b.p then[]else[r.hid])++[13,10])) ?_ (v := .str (T++([13,10]++(bif b.p then[]else[r.hid])++[13,10]))) (add_str ?_) rfl cF
   ·have l3:(bif b.p then[]else[r.hid]:List Nat).length<=1:=by
     cases b.p with
     |true=>exact bw _
     |false=>exact aq _
    refine cV (x := .str ([13,10]++bif b.p then[]else[r.hid])) (y := .str [13,10]) (aI rfl (cV (x := .str [13,10]) (y := .str (bif b.p then[]else[r.hid])) (aI rfl (au rfl)) (DX ∅ ⟨_,au rfl,rfl⟩ ⟨_,aj 11 ∅ rfl,rfl⟩) (add_str (by simp only[aP,List.length_nil];unfold cap;omega)))) (au rfl) (add_str (by simp only[bk,aP,List.length_nil];unfold cap;omega))
   ·cases b.p<;>(simp only[cond_true,cond_false,bk,aP,List.length_nil];unfold cap;omega)
  ·exact nf 4 ∅ (by decide +kernel) (x := .str T) rfl (y := .str [13,10]) (au rfl) (v := .str (T++[13,10])) (add_str (by simp only[aP,List.length_nil];unfold cap;omega)) rfl cF
  ·cases iv r && !ky run<;>exact cF
 ·have e2:(bif !b.s then T++(bif b.p then av r.fin [r.hid] []else r.fin)else T++bif iv r && !ky run then[13,10]++(bif b.p then[]else[r.hid])++[13,10]else[13,10])=T++DY (ky run) b r:=by
   unfold DY;cases !b.s<;>rfl
  rw[e2];exact h
theorem F7:ex kB [] μ 1000 mC (n+2) (tB.drop 15) (aJ nT (fU R ws run b text seen r pp sh g))=(true, .next (aJ nT (fU R ws run b text (d0 r) r pp sh g))):=by
 refine bG 5 ∅ (by decide +kernel) (v := .bool (d0 r)) ?_ (s := .val (.bool (d0 r))) rfl cF;exact bH (x := .str r.fin) (y := .str [13]) nofun (aj 10 ∅ rfl) (au rfl) (ne_str _ _)
structure qm(r:RowD):Prop where
 front:r.front.length<=20
 body:r.body.length<=20
 folded:r.folded.length<=20
 fin:r.fin.length<=20
theorem sC(s:List Nat):(aE s).length<=s.length:=by unfold aE;rw[dj];omega
theorem sD{b:Bits}{seen:Bool}{r:RowD}(S:qm r):(bL b seen r).length<=60/\(aT b seen r).length<=60:=by
 obtain⟨h1,h2,h3,h4⟩:=S;have l1:=lN r;have l2:=lO r;have l3:=kF r;have h0:(bL b seen r).length<=60:=by
  have a1:(bif bF b seen then[]else bS r:List Nat).length<=20:=by
   cases bF b seen with
   |true=>exact bw _
   |false=>exact ah l1 h1
  have a2:(bif b.p then ax r++r.folded else bC r++r.body:List Nat).length<=40:=by
   cases b.p<;>(simp only[cond_true,cond_false,bk];omega)
  unfold bL;rw[bk];omega
 refine⟨h0, ?_⟩;unfold aT;cases bF b seen&&b.pl with
 |true=>exact ah (sC _) h0
 |false=>exact h0
theorem zt(S:qm r)(ht:text.length<=1000)(hr:run.length<=1000)(hq:b.s=true->ky run=b.ps):
 ex kB [] μ 1000 mC (n+30) tB (aJ nT (qI R ws run b text seen r .un .un .un .un .un .un))=(true, .next (aJ nT (fU R ws run b (text++aF b seen r++fi b r) (d0 r) r (bF b seen) (aT b seen r) (cy b seen r)))):=by
 have sl:=sD (b:=b) (seen:=seen) S;obtain⟨h1,h2,h3,h4⟩:=S;exact FX h1 (FY h1 (FZ h1 h2 h3 (F1 ⋯ (F2 (F4 h1 h4 (F6 ht ⋯ h4 hr hq F7))))))
end
end
section
open PySem PySem.W PySem.Challenge
theorem DZ {Φ:Fns} {τ:Tau} {N:Nat} {κ:List (Str×NameKind)} {ρ:Rho} {p:Pos} {α:Type} (val:α->V) (k:α->List Nat) (g:α->Bool) (l:List α) {kx vx t it:Expr} {scope:Scope} (sc:List Mine.Slot) (h1:fR κ scope=true) (h2:qD scope.names t=true) (hi:ci κ (ev Φ τ N κ ρ) t it=(true,l.map val)) (hc:cK scope ρ=aJ (tX scope) sc) (hl:l.length<=cap)
 (hb:∀a∈l,∃ss1,bU t (val a) (aJ (tX scope) sc)=(true,aJ (tX scope) ss1)/\ev Φ τ N scope.names (aJ (tX scope) ss1) kx=(true, .str (k a))/\ev Φ τ N scope.names (aJ (tX scope) ss1) vx=(true, .bool (g a))) (hn:d7 (l.map k)=true):
 ev Φ τ (N+1) κ ρ (.DictComp kx vx [⟨t,it,[],0⟩] scope p)=(true, .dict (l.map λa=>(k a,g a))):=by
 have e:bD (yG (ev Φ τ N) kx vx t scope (cK scope ρ)) (l.map val)=(true,l.map λa => .tup [.str (k a), .bool (g a)]):=by
  rw[hc];refine(ko val (λ_=>true) (λa => .tup [.str (k a), .bool (g a)]) l λa ha => ?_).trans (by rw[List.filter_eq_self.mpr λ_ _=>rfl]);obtain⟨ss1,e1,e2,e3⟩:=hb a ha;unfold yG;dsimp only;rw[e1];dsimp only;rw[e2,e3];exact⟨rfl,rfl,λ_=>rfl⟩
 show(let xs:=ci κ (ev Φ τ N κ ρ) t it;let r:=bD (yG (ev Φ τ N) kx vx t scope (cK scope ρ)) xs.2;let d:=r.2.map jM;((true&&fR κ scope&&qD scope.names t&&xs.1&&(true&&r.1&&d7 (d.map Prod.fst))&&decide (xs.2.length<=cap), .dict d):R))=_;dsimp only;rw[h1,h2,hi];dsimp only;rw[e];dsimp only;rw[show(l.map λa=>V.tup [.str (k a), .bool (g a)]).map jM=l.map λa=>(k a,g a)by rw[dQ];rfl,show d7 ((l.map λa=>(k a,g a)).map Prod.fst)=true by rw[dQ];exact hn,ai (show(l.map val).length<=cap by rw[aW];exact hl)]
 rfl
noncomputable def xv:List (List Nat):=[[80],[83],[76],[78],[80,76],[83,76],[80,78],[83,78],[76,78],[80,76,78],[83,76,78]]
noncomputable def qo:V := .tup (xv.map .str)
noncomputable abbrev zu(R:V)(run:List Nat)(b:Bits)(text:List Nat)(seen:Bool):List Mine.Slot:=[.val R, .val (.str run), .val qo, .val (DU b), .val (.str text), .val (.bool seen), .un, .un, .un, .un, .un, .un, .un, .un, .un, .un, .un, .un]
noncomputable def Hq:List Stmt->Expr
 |_::_::_ :: .For t _ _ _ _::_=>t
 |_ => .Constant .none 0 default
noncomputable abbrev D0:Expr:=Hq rZ.body
theorem sE{R:V}{run:List Nat}{b:Bits}{μ:List Nm}{n:Nat}{t0:List Nat}{s0:Bool}(hr:run.length<=1000)(hq:b.s=true->ky run=b.ps):∀(rows:List RowD) (text:List Nat) (seen:Bool),(∀r∈rows,qm r)->text.length+100*rows.length<=1000 ->
 dc (λv ρ=>((bU D0 v ρ).1&&(ex kB [] μ 1000 mC (n+30) tB (bU D0 v ρ).2).1,(ex kB [] μ 1000 mC (n+30) tB (bU D0 v ρ).2).2)) (aJ nT (zu R run b t0 s0)) (rows.map iz) (aJ nT (zu R run b text seen))=(true, .next (aJ nT (zu R run b (text++bM b rows seen) (yt rows seen))))/\(text++bM b rows seen).length<=1000
 |[],text,seen,_,hl=>by
  refine⟨?_,by show(text++[]).length<=1000;rw[bY];simpa using hl⟩;show(true,gm.next (aJ nT (zu R run b text seen)))=(true,gm.next (aJ nT (zu R run b (text++[]) seen)));rw[bY]
 |r::rows,text,seen,hs,hl=>by
  have S:=hs r (aO ..);rw[aP]at hl;have c1:(aF b seen r).length<=60:=by
   unfold aF;cases cy b seen r with
   |true=>exact bw _
   |false=>exact(sD S).2
  have c2:(fi b r).length<=20:=by
   unfold fi;have h4:=S.fin;have h5:=yu h4;cases !b.s with
   |true=>cases b.p<;>(simp only[cond_true,cond_false];omega)
   |false=>cases(iv r && !b.ps)with
    |true=>cases b.p with
     |true=>exact(by decide:4<=20)
     |false=>exact(by decide:5<=20)
    |false=>exact(by decide:2<=20)
  have ih:=sE (R:=R) (μ:=μ) (n:=n) (t0:=t0) (s0:=s0) hr hq rows (text++aF b seen r++fi b r) (d0 r) (λx hx=>hs x (aG _ hx)) (by rw[bk,bk];omega);rw[d4,DT];rw[show text++aF b seen r++fi b r++bM b rows (d0 r)=text++(aF b seen r++fi b r++bM b rows (d0 r))by simp]at ih;refine⟨?_,ih.2⟩;refine fc (ie (ρ1:=aJ nT (qI R qo run b text seen r .un .un .un .un .un .un)) ∅ (zt S ⋯ hr hq)) ?_;exact ih.1
noncomputable def fTold:List V->R:=dF kB [] 1000 (fK ["rows","run"] rZ)
theorem BQ{rows:List RowD}{run:List Nat}(hr:run.length<=1000)(hs:∀r∈rows,qm r)(hl:100*rows.length<=900):fTold [.list (rows.map iz), .str run]=(true, .str (bM (cQ run) rows true++[46])):=by
 have hq:(cQ run).s=true->ky run=(cQ run).ps:=λh=>BK (by
  by_cases m:83∈run
  ·exact m
  ·have:=qh (w:=[]) m
   have h:bq run [83]=true:=h;rw[this]at h;exact aa h)
 have cl:(rows.map iz).length<=cap:=by rw[aW];unfold cap;omega
 refine jf (ns:=nT) (ss:=[.val (.list (rows.map iz)), .val (.str run), .un, .un, .un, .un, .un, .un, .un, .un, .un, .un, .un, .un, .un, .un, .un, .un]) rfl ∅ ?_;refine bG 2 ∅ (by decide +kernel) (v:=qo) ∅ (s := .val qo) rfl ?_;refine bG 3 ∅ (by decide +kernel) (v:=DU (cQ run)) ?_ (s := .val (DU (cQ run))) rfl ?_
 ·refine(DZ V.str id (λw=>df run w 0) xv [.un, .un, .un, .val (.str run)] ∅ ∅ (dX (v:=qo) ∅ (aj 2 ∅ rfl) ∅ (.inl rfl)) ∅ nofun (λw hw=>⟨[.un, .val (.str w), .un, .val (.str run)],∅,aj 1 ∅ rfl, ?_⟩) (by decide +kernel)).trans ?_
  ·have lw:w.length<=1000:=by
    have:∀w∈xv,w.length<=1000:=nofun
    exact this w hw
   exact bX ∅ ∅ ∅ (vs:=[.str w, .str run]) (ao (aj 1 ∅ rfl) (ao (aj 3 ∅ rfl) aA)) (dW (F:=fStands) rfl (xk lw hr))
  ·have e:∀w,df run w 0=bq run w:=λw=>qj run w 0
   rw[show(λa:List Nat=>(id a,df run a 0))=λa=>(a,bq run a)from funext λa=>by rw[e];rfl]
   rfl
 refine Bw (ss':=zu (.list (rows.map iz)) run (cQ run) [] true) ∅ ∅ (vs:=[.str [], .bool true]) ∅ nofun ∅ ?_;have L:=sE (R := .list (rows.map iz)) (b:=cQ run) (μ:=a0 (hZ 20) rZ.body) (n:=166) (t0:=[]) (s0:=true) hr hq rows [] true hs (by simp;omega);rw[List.nil_append]at L;refine yl (t:=D0) (b:=tB) ∅ (dX (v := .list (rows.map iz)) ∅ (aj 0 ∅ rfl) (by show((decide ((rows.map iz).length<=cap),_):Bool×List V)=_;rw[ai cl]) (.inr ⟨rfl,rfl⟩)) ∅ L.1 ?_;exact ng ∅ (cV (x := .str (bM (cQ run) rows true)) (y := .str [46]) (fQ 4 ∅ rfl) (au rfl) (add_str (by have:=L.2;simp only[aP,List.length_nil];unfold cap;omega)))
section
variable {Φ:Fns} {τ:Tau} {N:Nat} {κ:List (Str×NameKind)} {ρ:Rho} {x y x' y' v:V} {p:Pos}
theorem t8{a b:Expr}(ha:look κ ρ (ev Φ τ N κ ρ) a=(true,x))(hb:ev Φ τ N κ ρ b=(true,y))(ux:unh x=x')(uy:unh y=y')(hr:dv .Add x' y'=(true,v)):ev Φ τ (N+1) κ ρ (.BinOp a .Add b p)=(true,v):=by
 show(let x:=look κ ρ (ev Φ τ N κ ρ) a;let y:=ev Φ τ N κ ρ b;let r:=dv .Add (unh x.2) (unh y.2);((x.1&&y.1&&r.1,r.2):R))=_;simp only[ha,hb,ux,uy,hr,bZ]
theorem lQ{a:Str}{n d m k1 k2:Nat}{p1 p2 p3 p4:Pos}(hd:d≠0)(hd2:d<10000000000)(hm:m≠0)(hx:ev Φ τ (N+1) κ ρ (.Name a p1)=(true,vN n)):ev Φ τ (N+3) κ ρ (.BinOp (.BinOp (.Name a p1) .FloorDiv (.Constant (.int (d:Int)) k1 p2) p3) .Mod (.Constant (.int (m:Int)) k2 p4) p)=(true,vN (n/d%m)):=
 et (x:=vN (n/d)) (y:=vN m) nofun (et (x:=vN n) (y:=vN d) nofun hx (au rfl) (FN hd hd2)) (au rfl) (tY hm)
theorem jF{l:List (List Nat)}{k:Nat}(hs:l.length<=cap)(hk:k<l.length):kM 0 (.tup (l.map .str)) (vN k)=(true, .str (l.getD k [])):=
 fW (by rw[aW];exact hs) (by rw[aW];exact hk) (qa [] hk)
end
noncomputable def vX(a k h:Nat):List Nat:=[[],[a],[h]].getD k []
theorem t9{a k h:Nat}(hk:k<3):unh ([V.str [], .str [a], .hid h].getD k .none) = .str (vX a k h):=by
 rcases(by omega:k=0\/k=1\/k=2)with rfl|rfl|rfl<;>rfl
theorem ua{a k h:Nat}:(vX a k h).length<=1:=by
 unfold vX
 rcases(by omega:k=0\/k=1\/k=2\/3<=k)with rfl|rfl|rfl|h
 ·exact bw _
 ·exact aq _
 ·exact aq _
 ·rw[cA,List.getElem?_eq_none (by simpa using h)];exact bw _
noncomputable def besideL:List Nat:=[172,174,846,848,6149,6151,6154,6158,8202,8206,8287,8289,65023,65040,65278,65280]
noncomputable def jo:List Nat:=[0,1,2,4,7,8,9,10,11,12]
noncomputable def cm(x:Nat):Nat:=tableL.getD (x/10368%27) 0
noncomputable def n4(x h:Nat):List Nat:=vX 32 (x%3) h++vX 32 (x/3%3) h++vX 9 (x/9%3) h
noncomputable def vY(n0 n1 n2 bs:Nat):List (List Nat):=[[n0,n1],[n0,113,n2],[bs,n0,n1,n2],[890,n0,n1,n2]]
noncomputable def lR(i n0 n1 n2 g0 g1 g2 st:Nat)(one odd:List Nat):List (List Nat):=
 [[n0,n1,n2],[n0,n1,n2].take i++[[g0,g1,g2].getD i 0]++[n0,n1,n2].drop (i+1),[g0,g1,g2].take i++[[n0,n1,n2].getD i 0]++[g0,g1,g2].drop (i+1),[g0,g1,g2],one,[n0,n1,n2].take i++[st]++[n0,n1,n2].drop (i+1),[46,n0,n1,n2],odd]
noncomputable def cX(u c:Nat):Nat:=119808+52*jo.getD u 0+c-97
noncomputable def sF(h:Nat):List (List Nat):=[[10],[13],[13,10],[13]++[h]++[10]]
noncomputable def BR(x n0 n1 n2 g0 g1 g2:Nat)(one:List Nat):List Nat:=
 (lR (x/864%3) n0 n1 n2 g0 g1 g2 (cX (x/279936%10) ([n0,n1,n2].getD (x/864%3) 0)) one ((vY n0 n1 n2 (besideL.getD (x/10368%16) 0)).getD (x/2592%4) [])).getD (x/27%8) []
noncomputable def Hr(x n0 n1 n2 g0 g1 g2:Nat)(one:List Nat):RowD:=
 ⟨n4 x (cm x),BR x n0 n1 n2 g0 g1 g2 one,bif Nat.blt (x/27%8) 6 then[n0,n1,n2]else av (BR x n0 n1 n2 g0 g1 g2 one) [890] [32,953],x/27%8,(sF (cm x)).getD (x/216%4) [],cm x⟩
noncomputable abbrev Ez:List (Str×NameKind):=Bo.scope.names
noncomputable abbrev nR:List Nm:=lD Ez
noncomputable def fRow:List V->R:=dF ku [] 1000 (fK ["x","name","one"] Bo)
noncomputable abbrev F8:List Nm:=a0 (hZ 20) Bo.body
noncomputable abbrev F9(k:Nat):List Stmt:=Bo.body.drop k
section
variable {x n0 n1 n2 g0 g1 g2 h i st n:Nat} {one:List Nat} {res:Res}
noncomputable abbrev BS(x n0 n1 n2:Nat)(one:List Nat)(tl:List Mine.Slot):List Mine.Slot := .val (vN x) :: .val (.str [n0,n1,n2]) :: .val (.str one) :: .val (.list (tableL.map vN)) :: .val (.tup (besideL.map vN))::tl
theorem Ga(x:Nat):cm x<1114112:=by
 have:∀c∈tableL,c<1114112:=nofun
 exact this _ (dL 0 (by show x/10368%27<27;omega))
theorem zv(x:Nat):besideL.getD (x/10368%16) 0<1114112:=by
 have:∀c∈besideL,c<1114112:=nofun
 exact this _ (dL 0 (by show x/10368%16<16;omega))
theorem Hs(h:ex ku [] F8 1000 Ez n (F9 4) (aJ nR (BS x n0 n1 n2 one [.val (.hid (cm x)), .val (.str (n4 x (cm x))), .un, .un, .un, .un, .un, .un, .un, .un]))=res):
 ex ku [] F8 1000 Ez (n+4) (F9 0) (aJ nR [.val (vN x), .val (.str [n0,n1,n2]), .val (.str one), .un, .un, .un, .un, .un, .un, .un, .un, .un, .un, .un, .un])=res:=by
 refine bG 3 ∅ (by decide +kernel) (v := .list (tableL.map vN)) ∅ (s := .val (.list (tableL.map vN))) ∅ ?_;refine bG 4 ∅ (by decide +kernel) (v := .tup (besideL.map vN)) ∅ (s := .val (.tup (besideL.map vN))) rfl ?_;refine bG 5 ∅ (by decide +kernel) (v := .hid (cm x)) ?_ (s := .val (.hid (cm x))) rfl ?_
 ·refine bX ∅ ∅ ∅ (vs:=[vN (cm x)]) (ao ?_ aA) (dU ∅ (xi (Ga x)))
  exact bf rfl (fQ 3 ∅ rfl) (lQ (d:=10368) (m:=27) nofun nofun nofun (aj 0 ∅ rfl)) rfl (BD nofun (by show x/10368%27<27;omega))
 refine bG 6 ∅ (by decide +kernel) (v := .str (n4 x (cm x))) ?_ (s := .val (.str (n4 x (cm x)))) rfl h;have a1:=ua (a:=32) (k:=x%3) (h:=cm x);have a2:=ua (a:=32) (k:=x/3%3) (h:=cm x);have a3:=ua (a:=9) (k:=x/9%3) (h:=cm x);refine t8 (x := .str (vX 32 (x%3) (cm x)++vX 32 (x/3%3) (cm x))) (y:=[V.str [], .str [9], .hid (cm x)].getD (x/9%3) .none) (aI rfl (t8 (x:=[V.str [], .str [32], .hid (cm x)].getD (x%3) .none) (y:=[V.str [], .str [32], .hid (cm x)].getD (x/3%3) .none) (aI rfl ?_) ?_ (t9 ⋯) (t9 ⋯) (add_str (by unfold cap;omega)))) ?_ rfl (t9 ⋯) (add_str (by rw[bk];unfold cap;omega))
 ·exact bf (x := .tup [V.str [], .str [32], .hid (cm x)]) rfl (aI rfl ∅) (y:=vN (x%3)) (et (x:=vN x) (y:=vN 3) nofun (aj 0 ∅ rfl) (au rfl) (tY nofun)) rfl (fW (show 3<=cap by decide) (by show x%3<3;omega) rfl)
 ·exact bf (x := .tup [V.str [], .str [32], .hid (cm x)]) rfl (aI rfl ∅) (y:=vN (x/3%3)) (lQ (d:=3) (m:=3) nofun nofun nofun (aj 0 ∅ rfl)) rfl (fW (show 3<=cap by decide) (by show x/3%3<3;omega) rfl)
 ·exact bf (x := .tup [V.str [], .str [9], .hid (cm x)]) rfl (aI rfl ∅) (y:=vN (x/9%3)) (lQ (d:=9) (m:=3) nofun nofun nofun (aj 0 ∅ rfl)) rfl (fW (show 3<=cap by decide) (by show x/9%3<3;omega) rfl)
theorem BT(a b:Nat):dv .Add (vN a) (vN b)=(true,vN (a+b)):=rfl
theorem D1{a b:Nat}(h:b<=a):dv .Sub (vN a) (vN b)=(true,vN (a-b)):=by
 show((true,V.int ((a:Int)-(b:Int))):R)=_;rw[show(a:Int)-(b:Int)=((a-b:Nat):Int)by omega];rfl
theorem xw{u c:Nat}(hu:u<10)(hc:c<1000):cX u c<1114112:=by
 have:∀f∈jo,f<=12:=nofun
 have:=this _ (dL 0 (show u<jo.length from hu));unfold cX;omega
theorem Ht (hg:j0 [n0,n1,n2]=[g0,g1,g2]) (hi:i=x/864%3) (hc:∀k,[n0,n1,n2].getD k 0<1000) (hst:st=cX (x/279936%10) ([n0,n1,n2].getD i 0)) {f:List Nat}
 (h2:ex ku [] F8 1000 Ez n (F9 7) (aJ nR (BS x n0 n1 n2 one [.val (.hid h), .val (.str f), .val (vN i), .val (.str [g0,g1,g2]), .val (.hid st), .val (.tup ((vY n0 n1 n2 (besideL.getD (x/10368%16) 0)).map .str)), .un, .un, .un, .un]))=res):
 ex ku [] F8 1000 Ez (n+3) (F9 4) (aJ nR (BS x n0 n1 n2 one [.val (.hid h), .val (.str f), .un, .un, .un, .un, .un, .un, .un, .un]))=res:=by
 have i3:i<3:=⋯;refine Bw (ss':=BS x n0 n1 n2 one [.val (.hid h), .val (.str f), .val (vN i), .val (.str [g0,g1,g2]), .un, .un, .un, .un, .un, .un]) ∅ ∅ (vs:=[vN i, .str [g0,g1,g2]]) (ao ?_ (ao ?_ aA)) (show 2<=cap by decide) ∅ ?_
 ·rw[hi];exact lQ (d:=864) (m:=3) nofun nofun nofun (aj 0 ∅ rfl)
 ·rw[<-hg];exact fe (x := .str [n0,n1,n2]) (vs:=[]) ∅ nofun rfl (aj 1 ∅ rfl) aA ∅
 refine bG 9 ∅ (by decide +kernel) (v := .hid st) ?_ (s := .val (.hid st)) rfl ?_
 ·rw[hst]
  have hu:x/279936%10<10:=⋯;refine bX ∅ ∅ ∅ (vs:=[vN (cX (x/279936%10) ([n0,n1,n2].getD i 0))]) (ao ?_ aA) (dU ∅ (xi (xw hu (hc i))));refine et (x:=vN (119808+52*jo.getD (x/279936%10) 0+[n0,n1,n2].getD i 0)) (y:=vN 97) nofun (cV (x:=vN (119808+52*jo.getD (x/279936%10) 0)) (y:=vN ([n0,n1,n2].getD i 0)) (aI rfl (cV (x:=vN 119808) (y:=vN (52*jo.getD (x/279936%10) 0)) (aI rfl (au rfl)) (et (x:=vN 52) (y:=vN (jo.getD (x/279936%10) 0)) nofun (au rfl) ?_ (FL nofun)) (BT _ _))) (bX ∅ ∅ ∅ (vs:=[.str [[n0,n1,n2].getD i 0]]) (ao ?_ aA) (dU ∅ FM)) (BT _ _)) (au rfl) (D1 ⋯)
  ·exact bf (x := .tup (jo.map vN)) rfl (aI rfl ∅) (lQ (d:=279936) (m:=10) nofun nofun nofun (aj 0 ∅ rfl)) rfl (yp nofun hu)
  ·exact bf (x := .str [n0,n1,n2]) (y:=vN i) rfl (fQ 1 ∅ rfl) (aj 7 ∅ rfl) rfl (gx (show 3<=cap by decide) i3)
 refine bG 10 ∅ (by decide +kernel) (v := .tup ((vY n0 n1 n2 (besideL.getD (x/10368%16) 0)).map .str)) ?_ (s := .val (.tup ((vY n0 n1 n2 (besideL.getD (x/10368%16) 0)).map .str))) rfl h2;refine lA (vs:=[.str [n0,n1], .str [n0,113,n2], .str [besideL.getD (x/10368%16) 0,n0,n1,n2], .str [890,n0,n1,n2]]) (ao ∅ (ao ∅ (ao ?_ (ao ∅ aA)))) (by show 4<=cap;decide);refine t8 (x := .hid (besideL.getD (x/10368%16) 0)) (y := .str [n0,n1,n2]) (aI rfl (bX ∅ ∅ ∅ (vs:=[vN (besideL.getD (x/10368%16) 0)]) (ao ?_ aA) (dU ∅ (xi (zv x))))) (aj 1 ∅ rfl) rfl rfl (add_str (show 4<=cap by decide));exact bf (x := .tup (besideL.map vN)) rfl (fQ 4 ∅ rfl) (lQ (d:=10368) (m:=16) nofun nofun nofun (aj 0 ∅ rfl)) rfl (yp nofun (by show x/10368%16<16;omega))
end
end
section
open PySem PySem.W PySem.Challenge
section
variable {x n0 n1 n2 g0 g1 g2 h i st n:Nat} {one od f:List Nat} {odds:List (List Nat)} {res:Res}
noncomputable abbrev BU(x n0 n1 n2:Nat)(one:List Nat)(h:Nat)(f:List Nat)(i g0 g1 g2 st:Nat)(odds:List (List Nat))(tl:List Mine.Slot):List Mine.Slot:=
 BS x n0 n1 n2 one (.val (.hid h) :: .val (.str f) :: .val (vN i) :: .val (.str [g0,g1,g2]) :: .val (.hid st) :: .val (.tup (odds.map .str))::tl)
theorem Hu (i3:i<3) (ho:odds.length=4)
 (h2:ex ku [] F8 1000 Ez n (F9 8) (aJ nR (BU x n0 n1 n2 one h f i g0 g1 g2 st odds [.val (.tup ((lR i n0 n1 n2 g0 g1 g2 st one (odds.getD (x/2592%4) [])).map .str)), .un, .un, .un]))=res):
 ex ku [] F8 1000 Ez (n+1) (F9 7) (aJ nR (BU x n0 n1 n2 one h f i g0 g1 g2 st odds [.un, .un, .un, .un]))=res:=by
 refine bG 11 ∅ (by decide +kernel) (v := .tup ((lR i n0 n1 n2 g0 g1 g2 st one (odds.getD (x/2592%4) [])).map .str)) ?_ (s := .val (.tup ((lR i n0 n1 n2 g0 g1 g2 st one (odds.getD (x/2592%4) [])).map .str))) rfl h2;clear h2;refine lA (ao ?_ (ao ?_ (ao ?_ (ao ?_ (ao ?_ (ao ?_ (ao ?_ (ao ?_ aA)))))))) (show 8<=cap by decide)
 case _=>exact aj 1 ∅ rfl
 case _=>rcases(by omega:i=0\/i=1\/i=2)with rfl|rfl|rfl<;>kernel_rfl
 case _=>rcases(by omega:i=0\/i=1\/i=2)with rfl|rfl|rfl<;>kernel_rfl
 case _=>exact aj 8 ∅ rfl
 case _=>exact aj 2 ∅ rfl
 case _=>rcases(by omega:i=0\/i=1\/i=2)with rfl|rfl|rfl<;>kernel_rfl
 case _=>kernel_rfl
 case _=>exact bf (x := .tup (odds.map .str)) rfl (fQ 10 ∅ rfl) (lQ (d:=2592) (m:=4) nofun nofun nofun (aj 0 ∅ rfl)) rfl (jF (by rw[ho];decide) ⋯)
theorem Hv{B:List (List Nat)}{k:Nat}(hk:k=x/27%8)(hB:B.length=8)(hl:(B.getD k []).length<=100):
 ex ku [] F8 1000 Ez (n+5) (F9 8) (aJ nR (BU x n0 n1 n2 one h f i g0 g1 g2 st odds [.val (.tup (B.map .str)), .un, .un, .un])) =
  (true, .ret (iz ⟨f,B.getD k [],bif Nat.blt k 6 then[n0,n1,n2]else av (B.getD k []) [890] [32,953],k,(sF h).getD (x/216%4) [],h⟩)):=by
 have k8:k<B.length:=⋯;refine bG 12 ∅ (by decide +kernel) (v:=vN k) ?_ (s := .val (vN k)) rfl ?_
 ·rw[hk];exact lQ (d:=27) (m:=8) nofun nofun nofun (aj 0 ∅ rfl)
 refine bG 13 ∅ (by decide +kernel) (v := .str (bif Nat.blt k 6 then[n0,n1,n2]else av (B.getD k []) [890] [32,953])) ?_ (s := .val (.str (bif Nat.blt k 6 then[n0,n1,n2]else av (B.getD k []) [890] [32,953]))) rfl ?_
 ·refine ql (bH (x:=vN k) (y:=vN 6) nofun (aj 12 ∅ rfl) (au rfl) (Ey _ _)) (λ_=>aj 1 ∅ rfl) (λ_ => ?_)
  exact tZ (x := .str (B.getD k [])) ∅ rfl (bf (x := .tup (B.map .str)) rfl (fQ 11 ∅ rfl) (aj 12 ∅ rfl) rfl (jF (by rw[hB];decide) k8)) rfl ∅ ∅ ∅ (by unfold cap;omega) nofun
 refine bG 14 ∅ (by decide +kernel) (v := .str ((sF h).getD (x/216%4) [])) ?_ (s := .val (.str ((sF h).getD (x/216%4) []))) rfl ?_
 ·exact bf (x := .tup ((sF h).map .str)) rfl (aI rfl ∅) (lQ (d:=216) (m:=4) nofun nofun nofun (aj 0 ∅ rfl)) rfl (jF (show 4<=cap by decide) (by show x/216%4<4;omega))
 refine ng ∅ (lA (ao (aj 6 ∅ rfl) (ao ?_ (ao (aj 13 ∅ rfl) (ao (aj 12 ∅ rfl) (ao (aj 14 ∅ rfl) (ao (aj 5 ∅ rfl) aA)))))) (show 6<=cap by decide));exact bf (x := .tup (B.map .str)) rfl (fQ 11 ∅ rfl) (aj 12 ∅ rfl) rfl (jF (by rw[hB];decide) k8)
theorem D2(hg:j0 [n0,n1,n2]=[g0,g1,g2])(hc:∀k,[n0,n1,n2].getD k 0<1000)(hb:(BR x n0 n1 n2 g0 g1 g2 one).length<=100):fRow [vN x, .str [n0,n1,n2], .str one]=(true,iz (Hr x n0 n1 n2 g0 g1 g2 one)):=by
 refine jf (ns:=nR) (ss:=[.val (vN x), .val (.str [n0,n1,n2]), .val (.str one), .un, .un, .un, .un, .un, .un, .un, .un, .un, .un, .un, .un]) rfl ∅ ?_;refine Hs ?_;refine Ht hg rfl hc rfl ?_;refine Hu ⋯ rfl ?_;exact Hv rfl rfl hb
end
end
section
theorem D3{a b:List Nat}(hb:b.length<=3):kq a b 1 (vy a b 1):=by
 by_cases h:a.length<=40
 ·exact BC 1 h ⋯
 ·cases a with
  |nil=>exact absurd (bw _) h
  |cons x a=>cases b with
   |nil=>
    refine .inl ?_;show cW (x::a) [] (2*(((x::a).length:Int)+(([]:List Nat).length:Nat)));rw[show 2*(((x::a).length:Int)+(([]:List Nat).length:Nat))=2*((x::a).length:Nat)by simp only[List.length_nil];omega];exact cW.nil _
   |cons y b=>
    unfold vy;rw[ai (Nat.not_le.mp h)];refine .inr ⟨rfl,λn k => ?_⟩;have:=k.sym.len
    omega
theorem D4{a b:List Nat}(hb:b.length<=3):kq a b 1 (tP a b 1):=by
 unfold tP;cases h:ab a b with
 |true=>
  rw[an.mp h];have:∀b:List Nat,Al b b 0:=λb=>by have:=Al.unpre b Al.nil;rwa [bY]at this
  exact .inl ⟨this b,λn k=>k.nonneg⟩
 |false=>
  refine kq.equi (vL a b) (kq.equi (Bz _ _) (D3 ?_));exact ah (List.length_take_le' ..) (ah (Nat.le_of_eq dj) (ah (Nat.sub_le ..) hb))
noncomputable def fj(nm x:List Nat):Bool:=decide (tP x nm 1<2)
theorem BV{nm x:List Nat}(hn:nm.length<=3)(h:∀n,Al x nm n->2<=n):fj nm x=false:=by
 refine bg λk => ?_
 rcases D4 (a:=x) hn with g|g
 ·have:=h _ g.1;omega
 ·omega
theorem zw{nm x:List Nat}(hn:nm.length<=3)(h:x.length<nm.length):fj nm x=false:=BV hn λn k=>by
 have:=k.len;omega
noncomputable def alien(nm:List Nat)(c:Nat):Bool:=nm.all λd=>decide (de c d=2)
theorem Al.alien{nm:List Nat}{c:Nat}(h:alien nm c=true){a b:List Nat}{n:Int}(k:Al a b n):(∀d∈b,d∈nm)->c∈a->2<=n:=by
 induction k with
 |nil=>exact λ_ m=>absurd m cj
 | @sub x y a b n k ih=>
   intro hb m;have p:=k.nonneg;have q:=gA x y
   rcases bu m with e|m
   ·have:=aY (cq h y (hb y (aO ..)))
    rw[<-e,this];omega
   ·have:=ih (λd hd=>hb d (aG _ hd)) m
    omega
 | @del x a b n k ih=>
   intro _ _;have p:=k.nonneg
   omega
 | @ins y a b n k ih=>
   intro _ _;have p:=k.nonneg
   omega
theorem fY{nm x:List Nat}{c:Nat}(hn:nm.length<=3)(h:alien nm c=true)(m:c∈x):fj nm x=false:=BV hn λn k=>k.alien h (λ_ d=>d) m
noncomputable def lm(f:List Nat->List Nat):List Nat->List Nat->List Nat
 |[],p=>f p
 |c::t,p=>bif Nat.beq c 10 then f p++10::lm f t []else lm f t (p++[c])
theorem Hw{f:List Nat->List Nat}{c:Nat}{t p:List Nat}:lm f (c::t) p=bif Nat.beq c 10 then f p++10::lm f t []else lm f t (p++[c]):=rfl
theorem ni{f:List Nat->List Nat}{t p:List Nat}:lm f (10::t) p=f p++10::lm f t []:=rfl
theorem qq{f:List Nat->List Nat}:∀{r t p:List Nat},10∉r->lm f (r++t) p=lm f t (p++r)
 |[],t,p,_=>by rw[bY];rfl
 |c::r,t,p,h=>by
  rw[List.cons_append,Hw,cP λe=>h (List.mem_cons.mpr (.inl e.symm)),cond_false,qq λm=>h (aG _ m),co];rfl
theorem yv{f:List Nat->List Nat}{last:List Nat}(hl:10∉last):∀(rows:List (List Nat)),(∀r∈rows,10∉r)->lm f (qg 10 rows last) []=db [10] ((rows++[last]).map f)
 |[],_=>by
  have:=qq (f:=f) (t:=[]) (p:=[]) hl;rw[bY]at this;exact this
 |r::rows,h=>by
  rw[lK,qq (h r (aO ..)),ni,yv hl rows λx hx=>h x (aG _ hx)];cases rows with
  |nil=>show f r++10::f last=f r++[10]++f last;simp
  |cons s rows=>show f r++10::db [10] ((s::rows++[last]).map f)=f r++[10]++db [10] ((s::rows++[last]).map f);simp
theorem EA(f:List Nat->List Nat)(t:List Nat):db [10] ((aQ t [10]).map f)=lm f t []:=by
 obtain⟨rows,last,e,h1,h2⟩:=lL 10 t;have s:=jj h1 h2;rw[show(rows.map (· ++ [10])).flatten++last=t from e.symm]at s;rw[s,e,yv h2 rows h1]
structure ub(nm:List Nat):Prop where
 len:nm.length=3
 a32:alien nm 32=true
 a9:alien nm 9=true
 a13:alien nm 13=true
 a46:alien nm 46=true
structure bv(nm:List Nat)(r:RowD):Prop where
 split:r.front=bS r++bC r
 lead:∀c∈bS r,c=32\/c=9
 rest:bC r=[]\/∃t,bC r=r.hid::t
 restIn:∀c∈bC r,c=32\/c=9\/c=r.hid
 hid:prepC r.hid=[]
 hidC:r.hid≠10/\r.hid≠13/\r.hid≠32/\r.hid≠9
 hidA:alien nm r.hid=true
 body:∃c t,r.body=c::t/\c≠32/\c≠9
 bodyC:∀c∈r.body,c≠10/\c≠13
 prep:r.body.flatMap prepC=r.folded
 folded:∀c∈r.folded,prepC c=[c]/\c≠10/\c≠13
 strip:aE r.folded≠[]
 nearB:Mine.fj nm r.body=Nat.ble r.kind 1
 nearF:Mine.fj nm r.folded=Nat.blt r.kind 6
 nearS:Mine.fj nm (aE r.folded)=Nat.blt r.kind 6
 fin:r.fin=[10]\/r.fin=[13]\/r.fin=[13,10]\/r.fin=[13,r.hid,10]
structure Plain5:Prop where
 c32:prepC 32=[32]
 c9:prepC 9=[9]
 c10:prepC 10=[10]
 c13:prepC 13=[13]
 c46:prepC 46=[46]
section
variable {nm:List Nat} {r:RowD} {b:Bits} {seen:Bool}
theorem bv.blanks(R:bv nm r):ax r=(bC r).filter (· != r.hid):=cZ _ _
theorem bv.blanksIn(R:bv nm r):∀c∈ax r,c=32\/c=9:=λc h=>by
 rw[R.blanks]at h;have h:=List.mem_filter.mp h
 rcases R.restIn c h.1 with e|e|e
 ·exact .inl e
 ·exact .inr e
 ·have:=h.2;rw[e]at this;simp at this
theorem mD{l:List Nat}(h:∀c∈l,prepC c=[c]):l.flatMap prepC=l:=by
 induction l with
 |nil=>rfl
 |cons c l ih=>rw[List.flatMap_cons,h c (aO ..),ih λd hd=>h d (aG _ hd)];rfl
theorem Plain5.blank(P:Plain5){l:List Nat}(h:∀c∈l,c=32\/c=9):∀c∈l,prepC c=[c]:=λc m=>by
 rcases h c m with e|e
 ·rw[e];exact P.c32
 ·rw[e];exact P.c9
theorem kG{h:Nat}(hh:prepC h=[]):∀{l:List Nat},(∀c∈l,c≠h->prepC c=[c])->l.flatMap prepC=l.filter (· != h)
 |[],_=>rfl
 |c::l,k=>by
  rw[List.flatMap_cons,kG hh (l:=l) λd hd=>k d (aG _ hd),List.filter_cons]
  by_cases e:c=h
  ·rw[e,hh,show(h !=h)=false by simp];rfl
  ·rw[k c (aO ..) e,show(c !=h)=true by simpa using e];rfl
theorem bv.prepRest(P:Plain5)(R:bv nm r):(bC r).flatMap prepC=ax r:=by
 rw[R.blanks];refine kG R.hid λc m n => ?_
 rcases R.restIn c m with e|e|e
 ·rw[e];exact P.c32
 ·rw[e];exact P.c9
 ·exact absurd e n
noncomputable def jI(b:Bits)(seen:Bool)(r:RowD):List Nat:=bif bF b seen then[]else bS r
theorem bN:bL b seen r=jI b seen r++bif b.p then ax r++r.folded else bC r++r.body:=rfl
theorem im(R:bv nm r):∀c∈jI b seen r,c=32\/c=9:=λc m=>by
 unfold jI at m;cases h:bF b seen with
 |true=>rw[h]at m;exact absurd m cj
 |false=>rw[h]at m;exact R.lead c m
theorem zy{l:List Nat}{c:Nat}(h:c∈aE l):c∈l:=List.mem_of_mem_drop h
theorem mE{c:Nat}(h:c∈aT b seen r):c∈bL b seen r:=by
 unfold aT at h;cases k:bF b seen&&b.pl with
 |true=>rw[k]at h;exact zy h
 |false=>rw[k]at h;exact h
theorem vZ(R:bv nm r):∀c∈aT b seen r,c≠10/\c≠13:=λc m=>by
 have m:=mE m;rw[bN]at m;have bl:∀{l:List Nat},(∀c∈l,c=32\/c=9)->c∈l->c≠10/\c≠13:=λh m=>by rcases h c m with e|e<;>omega
 rcases eJ m with m|m
 ·exact bl (im R) m
 ·cases h:b.p with
  |true=>
   rw[h]at m
   rcases eJ m with m|m
   ·exact bl R.blanksIn m
   ·exact(R.folded c m).2
  |false=>
   rw[h]at m
   rcases eJ m with m|m
   ·have:=R.hidC
    rcases R.restIn c m with e|e|e<;>omega
   ·exact R.bodyC c m
theorem fk:∀{l m:List Nat},(∀c∈l,c=32\/c=9)->aE (l++m)=aE m
 |[],m,_=>rfl
 |c::l,m,h=>by
  have e:t7 (c::l++m)=true:=by
   show(ab [32] [c]||(ab [9] [c]||false))=true
   rcases h c (aO ..)with e|e<;>(rw[e];rfl)
  rw[jn e];exact fk λd hd=>h d (aG _ hd)
theorem io{c:Nat}{l:List Nat}(h1:c≠32)(h2:c≠9):aE (c::l)=c::l:=fX (by
 show(ab [32] [c]||(ab [9] [c]||false))=false;rw[lH,lH,cP (Ne.symm h1),cP (Ne.symm h2)];rfl)
theorem bv.restBody(R:bv nm r):∃c t,bC r++r.body=c::t/\c≠32/\c≠9:=by
 rcases R.rest with e|⟨t,e⟩
 ·rw[e];exact R.body
 ·rw[e];exact⟨r.hid,t++r.body,rfl,R.hidC.2.2⟩
theorem BW(R:bv nm r):aT b seen r≠[]:=by
 have key:aE (bL b seen r)≠[]:=by
  rw[bN,fk (im R)];cases b.p with
  |true=>show aE (ax r++r.folded)≠[];rw[fk R.blanksIn];exact R.strip
  |false=>
   obtain⟨c,t,e,h1,h2⟩:=R.restBody;show aE (bC r++r.body)≠[];rw[e,io h1 h2];exact fZ _ _
 unfold aT;cases bF b seen&&b.pl with
 |true=>exact key
 |false=>exact λe=>key (by show aE (bL b seen r)=[];rw[show bL b seen r=[]from e];rfl)
theorem D5(P:Plain5)(G:dM b)(R:bv nm r):(aT b seen r).flatMap prepC=aT (bp 80 b) seen r:=by
 cases h:b.p with
 |false=>
  have hpl:b.pl=false:=by
   cases k:b.pl with
   |false=>rfl
   |true=>have:=G.pl k;rw[h]at this;exact aa this
  have e1:aT b seen r=jI b seen r++(bC r++r.body):=by
   unfold aT;rw[hpl,Bool.and_false,bN,h];rfl
  have e2:aT (bp 80 b) seen r=jI b seen r++(ax r++r.folded):=by
   show(bif bF b seen&&b.pl then _ else jI b seen r++(ax r++r.folded))=_;rw[hpl,Bool.and_false];rfl
  rw[e1,e2,List.flatMap_append,List.flatMap_append,mD (P.blank (im R)),R.prepRest P,R.prep]
 |true=>
  have e2:aT (bp 80 b) seen r=aT b seen r:=by
   have:bL (bp 80 b) seen r=bL b seen r:=by
    rw[bN,bN,h];rfl
   show(bif bF b seen&&b.pl then aE (bL (bp 80 b) seen r)else bL (bp 80 b) seen r)=_;rw[this];rfl
  rw[e2];refine mD λc m => ?_
  have m:=mE m;rw[bN,h]at m
  rcases eJ m with m|m
  ·exact P.blank (im R) c m
  ·rcases eJ m with m|m
   ·exact P.blank R.blanksIn c m
   ·exact(R.folded c m).1
theorem Gb(P:Plain5)(G:dM b)(R:bv nm r):(aF b seen r).flatMap prepC=aF (bp 80 b) seen r:=by
 show(bif cy b seen r then[]else aT b seen r:List Nat).flatMap prepC=bif cy b seen r then[]else aT (bp 80 b) seen r;cases cy b seen r with
 |true=>rfl
 |false=>exact D5 P G R
theorem BX(P:Plain5)(R:bv nm r):r.fin.flatMap prepC=av r.fin [r.hid] []:=by
 rw[cZ];refine kG R.hid λc m n => ?_
 have k:c=10\/c=13:=by
  rcases R.fin with e|e|e|e<;>(rw[e]at m;simp only[List.mem_cons,cj,or_false]at m;omega)
 rcases k with e|e
 ·rw[e];exact P.c10
 ·rw[e];exact P.c13
theorem Hx(P:Plain5)(R:bv nm r):(fi b r).flatMap prepC=fi (bp 80 b) r:=by
 have c10:=P.c10;have c13:=P.c13;show(bif !b.s then(bif b.p then av r.fin [r.hid] []else r.fin)else bif iv r && !b.ps then[13,10]++(bif b.p then[]else[r.hid])++[13,10]else[13,10]:List Nat).flatMap prepC=bif !b.s then av r.fin [r.hid] []else bif iv r && !(bif b.p||b.s then b.ps else true)then[13,10]++[]++[13,10]else[13,10]
 cases b.s with
 |false=>
  cases b.p with
  |false=>exact BX P R
  |true=>
   show(av r.fin [r.hid] []).flatMap prepC=av r.fin [r.hid] [];rw[<-BX P R];refine mD λc m => ?_
   rw[BX P R,cZ]at m;have m:=List.mem_filter.mp m;have k:c=10\/c=13:=by
    have m2:c≠r.hid:=by simpa using m.2
    have m:=m.1
    rcases R.fin with e|e|e|e<;>(rw[e]at m;simp only[List.mem_cons,cj,or_false]at m;omega)
   rcases k with e|e
   ·rw[e];exact c10
   ·rw[e];exact c13
 |true=>
  rw[cC];show(bif iv r && !b.ps then[13,10]++(bif b.p then[]else[r.hid])++[13,10]else[13,10]:List Nat).flatMap prepC=bif iv r && !b.ps then[13,10]++[]++[13,10]else[13,10]
  cases iv r && !b.ps with
  |false=>show([13,10]:List Nat).flatMap prepC=[13,10];simp[c10,c13]
  |true=>
   show([13,10]++(bif b.p then[]else[r.hid])++[13,10]:List Nat).flatMap prepC=[13,10]++[]++[13,10];cases b.p with
   |true=>simp[c10,c13]
   |false=>simp[c10,c13,R.hid]
theorem BY(P:Plain5)(G:dM b):∀(rows:List RowD) (seen:Bool),(∀r∈rows,bv nm r)->(bM b rows seen++[46]).flatMap prepC=bM (bp 80 b) rows seen++[46]
 |[],seen,_=>by show([46]:List Nat).flatMap prepC=[46];rw[List.flatMap_cons,P.c46];rfl
 |r::rows,seen,h=>by
  have ih:=BY P G rows (d0 r) λx hx=>h x (aG _ hx)
  have R:=h r (aO ..);rw[d4,d4,co,List.flatMap_append,ih,List.flatMap_append,Gb P G R,Hx P R];simp only[co]
end
end
section
section
variable {nm:List Nat} {r:RowD} {b:Bits} {seen:Bool}
theorem kH(R:bv nm r):∀c∈aF b seen r,c≠10/\c≠13:=λc m=>by
 unfold aF at m;cases h:cy b seen r with
 |true=>rw[h]at m;exact absurd m cj
 |false=>rw[h]at m;exact vZ R c m
theorem qr(G:dM b)(hs:b.s=false)(h:seen=false\/r.fin=[13]):cy b seen r=false:=by
 have sn:b.sn=false:=by
  cases k:b.sn with
  |false=>rfl
  |true=>have:=G.sn k;rw[hs]at this;exact aa this
 have c:(ab r.fin [13] || !seen)=true:=by
  rcases h with h|h
  ·rw[h];exact cC _
  ·rw[h];rfl
 have g4:vW b seen r=false:=by
  unfold vW;rw[c,sn];exact Bool.and_false _
 unfold cy;rw[g4];cases iv r<;>rfl
theorem yw(G:dM b)(R:bv nm r)(hs:b.s=false)(h:seen=false\/r.fin=[13]):aF b seen r≠[]:=by
 unfold aF;rw[qr G hs h];exact BW R
theorem v0:∀{t X:List Nat} {bb:Bool},(∀c∈t,c≠10/\c≠13)->(bb=true->t≠[])->aB bb (t++X)=t++aB false X
 |[],X,bb,_,h=>by
  cases bb with
  |false=>rfl
  |true=>exact absurd rfl (h rfl)
 |c::t,X,bb,hc,_=>by
  have k:=hc c (aO ..);rw[List.cons_append,lF,show(c==13)=false by simpa using k.2,show(c==10)=false by simpa using k.1];show c::aB false (t++X)=_;rw[v0 (λd hd=>hc d (aG _ hd)) (λh=>aa h)];rfl
theorem BZ(h:r.fin=[13,r.hid,10]):iv r=true:=by unfold iv;rw[h];exact an.mpr rfl
theorem lS(R:bv nm r)(h:r.fin=[10]\/r.fin=[13]\/r.fin=[13,10]):iv r=false:=by
 unfold iv;have:=R.hidC
 rcases h with e|e|e
 ·rw[e];rfl
 ·rw[e];rfl
 ·rw[e]
  show(Nat.beq 13 13&&(Nat.beq 10 r.hid&&false))=false;cases Nat.beq 10 r.hid<;>rfl
theorem lU:d0 r = !ab r.fin [13]:=rfl
theorem Iz{a b:Nat}(h:a≠b):(a !=b)=true:=by simpa using h
theorem nj(R:bv nm r):(r.fin=[10]->av r.fin [r.hid] []=[10])/\(r.fin=[13]->av r.fin [r.hid] []=[13])/\(r.fin=[13,10]->av r.fin [r.hid] []=[13,10])/\(r.fin=[13,r.hid,10]->av r.fin [r.hid] []=[13,10]):=by
 have k:=R.hidC;have f1:=Iz (Ne.symm k.1);have f2:=Iz (Ne.symm k.2.1);rw[cZ];refine⟨λe => ?_,λe => ?_,λe => ?_,λe => ?_⟩<;>rw[e]<;>simp only[List.filter_cons,f1,f2,List.filter_nil,if_true]
 rw[show(r.hid !=r.hid)=false by simp];rfl
theorem Hy(G:dM b)(R:bv nm r)(X:List Nat):∃bb,aB false (fi b r++X)=fi (bp 83 b) r++aB bb X/\(bb=true->b.s=false/\d0 r=false):=by
 have k:=R.hidC;have z13:∀Y,aB false (13::Y)=13::10::aB true Y:=λ_=>rfl
 have z10:∀Y,aB true (10::Y)=aB false Y:=λ_=>rfl
 have z10f:∀Y,aB false (10::Y)=13::10::aB false Y:=λ_=>rfl
 have zh:∀bb Y,aB bb (r.hid::Y)=r.hid::aB false Y:=λbb Y=>by
  rw[lF,show(r.hid==13)=false by simpa using k.2.1,show(r.hid==10)=false by simpa using k.1];rfl
 have eS:fi (bp 83 b) r=bif iv r && !(bif b.p||b.s then b.ps else false)then[13,10]++(bif b.p then[]else[r.hid])++[13,10]else[13,10]:=rfl
 rw[eS];cases hs:b.s with
 |true=>
  refine⟨false, ?_,λh=>aa h⟩;have e0:fi b r=bif iv r && !b.ps then[13,10]++(bif b.p then[]else[r.hid])++[13,10]else[13,10]:=by unfold fi;rw[hs];rfl
  rw[e0,cC];show _=(bif iv r && !b.ps then[13,10]++(bif b.p then[]else[r.hid])++[13,10]else[13,10])++aB false X;cases iv r && !b.ps with
  |false=>rfl
  |true=>cases b.p with
   |true=>rfl
   |false=>
    show aB false (13::10::r.hid::13::10::X)=13::10::r.hid::13::10::aB false X;rw[z13,z10,zh,z13,z10]
 |false=>
  have hps:=G.ps hs;have e0:fi b r=bif b.p then av r.fin [r.hid] []else r.fin:=by unfold fi;rw[hs];rfl
  obtain⟨s1,s2,s3,s4⟩:=nj R;rw[e0,Bool.or_false,hps]
  rcases R.fin with e|e|e|e
  ·rw[lS R (.inl e),show(bif b.p then av r.fin [r.hid] []else r.fin)=[10]by rw[s1 e,e];cases b.p<;>rfl]
   exact⟨false,rfl,λh=>aa h⟩
  ·rw[lS R (.inr (.inl e)),show(bif b.p then av r.fin [r.hid] []else r.fin)=[13]by rw[s2 e,e];cases b.p<;>rfl]
   exact⟨true,rfl,λ_=>⟨rfl,by rw[lU,e];rfl⟩⟩
  ·rw[lS R (.inr (.inr e)),show(bif b.p then av r.fin [r.hid] []else r.fin)=[13,10]by rw[s3 e,e];cases b.p<;>rfl]
   exact⟨false,rfl,λh=>aa h⟩
  ·rw[BZ e]
   refine⟨false, ?_,λh=>aa h⟩;cases b.p with
   |true=>show aB false (av r.fin [r.hid] []++X)=_;rw[s4 e];rfl
   |false=>
    show aB false (r.fin++X)=13::10::r.hid::13::10::aB false X;rw[e];show aB false (13::r.hid::10::X)=_;rw[z13,zh,z10f]
theorem B0(G:dM b):∀(rows:List RowD) (seen bb:Bool),(∀r∈rows,bv nm r)->(bb=true->b.s=false/\seen=false)->aB bb (bM b rows seen++[46])=bM (bp 83 b) rows seen++[46]
 |[],seen,bb,_,_=>by cases bb<;>rfl
 |r::rows,seen,bb,h,hb=>by
  have R:=h r (aO ..);rw[d4,d4,co,co,v0 (kH R) λe=>yw G R (hb e).1 (.inl (hb e).2)];obtain⟨b2,e,h2⟩:=Hy G R (bM b rows (d0 r)++[46]);rw[e,B0 G rows (d0 r) b2 (λx hx=>h x (aG _ hx)) h2,co,co];rfl
end
end
section
section
variable {nm:List Nat} {r:RowD} {b:Bits} {seen:Bool}
noncomputable def iw(b:Bits)(seen:Bool)(p:List Nat):Prop:=((b.s||seen)=true->p=[])/\((b.s||seen)=false->∃q,p=q++[13])
theorem iw.new{b:Bits}{seen:Bool}(h:(b.s||seen)=true):iw b seen []:=⟨λ_=>rfl,λk=>by rw[h]at k;exact aa k.symm⟩
inductive gB(b:Bits)(r:RowD):List Nat->Prop
 |sent:b.s=true->gB b r [13]
 |feed:b.s=false->r.fin=[10]->gB b r []
 |both:b.s=false->r.fin=[13,10]->gB b r [13]
 |prep:b.s=false->r.fin=[13,r.hid,10]->b.p=true->gB b r [13]
 |hid:b.s=false->r.fin=[13,r.hid,10]->b.p=false->gB b r [13,r.hid]
theorem Ik(R:bv nm r):10∉aF b seen r:=λm=>(kH R 10 m).1 rfl
theorem kI {f g:List Nat->List Nat} {b':Bits} (hg0:g []=[]) (hend:∀r,fi b' r=fi b r)
 (Hf:∀r,bv nm r->∀seen p,iw b seen p->∀e,gB b r e->f (p++aF b seen r++e)=g p++aF b' seen r++e)
 (Hg:∀r,bv nm r->∀seen p,iw b seen p->b.s=false->r.fin=[13]->g (p++aF b seen r++[13])=g p++aF b' seen r++[13])
 (H2:∀r,bv nm r->∀z,(z=[]\/z=[r.hid])->f (z++[13])=z++[13])
 (Hl:∀seen p,iw b seen p->f (p++[46])=g p++[46]):∀(rows:List RowD) (seen:Bool) (p:List Nat),(∀r∈rows,bv nm r)->iw b seen p->lm f (bM b rows seen++[46]) p=g p++(bM b' rows seen++[46])
 |[],seen,p,_,hp=>Hl seen p hp
 |r::rows,seen,p,h,hp=>by
  have R:=h r (aO ..);have ih:=λp'=>kI hg0 hend Hf Hg H2 Hl rows (d0 r) p' λx hx=>h x (aG _ hx)
  have fin:∀(e:List Nat) (X:List Nat),gB b r e->g p++aF b' seen r++e++X=f (p++aF b seen r++e)++X:=λe X k=>by rw[Hf r R seen p hp e k]
  rw[d4,d4,co,co,qq (Ik R),co,co,hend];generalize hX:bM b rows (d0 r)++[46]=X at ih |-;generalize hX':bM b' rows (d0 r)++[46]=X' at ih |-;have l13:∀q Y,lm f (13::Y) q=lm f Y (q++[13]):=λ_ _=>rfl
  have k:=R.hidC;have lh:∀q Y,lm f (r.hid::Y) q=lm f Y (q++[r.hid]):=λq Y=>by rw[Hw,cP k.1];rfl
  cases hs:b.s with
  |true=>
   have nx:=ih [] (iw.new (by rw[hs];rfl));rw[hg0,List.nil_append]at nx;have le:=gB.sent (r:=r) hs;have e0:fi b r=bif iv r && !b.ps then[13,10]++(bif b.p then[]else[r.hid])++[13,10]else[13,10]:=by unfold fi;rw[hs];rfl
   rw[e0];cases iv r && !b.ps with
   |false=>
    show lm f (13::10::X) (p++aF b seen r)=g p++(aF b' seen r++(13::10::X'));rw[l13,ni,nx,<-fin [13] _ le];simp
   |true=>
    have z2:∀z,z=[]\/z=[r.hid]->lm f (13::10::(z++13::10::X)) (p++aF b seen r)=g p++(aF b' seen r++(13::10::(z++13::10::X'))):=λz hz=>by
     have z10:10∉z:=by
      rcases hz with e|e
      ·rw[e];exact cj
      ·rw[e];exact λm=>k.1 (dS m).symm
     rw[l13,ni,qq z10,l13,ni,nx,List.nil_append,H2 r R z hz,<-fin [13] _ le];simp
    have:=z2 (bif b.p then[]else[r.hid]) (by cases b.p<;>first|exact .inl rfl|exact .inr rfl)
    simpa using this
  |false=>
   have e0:fi b r=bif b.p then av r.fin [r.hid] []else r.fin:=by unfold fi;rw[hs];rfl
   obtain⟨s1,s2,s3,s4⟩:=nj R;rw[e0]
   rcases R.fin with e|e|e|e
   ·have nx:=ih [] (iw.new (by rw[lU,e];exact cC _))
    rw[hg0,List.nil_append]at nx;rw[show(bif b.p then av r.fin [r.hid] []else r.fin)=[10]by rw[s1 e,e];cases b.p<;>rfl];show lm f (10::X) (p++aF b seen r)=g p++(aF b' seen r++(10::X'));have:=fin [] (10::X') (.feed hs e);rw[ni,nx]
    simpa using this.symm
   ·have nx:=ih (p++aF b seen r++[13]) ⟨λh=>by rw[hs,lU,e]at h;exact aa h,λ_=>⟨_,rfl⟩⟩
    rw[show(bif b.p then av r.fin [r.hid] []else r.fin)=[13]by rw[s2 e,e];cases b.p<;>rfl];show lm f (13::X) (p++aF b seen r)=g p++(aF b' seen r++(13::X'));rw[l13,nx,Hg r R seen p hp hs e];simp
   ·have nx:=ih [] (iw.new (by rw[lU,e];exact cC _))
    rw[hg0,List.nil_append]at nx;rw[show(bif b.p then av r.fin [r.hid] []else r.fin)=[13,10]by rw[s3 e,e];cases b.p<;>rfl];show lm f (13::10::X) (p++aF b seen r)=g p++(aF b' seen r++(13::10::X'));rw[l13,ni,nx,<-fin [13] _ (.both hs e)];simp
   ·have nx:=ih [] (iw.new (by rw[lU,e];exact cC _))
    rw[hg0,List.nil_append]at nx;cases hpb:b.p with
    |true=>
     show lm f (av r.fin [r.hid] []++X) (p++aF b seen r)=g p++(aF b' seen r++(av r.fin [r.hid] []++X'));rw[s4 e];show lm f (13::10::X) (p++aF b seen r)=g p++(aF b' seen r++(13::10::X'));rw[l13,ni,nx,<-fin [13] _ (.prep hs e hpb)];simp
    |false=>
     show lm f (r.fin++X) (p++aF b seen r)=g p++(aF b' seen r++(r.fin++X'));rw[e];show lm f (13::r.hid::10::X) (p++aF b seen r)=g p++(aF b' seen r++(13::r.hid::10::X'));have:=fin [13,r.hid] (10::X') (.hid hs e hpb);rw[l13,lh,ni,nx]
     simpa using this.symm
theorem da{c:Nat}{y:List Nat}(h1:c≠32)(h2:c≠9):∀x:List Nat,aE (x++c::y)=aE x++c::y
 |[]=>io h1 h2
 |d::x=>by
  cases h:t7 (d::x)with
  |true=>
   have h':t7 (d::(x++c::y))=true:=h;rw[jn h,List.cons_append,jn h'];exact da h1 h2 x
  |false=>
   have h':t7 (d::(x++c::y))=false:=h;rw[fX h,List.cons_append,fX h']
theorem nk:∀x:List Nat,aE (aE x)=aE x
 |[]=>rfl
 |d::x=>by
  cases h:t7 (d::x)with
  |true=>rw[jn h];exact nk x
  |false=>rw[fX h,fX h]
theorem Gc(G:dM b)(h:b.p=false):b.pl=false:=by
 cases k:b.pl with
 |false=>rfl
 |true=>have:=G.pl k;rw[h]at this;exact aa this
theorem v5(R:bv nm r)(G:dM b)(h:(b.s||seen)=true):aE (aT b seen r)=aT (bp 76 b) seen r:=by
 have e1:aE (aT b seen r)=aE (bL b seen r):=by
  unfold aT;cases bF b seen&&b.pl with
  |true=>exact nk _
  |false=>rfl
 have pt:bF (bp 76 b) seen=true:=by
  show(bif seen then true else b.s)=true;cases seen with
  |true=>rfl
  |false=>rwa [Bool.or_false]at h
 have e2:aT (bp 76 b) seen r=bif b.p then aE (ax r++r.folded)else bC r++r.body:=by
  have e3:bL (bp 76 b) seen r=bif b.p then ax r++r.folded else bC r++r.body:=by
   rw[bN];unfold jI;rw[pt];rfl
  unfold aT;rw[pt,e3];show(bif true&&b.p then _ else _)=_;cases b.p<;>rfl
 rw[e1,e2,bN,fk (im R)];cases b.p with
 |true=>rfl
 |false=>
  obtain⟨c,t,e,h1,h2⟩:=R.restBody;show aE (bC r++r.body)=bC r++r.body;rw[e,io h1 h2]
theorem B1(R:bv nm r)(G:dM b)(h:(b.s||seen)=true):aE (aF b seen r)=aF (bp 76 b) seen r:=by
 show aE (bif cy b seen r then[]else aT b seen r)=bif cy b seen r then[]else aT (bp 76 b) seen r;cases cy b seen r with
 |true=>rfl
 |false=>exact v5 R G h
theorem Gd(G:dM b)(h:b.s=false):b.sl=false:=by
 cases k:b.sl with
 |false=>rfl
 |true=>have:=G.sl k;rw[h]at this;exact aa this
theorem yx(G:dM b)(h:(b.s||seen)=false):aF (bp 76 b) seen r=aF b seen r:=by
 have hs:=(Bool.or_eq_false_iff.mp h).1;have hn:=(Bool.or_eq_false_iff.mp h).2;subst hn;have p1:bF b false=false:=Gd G hs;have p2:bF (bp 76 b) false=false:=hs;show(bif cy b false r then[]else aT (bp 76 b) false r)=bif cy b false r then[]else aT b false r;have:aT (bp 76 b) false r=aT b false r:=by
  unfold aT;rw[p1,p2];show bL (bp 76 b) false r=bL b false r;rw[bN,bN];unfold jI;rw[p1,p2];rfl
 rw[this]
theorem g9{q x:List Nat}:q++[13]++x=q++13::x:=by simp
theorem Ge(G:dM b){rows:List RowD}(h:∀r∈rows,bv nm r):lm aE (bM b rows true++[46]) []=bM (bp 76 b) rows true++[46]:=by
 have n13:(13:Nat)≠32/\(13:Nat)≠9:=nofun;refine kI (nm:=nm) (f:=aE) (g:=aE) (b:=b) (b':=bp 76 b) rfl (λ_=>rfl) (λr R seen p hp e le => ?_) (λr R seen p hp hs hf => ?_) (λr R z hz => ?_) (λseen p hp => ?_) rows true [] h (iw.new (cC _))
 ·cases k:(b.s||seen)with
  |true=>
   rw[hp.1 k,<-B1 R G k];show aE (aF b seen r++e)=aE (aF b seen r)++e;cases le with
   |feed=>rw[bY,bY]
   |_=>exact da n13.1 n13.2 _
  |false=>
   obtain⟨q,e1⟩:=hp.2 k;rw[e1,yx G k,co,g9,da n13.1 n13.2,da n13.1 n13.2];simp
 ·cases k:(b.s||seen)with
  |true=>
   rw[hp.1 k,<-B1 R G k];exact da n13.1 n13.2 _
  |false=>
   obtain⟨q,e1⟩:=hp.2 k;rw[e1,yx G k,co,g9,da n13.1 n13.2,da n13.1 n13.2];simp
 ·rcases hz with e|e
  ·rw[e];rfl
  ·rw[e];exact io R.hidC.2.2.1 R.hidC.2.2.2
 ·cases k:(b.s||seen)with
  |true=>rw[hp.1 k];rfl
  |false=>
   obtain⟨q,e1⟩:=hp.2 k;rw[e1,g9,da n13.1 n13.2,da n13.1 n13.2];simp
end
end
section
section
variable {nm:List Nat} {r:RowD} {b:Bits} {seen:Bool}
theorem jp(c g d:Bool):(bif c then g&&d else g)=(g&&(!c||d)):=by cases c<;>cases g<;>cases d<;>rfl
theorem lV:cy b seen r=(((((b.n&&Nat.blt r.kind 6)&&(!(Nat.blt 1 r.kind || !ab (bC r) [])||b.pn))&&(!(!ab (ax r) [])||b.pln))&&(!(!ab (bS r++ax r) [])||(bif seen then b.ln else b.sln)))&&(!(ab r.fin [13] || !seen)||b.sn)&&(!iv r||(b.pn||b.sn))):=by
 unfold cy vW BO BN BM;rw[jp,jp,jp,jp,jp]
theorem qs{c d e:Bool}(h:d=true->e=true)(k:(!c||d)=true):(!c||e)=true:=by
 revert h k;cases c<;>cases d<;>cases e<;>simp
theorem zz(G:dM b)(h:cy b seen r=true):cy (bp 78 b) seen r=true:=by
 rw[lV]at h |-;simp only[aK]at h |-;obtain⟨⟨⟨⟨⟨⟨h0,h1⟩,h2⟩,h3⟩,h4⟩,h5⟩,h6⟩:=h;refine⟨⟨⟨⟨⟨⟨rfl,h1⟩,qs G.pn h2⟩,qs G.pln h3⟩,qs (λk => ?_) h4⟩,qs G.sn h5⟩,qs (λk => ?_) h6⟩
 ·show(bif seen then b.l else b.sl)=true
  cases seen with
  |true=>exact G.ln k
  |false=>exact G.sln k
 ·show(b.p||b.s)=true
  rcases Bool.or_eq_true_iff.mp k with k|k
  ·rw[G.pn k];rfl
  ·rw[G.sn k];exact cC _
theorem jq(M:ub nm){l:List Nat}(h:∀c∈l,c=32\/c=9)(hn:l≠[]){y:List Nat}:fj nm (l++y)=false:=by
 cases l with
 |nil=>exact absurd rfl hn
 |cons c l=>
  have a:alien nm c=true:=by
   rcases h c (aO ..)with e|e
   ·rw[e];exact M.a32
   ·rw[e];exact M.a9
  exact fY (Nat.le_of_eq M.len) a (aO ..)
theorem xx{l:List Nat}:(!ab l []) = !l.isEmpty:=by cases l<;>rfl
theorem B2(k:Nat):(Nat.blt k 6 && !Nat.blt 1 k)=Nat.ble k 1:=by
 cases h:Nat.ble k 1 with
 |true=>
  have h:=iA h;have h1:Nat.blt k 6=true:=Nat.blt_eq.mpr ⋯;have h2:Nat.blt 1 k=false:=Bool.eq_false_iff.mpr λe=>by have:=Nat.blt_eq.mp e;omega
  rw[h1,h2];rfl
 |false=>
  have h:¬k<=1:=λe=>by rw[Nat.ble_eq_true_of_le e]at h;exact aa h.symm
  have h2:Nat.blt 1 k=true:=Nat.blt_eq.mpr ⋯;rw[h2];exact Bool.and_false _
theorem zA(M:ub nm)(R:bv nm r)(G:dM b)(h1:(b.s||seen)=true)(h2:r.fin=[13]->b.s=true)(h3:iv r=true->(b.p||b.s)=true):fj nm (aT b seen r)=cy (bp 78 b) seen r:=by
 have n3:nm.length<=3:=Nat.le_of_eq M.len;have c4:(!(ab r.fin [13] || !seen)||b.s)=true:=by
  cases hs:b.s with
  |true=>exact cC _
  |false=>
   rw[hs]at h1;rw[show seen=true from h1];cases k:ab r.fin [13]with
   |false=>rfl
   |true=>have:=h2 (an.mp k);rw[hs]at this;exact aa this
 have c5:(!iv r||(b.p||b.s))=true:=by
  cases k:iv r with
  |false=>rfl
  |true=>rw[h3 k];rfl
 rw[lV];show _=(((((true&&Nat.blt r.kind 6)&&(!(Nat.blt 1 r.kind || !ab (bC r) [])||b.p))&&(!(!ab (ax r) [])||b.pl))&&(!(!ab (bS r++ax r) [])||bF b seen))&&(!(ab r.fin [13] || !seen)||b.s)&&(!iv r||(b.p||b.s)));rw[c4,c5,Bool.and_true,Bool.and_true,Bool.true_and,xx,xx,xx];have hpre:=im (b:=b) (seen:=seen) R;cases hp:b.p with
 |false=>
  have hpl:=Gc G hp;have e:aT b seen r=jI b seen r++(bC r++r.body):=by
   unfold aT;rw[hpl,Bool.and_false,bN,hp];rfl
  rw[e]
  rcases R.rest with hr|⟨t,hr⟩
  ·have hb:ax r=[]:=by rw[R.blanks,hr];rfl
   rw[hr,hb,bY,List.nil_append];show _=((Nat.blt r.kind 6&&(!(Nat.blt 1 r.kind||false)||false))&&true&&(!(!(bS r).isEmpty)||bF b seen));rw[Bool.or_false,Bool.or_false,Bool.and_true,B2];unfold jI at hpre |-;cases hpt:bF b seen with
   |true=>rw[cC,Bool.and_true];exact R.nearB
   |false=>
    rw[hpt]at hpre;cases hl:bS r with
    |nil=>show fj nm r.body=_;rw[R.nearB];exact(Bool.and_true _).symm
    |cons c l=>
     rw[hl]at hpre;have hpre:∀x∈c::l,x=32\/x=9:=hpre
     show fj nm ((c::l)++r.body)=_;rw[jq M hpre (fZ _ _)];exact(Bool.and_false _).symm
  ·have m:r.hid∈jI b seen r++(bC r++r.body):=by rw[hr];simp
   rw[fY n3 R.hidA m,hr];show false=((Nat.blt r.kind 6&&(!(Nat.blt 1 r.kind||true)||false))&&_&&_);rw[cC];show false=((Nat.blt r.kind 6&&false)&&_&&_);rw[Bool.and_false];rfl
 |true=>
  rw[cC,Bool.and_true];have e0:bL b seen r=jI b seen r++(ax r++r.folded):=by rw[bN,hp];rfl
  unfold aT;rw[e0];unfold jI;cases hpt:bF b seen with
  |true=>
   rw[cC,Bool.and_true];cases hpl:b.pl with
   |true=>
    show fj nm (aE (ax r++r.folded))=_;rw[fk R.blanksIn,R.nearS,cC,Bool.and_true]
   |false=>
    show fj nm (ax r++r.folded)=_;cases hb:ax r with
    |nil=>show fj nm r.folded=_;rw[R.nearF];exact(Bool.and_true _).symm
    |cons c l=>
     have k:=R.blanksIn;rw[hb]at k;rw[jq M k (fZ _ _)];exact(Bool.and_false _).symm
  |false=>
   show fj nm (bS r++(ax r++r.folded))=_;rw[<-co];cases hb:bS r++ax r with
   |nil=>
    have hb2:=(List.append_eq_nil_iff.mp hb).2;rw[hb2];show fj nm r.folded=_;rw[R.nearF];simp
   |cons c l=>
    have k:∀x∈bS r++ax r,x=32\/x=9:=λx m=>(eJ m).elim (R.lead x) (R.blanksIn x)
    rw[hb]at k;rw[jq M k (fZ _ _)];exact(Bool.and_false _).symm
theorem lW(x:List Nat):bare (x++[13])=x:=by
 unfold bare;have e:(x++[13]).length-1=x.length:=by simp
 rw[e,List.drop_left,List.take_left];rfl
theorem v6{x:List Nat}{c:Nat}(h:c≠13):bare (x++[c])=x++[c]:=by
 unfold bare;have e:(x++[c]).length-1=x.length:=by simp
 rw[e,List.drop_left,lH,cP h];rfl
theorem xy:∀{x:List Nat},(∀c∈x,c≠10/\c≠13)->bare x=x:=λ{x} h=>by
 rcases List.eq_nil_or_concat x with e|⟨l,c,e⟩
 ·rw[e];rfl
 ·rw[e,List.concat_eq_append]
  exact v6 (h c (by rw[e];simp)).2
theorem gC(nm p:List Nat):dZ nm p=bif fj nm (bare p)then p.drop (bare p).length else p:=rfl
theorem qt(M:ub nm){q x:List Nat}(h:x≠[]):dZ nm (q++13::x)=q++13::x:=by
 have m:13∈bare (q++13::x):=by
  rcases List.eq_nil_or_concat x with e|⟨l,c,e⟩
  ·exact absurd e h
  ·rw[e,List.concat_eq_append,show q++13::(l++[c])=(q++13::l)++[c]by simp]
   by_cases hc:c=13
   ·rw[hc,lW];simp
   ·rw[v6 hc];simp
 rw[gC,fY (Nat.le_of_eq M.len) M.a13 m];rfl
theorem uc(M:ub nm)(R:bv nm r)(G:dM b)(h1:(b.s||seen)=true)(h2:r.fin=[13]->b.s=true)(h3:iv r=true->(b.p||b.s)=true):(bif fj nm (aF b seen r)then[]else aF b seen r)=aF (bp 78 b) seen r:=by
 show _=bif cy (bp 78 b) seen r then[]else aT b seen r;unfold aF;cases hg:cy b seen r with
 |true=>rw[zz G hg];show(bif fj nm []then[]else[]:List Nat)=[];cases fj nm []<;>rfl
 |false=>rw[<-zA M R G h1 h2 h3];rfl
theorem yy(G:dM b)(G':dM (bp 78 b))(h:b.s=false/\(seen=false\/r.fin=[13])):aF (bp 78 b) seen r=aF b seen r:=by
 show(bif cy (bp 78 b) seen r then[]else aT b seen r)=bif cy b seen r then[]else aT b seen r;rw[qr G h.1 h.2,qr G' h.1 h.2]
theorem D6(G:dM b)(h:iv r=true)(hp:b.p=false)(hs:b.s=false):aF (bp 78 b) seen r=aF b seen r:=by
 have pn:b.pn=false:=by
  cases k:b.pn with
  |false=>rfl
  |true=>have:=G.pn k;rw[hp]at this;exact aa this
 have sn:b.sn=false:=by
  cases k:b.sn with
  |false=>rfl
  |true=>have:=G.sn k;rw[hs]at this;exact aa this
 have g1:cy b seen r=false:=by rw[lV,h,pn,sn];exact Bool.and_false _
 have g2:cy (bp 78 b) seen r=false:=by
  rw[lV];show(_&&(!iv r||(b.p||b.s)))=false;rw[h,hp,hs];exact Bool.and_false _
 show(bif cy (bp 78 b) seen r then[]else aT b seen r)=bif cy b seen r then[]else aT b seen r;rw[g1,g2]
theorem Gf(M:ub nm)(G:dM b)(G':dM (bp 78 b)){rows:List RowD}(h:∀r∈rows,bv nm r):lm (dZ nm) (bM b rows true++[46]) []=bM (bp 78 b) rows true++[46]:=by
 have n3:nm.length<=3:=Nat.le_of_eq M.len;refine kI (nm:=nm) (f:=dZ nm) (g:=id) (b:=b) (b':=bp 78 b) rfl (λ_=>rfl) (λr R seen p hp e le => ?_) (λr R seen p hp hs hf => ?_) (λr R z hz => ?_) (λseen p hp => ?_) rows true [] h (iw.new (cC _))
 ·have cc:=kH (b:=b) (seen:=seen) R
  cases k:(b.s||seen)with
  |true=>
   rw[hp.1 k];show dZ nm (aF b seen r++e)=aF (bp 78 b) seen r++e;have n13:(13:Nat)≠10:=nofun;have k13:=R.hidC;cases le with
   |sent hs=>
    rw[<-uc M R G k (λ_=>hs) (λ_=>by rw[hs];exact cC _),gC,lW];cases fj nm (aF b seen r)with
    |true=>exact List.drop_left
    |false=>rfl
   |feed hs e=>
    rw[<-uc M R G k (λh=>by rw[e]at h;exact absurd (List.cons.inj h).1 nofun) (λh=>by rw[lS R (.inl e)]at h;exact aa h),bY,bY,gC,xy cc];cases fj nm (aF b seen r)with
    |true=>exact List.drop_length
    |false=>rfl
   |both hs e=>
    rw[<-uc M R G k (λh=>by rw[e]at h;exact absurd (List.cons.inj h).2 (fZ _ _)) (λh=>by rw[lS R (.inr (.inr e))]at h;exact aa h),gC,lW];cases fj nm (aF b seen r)with
    |true=>exact List.drop_left
    |false=>rfl
   |prep hs e hb=>
    rw[<-uc M R G k (λh=>by rw[e]at h;exact absurd (List.cons.inj h).2 (fZ _ _)) (λ_=>by rw[hb];rfl),gC,lW];cases fj nm (aF b seen r)with
    |true=>exact List.drop_left
    |false=>rfl
   |hid hs e hb=>
    rw[D6 G (BZ e) hb hs];exact qt M (fZ _ _)
  |false=>
   obtain⟨q,e1⟩:=hp.2 k;have hs:=(Bool.or_eq_false_iff.mp k).1;have hn:=(Bool.or_eq_false_iff.mp k).2;rw[yy G G' ⟨hs, .inl hn⟩,e1,co,g9];rw[qt M (λh=>yw G R hs (.inl hn) (List.append_eq_nil_iff.mp h).1)];simp
 ·rw[yy G G' ⟨hs, .inr hf⟩];rfl
 ·rw[gC,lW]
  have:fj nm z=false:=by
   rcases hz with e|e
   ·rw[e];exact zw n3 (by rw[M.len];decide)
   ·rw[e];exact fY n3 R.hidA (List.mem_singleton.mpr rfl)
  rw[this];rfl
 ·cases k:(b.s||seen)with
  |true=>
   rw[hp.1 k];show dZ nm [46]=[46];rw[gC,show bare [46]=[46]from rfl,fY n3 M.a46 (List.mem_singleton.mpr rfl)];rfl
  |false=>
   obtain⟨q,e1⟩:=hp.2 k;rw[e1,g9,qt M (fZ _ _)];exact g9.symm
end
end
section
open PySem PySem.W PySem.Challenge
structure gk(r:RowD):Prop where
 front:r.front.length<=3
 body:r.body.length<=4
 folded:r.folded.length<=5
 fin:r.fin.length<=3
 hidF:(dY rowsL r.hid).length<=4
 bodyF:∀c∈r.body,(dY rowsL c).length<=4
theorem gk.small{r:RowD}(T:gk r):qm r:=⟨ah T.front nofun,ah T.body nofun,ah T.folded nofun,ah T.fin nofun⟩
section
variable {nm:List Nat} {r:RowD} {b:Bits} {seen:Bool}
theorem B3(T:gk r)(R:bv nm r):(aF b seen r).length<=8:=by
 have h0:(bL b seen r).length<=8:=by
  have e:r.front.length=(bS r).length+(bC r).length:=by rw[<-bk,<-R.split]
  have l3:(ax r).length<=(bC r).length:=by rw[R.blanks];exact List.length_filter_le _ _
  have t1:=T.front;have t2:=T.body;have t3:=T.folded;have a1:(jI b seen r).length<=(bS r).length:=by
   unfold jI;cases bF b seen with
   |true=>exact bw _
   |false=>exact aq _
  rw[bN,bk];cases b.p with
  |true=>show _+(ax r++r.folded).length<=8;rw[bk];omega
  |false=>show _+(bC r++r.body).length<=8;rw[bk];omega
 unfold aF;cases cy b seen r with
 |true=>exact bw _
 |false=>
  show(aT b seen r).length<=8;unfold aT;cases bF b seen&&b.pl with
  |true=>exact ah (sC _) h0
  |false=>exact h0
theorem D7(T:gk r):(fi b r).length<=5:=by
 have t4:=T.fin;have f:(av r.fin [r.hid] []).length<=r.fin.length:=by rw[cZ];exact List.length_filter_le _ _
 unfold fi;cases !b.s with
 |true=>cases b.p<;>(simp only[cond_true,cond_false];omega)
 |false=>cases iv r && !b.ps with
  |true=>cases b.p with
   |true=>exact(by decide:4<=5)
   |false=>exact(by decide:5<=5)
  |false=>exact(by decide:2<=5)
theorem qu:∀(rows:List RowD) (seen:Bool),(∀r∈rows,bv nm r)->(∀r∈rows,gk r)->(bM b rows seen).length<=13*rows.length
 |[],_,_,_=>bw _
 |r::rows,seen,h,k=>by
  have ih:=qu rows (d0 r) (λx hx=>h x (aG _ hx)) λx hx=>k x (aG _ hx)
  have c1:=B3 (b:=b) (seen:=seen) (k r (aO ..)) (h r (aO ..));have c2:=D7 (b:=b) (k r (aO ..));rw[d4,bk,bk,aP]
  omega
theorem eA{c:Nat}(h:prepC c=[c]):(dY rowsL c).length<=4:=by
 unfold prepC at h;cases k:pM jd (c:Int)with
 |true=>rw[k]at h;exact absurd h.symm (fZ _ _)
 |false=>
  rw[k]at h;have h:dY rowsL c=[c]:=h;rw[h];exact(by decide:1<=4)
theorem sG(P:Plain5):∀(rows:List RowD) (seen:Bool),(∀r∈rows,bv nm r)->(∀r∈rows,gk r)->∀c∈bM b rows seen,(dY rowsL c).length<=4
 |[],_,_,_,c,m=>absurd m cj
 |r::rows,seen,h,k,c,m=>by
  have R:=h r (aO ..);have T:=k r (aO ..);rw[d4]at m;have bl:∀{l:List Nat},(∀c∈l,c=32\/c=9)->c∈l->(dY rowsL c).length<=4:=λh m=>eA (P.blank h c m)
  have nl:c=10\/c=13\/c=r.hid->(dY rowsL c).length<=4:=λe=>by
   rcases e with e|e|e
   ·rw[e];exact eA P.c10
   ·rw[e];exact eA P.c13
   ·rw[e];exact T.hidF
  rcases eJ m with m|m
  ·rcases eJ m with m|m
   ·unfold aF at m
    cases hg:cy b seen r with
    |true=>rw[hg]at m;exact absurd m cj
    |false=>
     rw[hg]at m;have m:=mE m;rw[bN]at m
     rcases eJ m with m|m
     ·exact bl (im R) m
     ·cases hp:b.p with
      |true=>
       rw[hp]at m
       rcases eJ m with m|m
       ·exact bl R.blanksIn m
       ·exact eA (R.folded c m).1
      |false=>
       rw[hp]at m
       rcases eJ m with m|m
       ·rcases R.restIn c m with e|e|e
        ·rw[e];exact eA P.c32
        ·rw[e];exact eA P.c9
        ·exact nl (.inr (.inr e))
       ·exact T.bodyF c m
   ·refine nl ?_
    have fin:c∈r.fin->c=10\/c=13\/c=r.hid:=λm=>by
     rcases R.fin with e|e|e|e<;>(rw[e]at m;simp only[List.mem_cons,cj,or_false]at m;omega)
    have two:c∈([13,10]:List Nat)->c=10\/c=13\/c=r.hid:=λm=>by
     simp only[List.mem_cons,cj,or_false]at m;omega
    unfold fi at m;cases hs : !b.s with
    |true=>
     rw[hs]at m;cases hp:b.p with
     |true=>rw[hp]at m;have m:c∈av r.fin [r.hid] []:=m;rw[cZ]at m;exact fin (List.mem_filter.mp m).1
     |false=>rw[hp]at m;exact fin m
    |false=>
     rw[hs]at m;cases he:iv r && !b.ps with
     |false=>rw[he]at m;exact two m
     |true=>
      rw[he]at m
      rcases eJ m with m|m
      ·rcases eJ m with m|m
       ·exact two m
       ·cases hp:b.p with
        |true=>rw[hp]at m;exact absurd m cj
        |false=>rw[hp]at m;exact .inr (.inr (dS m))
      ·exact two m
  ·exact sG P rows (d0 r) (λx hx=>h x (aG _ hx)) (λx hx=>k x (aG _ hx)) c m
theorem B4(n p:List Nat):(dZ n p).length<=p.length:=by
 rw[gC];cases fj n (bare p)with
 |true=>show(p.drop _).length<=_;rw[dj];omega
 |false=>exact aq _
theorem v7(n:List Nat):∀L:List (List Nat),((L.map (dZ n)).map List.length).sum<=(L.map List.length).sum
 |[]=>aq _
 |x::L=>by
  have:=v7 n L;have:=B4 n x;rw[aC,aC,aC,List.sum_cons,List.sum_cons];omega
noncomputable def cz(rows:List RowD)(run:List Nat):List Nat:=bM (cQ run) rows true++[46]
theorem zB(P:Plain5)(M:ub nm){rows:List RowD}(h:∀r∈rows,bv nm r)(k:∀r∈rows,gk r)(hl:rows.length<=6)(run:List Nat){d:Nat}(hd:d=80\/d=83\/d=76\/d=78):
 fDone [.str [d], .str (cz rows run), .str nm]=(true, .str (cz rows (run++[d]))):=by
 have L:(cz rows run).length<=100:=by
  have:=qu (b:=cQ run) rows true h k;unfold cz;rw[bk,fu];omega
 have G:=sw run;have e:cz rows (run++[d])=bM (bp d (cQ run)) rows true++[46]:=by unfold cz;rw[sy run hd]
 have G':dM (bp d (cQ run)):=by rw[<-sy run hd];exact sw _
 obtain⟨n1,n2⟩:=mA (cz rows run) 10;have q:∀p∈aQ (cz rows run) [10],p.length<=400:=λp hp=>by have:=il hp;omega
 have n3:nm.length<=500:=by rw[M.len];decide
 rw[e]
 rcases hd with rfl|rfl|rfl|rfl
 ·rw[FO L λc m => ?_,show(cz rows run).flatMap prepC=_ from BY P G rows true h]
  rcases eJ m with m|m
  ·exact sG P rows true h k c m
  ·rw[dS m];exact eA P.c46
 ·rw[FS L,show aB false (cz rows run)=_ from B0 G rows true false h λe=>aa e]
 ·rw[FQ L ⋯ ⋯ q,EA,show lm aE (cz rows run) []=_ from Ge G h]
 ·have s:=v7 nm (aQ (cz rows run) [10])
  rw[FU L n3 ⋯ q ⋯,EA,show lm (dZ nm) (cz rows run) []=_ from Gf M G G' h]
end
end
section
open PySem PySem.W PySem.Challenge
theorem B5:(rowsL.all λe=>decide (122<e.1))=true:=∅
theorem D8:(jd.all λe=>match e.2 with| .int i _=>decide (122<i)|_=>true)=true:=∅
theorem qv:∀(L:List (Int×Str)) (c:Nat),(L.all λe=>decide (122<e.1))=true->c<=122->L.lookup (c:Int)=none
 |[],_,_,_=>rfl
 |(i,s)::L,c,h,hc=>by
  rw[List.all_cons,aK]at h;have h1:=aY h.1;have:((c:Int)==i)=false:=by simp;omega
  rw[List.lookup_cons,this];exact qv L c h.2 hc
theorem B6{c:Nat}(h:c<=122):dY rowsL c=cu [c]:=by
 unfold dY;rw[qv _ _ B5 h]
theorem D9{c:Nat}(h:c<=122):pM jd (c:Int)=false:=by
 unfold pM;rw[List.any_eq_false];intro e m k;have:=cq D8 e m;obtain⟨a,v⟩:=e
 induction v using Value.casesOn with
 |int i t=>
  have h1:=aY this;have h2:(i==(c:Int))=true:=k;have:=eq_of_beq h2
  omega
 |_=>exact aa k
theorem B7{c:Nat}(h:c<=122):prepC c=cu [c]:=by
 unfold prepC;rw[D9 h,B6 h];rfl
noncomputable def lettersL:List Nat:=[116,101,108,104,112,97,109,107,122,103,102,105]
noncomputable def B8:List (Nat×List Nat):=besideL.map (λc=>(c,[c]))++[(890,[32,953]),(8481,[116,101,108]),(13169,[104,112,97]),(13273,[112,112,109]),(13201,[107,104,122]),(13203,[103,104,122]),(64259,[102,102,105])]++lettersL.flatMap λc=>(List.range 10).map λu=>(cX u c,[c])
theorem B9:(B8.all λe=>ab (prepC e.1) e.2)=true:=∅
noncomputable def HJ:List (Nat×List Nat)->Nat->List Nat
 |[],c=>prepC c
 |e::l,c=>bif Nat.beq e.1 c then e.2 else HJ l c
noncomputable def nn(c:Nat):List Nat:=bif Nat.blt c 123 then cu [c]else HJ B8 c
theorem Ca:∀(l:List (Nat×List Nat)) (c:Nat),(∀e∈l,prepC e.1=e.2)->HJ l c=prepC c
 |[],_,_=>rfl
 |e::l,c,h=>by
  show(bif Nat.beq e.1 c then e.2 else HJ l c)=_;cases k:Nat.beq e.1 c with
  |true=>rw[<-eH k];exact(h e (aO ..)).symm
  |false=>exact Ca l c λx hx=>h x (aG _ hx)
theorem mF(c:Nat):prepC c=nn c:=by
 unfold nn;cases h:Nat.blt c 123 with
 |false=>exact(Ca _ c λe m=>an.mp (cq B9 e m)).symm
 |true=>exact B7 (by have:=Nat.blt_eq.mp h;omega)
theorem v8:((tableL++[32,9,13,46]++lettersL++lettersL.flatMap λc=>(List.range 10).map λu=>cX u c).all λc=>ab (cu [c]) [c])=true:=∅
theorem xz{nm:List Nat}{c:Nat}(h:cu [c]=[c])(hn:∀d∈nm,cu [d]=[d])(m:c∉nm):alien nm c=true:=List.all_eq_true.mpr λd hd=>ai (by
 have ne:c≠d:=λe=>m (e▸hd)
 unfold de;rw[h,hn d hd,lH,cP ne];rfl)
noncomputable def Cb(nm body:List Nat)(k:Nat):Bool:=
 (match body with|c::_ => !Nat.beq c 32 && !Nat.beq c 9|[]=>false)&&body.all (λc => !Nat.beq c 10 && !Nat.beq c 13&&Nat.ble (nn c).length 4 && !(nn c).isEmpty)&&Nat.ble body.length 4
noncomputable def Cc(nm body folded:List Nat)(k:Nat):Bool:=
 ab (body.flatMap nn) folded&&folded.all (λc=>ab (nn c) [c] && !Nat.beq c 10 && !Nat.beq c 13) && !(aE folded).isEmpty&&Nat.ble folded.length 5
noncomputable def Cd(nm body folded:List Nat)(k:Nat):Bool:=
 (Nat.beq k 5||fj nm body==Nat.ble k 1)&&(fj nm folded==Nat.blt k 6)&&(fj nm (aE folded)==Nat.blt k 6)
noncomputable def xA(nm body:List Nat)(k:Nat):List Nat:=bif Nat.blt k 6 then nm else av body [890] [32,953]
noncomputable def jV(nm body:List Nat)(k:Nat):Bool:=Cb nm body k&&Cc nm body (xA nm body k) k&&Cd nm body (xA nm body k) k
noncomputable def v9(n0 n1 n2 g0 g1 g2:Nat)(one:List Nat)(k i u o bs:Nat):List Nat:=
 (lR i n0 n1 n2 g0 g1 g2 (cX u ([n0,n1,n2].getD i 0)) one ((vY n0 n1 n2 bs).getD o [])).getD k []
noncomputable def xB(n0 n1 n2 g0 g1 g2:Nat)(one:List Nat):Bool:=
 ([0,1,2,3,4,6].all λk=>[0,1,2].all λi=>jV [n0,n1,n2] (v9 n0 n1 n2 g0 g1 g2 one k i 0 0 0) k) &&
 ([0,1,2].all λi=>(List.range 10).all λu=>jV [n0,n1,n2] (v9 n0 n1 n2 g0 g1 g2 one 5 i u 0 0) 5) &&
 ([0,1,3].all λo=>jV [n0,n1,n2] (v9 n0 n1 n2 g0 g1 g2 one 7 0 0 o 0) 7)&&(besideL.all λbs=>jV [n0,n1,n2] (v9 n0 n1 n2 g0 g1 g2 one 7 0 0 2 bs) 7) &&
 (ab (j0 [n0,n1,n2]) [g0,g1,g2]&&[n0,n1,n2].all λc=>lettersL.any (Nat.beq c))
structure Name3 where
 (n0 n1 n2 g0 g1 g2:Nat) (one:List Nat)
noncomputable def fm:List Name3:=[⟨116,101,108,84,69,76,[8481]⟩,⟨104,112,97,72,80,65,[13169]⟩,⟨112,112,109,80,80,77,[13273]⟩,⟨107,104,122,75,72,90,[13201]⟩,⟨103,104,122,71,72,90,[13203]⟩,⟨102,102,105,70,70,73,[64259]⟩]
noncomputable def zC(m:Name3):Bool:=xB m.n0 m.n1 m.n2 m.g0 m.g1 m.g2 m.one
noncomputable def nq(f:List Nat)(h:Nat):List Nat:=(aQ f [h]).getD 0 []
noncomputable def ud(f:List Nat)(h:Nat):Bool:=
 ab f (nq f h++f.drop (nq f h).length)&&(nq f h).all (λc=>Nat.beq c 32||Nat.beq c 9)&&(match f.drop (nq f h).length with|c::_=>Nat.beq c h|[]=>true)&&(f.drop (nq f h).length).all (λc=>Nat.beq c 32||Nat.beq c 9||Nat.beq c h)&&Nat.ble f.length 3
noncomputable def Ce(h:Nat):Bool:=ab (prepC h) [] && !Nat.beq h 10 && !Nat.beq h 13 && !Nat.beq h 32 && !Nat.beq h 9&&Nat.ble (dY rowsL h).length 4
theorem Ea:(tableL.all λh=>Ce h&&[0,1,2].all λa=>[0,1,2].all λb=>[0,1,2].all λc=>ud (vX 32 a h++vX 32 b h++vX 9 c h) h)=true:=∅
theorem Eb:([32,9,10,13,46].all λc=>ab (prepC c) [c])=true:=∅
theorem Cf:zC (fm.getD 0 ⟨0,0,0,0,0,0,[]⟩)=true:=∅
theorem Cg:zC (fm.getD 1 ⟨0,0,0,0,0,0,[]⟩)=true:=∅
theorem Ch:zC (fm.getD 2 ⟨0,0,0,0,0,0,[]⟩)=true:=∅
theorem Ci:zC (fm.getD 3 ⟨0,0,0,0,0,0,[]⟩)=true:=∅
theorem Cj:zC (fm.getD 4 ⟨0,0,0,0,0,0,[]⟩)=true:=∅
theorem Ck:zC (fm.getD 5 ⟨0,0,0,0,0,0,[]⟩)=true:=∅
theorem Cl{k:Nat}(h:k<6):zC (fm.getD k ⟨0,0,0,0,0,0,[]⟩)=true:=by
 rcases(by omega:k=0\/k=1\/k=2\/k=3\/k=4\/k=5)with rfl|rfl|rfl|rfl|rfl|rfl
 ·exact Cf
 ·exact Cg
 ·exact Ch
 ·exact Ci
 ·exact Cj
 ·exact Ck
theorem Gg:Plain5:=by
 have h:∀c∈[32,9,10,13,46],prepC c=[c]:=λc m=>an.mp (cq Eb c m)
 exact⟨h _ nofun,h _ nofun,h _ nofun,h _ nofun,h _ nofun⟩
noncomputable abbrev dN(m:Name3):List Nat:=[m.n0,m.n1,m.n2]
noncomputable abbrev eB(m:Name3)(x:Nat):RowD:=Hr x m.n0 m.n1 m.n2 m.g0 m.g1 m.g2 m.one
noncomputable abbrev qw(m:Name3)(k i u o bs:Nat):List Nat:=v9 m.n0 m.n1 m.n2 m.g0 m.g1 m.g2 m.one k i u o bs
section
variable {m:Name3}
theorem wa{c:Nat}(h:c∈lettersL):cu [c]=[c]:=an.mp (cq v8 c (List.mem_append_left _ (List.mem_append_right _ h)))
theorem wb{nm:List Nat}{c:Nat}(hn:∀d∈nm,d∈lettersL)(h:c∈tableL++[32,9,13,46]\/c∈lettersL.flatMap λc=>(List.range 10).map λu=>cX u c)(k:c∉lettersL):alien nm c=true:=
 xz (an.mp (cq v8 c (h.elim (λh=>List.mem_append_left _ (List.mem_append_left _ h)) λh=>List.mem_append_right _ h))) (λd hd=>wa (hn d hd)) λm=>k (hn c m)
theorem Cm(h:zC m=true):ub (dN m)/\(∀c∈tableL,alien (dN m) c=true)/\j0 (dN m)=[m.g0,m.g1,m.g2]/\∀c∈dN m,c∈lettersL:=by
 unfold zC xB at h;simp only[aK]at h;obtain⟨_,h6,h7⟩:=h;have hn:∀c∈dN m,c∈lettersL:=λc hc=>by
  obtain⟨d,hd,e⟩:=List.any_eq_true.mp (cq h7 c hc);rw[eH e];exact hd
 have off:∀c∈tableL++[32,9,13,46],c∉lettersL:=nofun
 have al:∀c∈tableL++[32,9,13,46],alien (dN m) c=true:=λc hc=>wb hn (.inl hc) (off c hc)
 exact⟨⟨rfl,al 32 nofun,al 9 nofun,al 13 nofun,al 46 nofun⟩,λc hc=>al c (List.mem_append_left _ hc),an.mp h6,hn⟩
theorem qJ(hn:∀c∈dN m,c∈lettersL){i u:Nat}(hi:i<3)(hu:u<10):alien (dN m) (cX u ((dN m).getD i 0))=true:=
 wb hn (.inr (List.mem_flatMap.mpr ⟨_,hn _ (dL 0 (show i<(dN m).length from hi)),List.mem_map.mpr ⟨u,List.mem_range.mpr hu,rfl⟩⟩)) λh=>by
  have:∀c∈lettersL,c<1000:=nofun
  have:=this _ h;have:=this;have h2:∀c∈lettersL,97<=c:=nofun
  have:=h2 _ (hn _ (dL 0 (show i<(dN m).length from hi)));unfold cX at *;omega
theorem Ec(h:zC m=true){k i u o bs:Nat}(hk:k<8)(hi:i<3)(hu:u<10)(ho:o<4)(hb:bs∈besideL):jV (dN m) (qw m k i u o bs) k=true:=by
 unfold zC xB at h;simp only[aK]at h;obtain⟨⟨⟨⟨h1,h2⟩,h3⟩,h4⟩,_⟩:=h;have i3:i∈[0,1,2]:=by rcases(by omega:i=0\/i=1\/i=2)with rfl|rfl|rfl<;>decide
 have a1:∀k∈[0,1,2,3,4,6],jV (dN m) (qw m k i 0 0 0) k=true:=λk hk=>cq (cq h1 k hk) i i3
 have a2:jV (dN m) (qw m 5 i u 0 0) 5=true:=cq (cq h2 i i3) u (List.mem_range.mpr hu);have a3:∀o∈[0,1,3],jV (dN m) (qw m 7 0 0 o 0) 7=true:=λo ho=>cq h3 o ho
 have a4:jV (dN m) (qw m 7 0 0 2 bs) 7=true:=cq h4 bs hb
 rcases(by omega:k=0\/k=1\/k=2\/k=3\/k=4\/k=5\/k=6\/k=7)with rfl|rfl|rfl|rfl|rfl|rfl|rfl|rfl
 ·exact a1 0 nofun
 ·exact a1 1 nofun
 ·exact a1 2 nofun
 ·exact a1 3 nofun
 ·exact a1 4 nofun
 ·exact a2
 ·exact a1 6 nofun
 ·rcases(by omega:o=0\/o=1\/o=2\/o=3)with rfl|rfl|rfl|rfl
  ·exact a3 0 nofun
  ·exact a3 1 nofun
  ·exact a4
  ·exact a3 3 nofun
theorem Gh{h:Nat}(hm:h∈tableL):Ce h=true/\∀a b c,a<3->b<3->c<3->ud (vX 32 a h++vX 32 b h++vX 9 c h) h=true:=by
 have k:=cq Ea h hm;have k:=bc k;have i3:∀i,i<3->i∈[0,1,2]:=λi hi=>by rcases(by omega:i=0\/i=1\/i=2)with rfl|rfl|rfl<;>decide
 exact⟨k.1,λa b c ha hb hc=>cq (cq (cq k.2 a (i3 a ha)) b (i3 b hb)) c (i3 c hc)⟩
theorem nb{a b:Nat}(h:(!Nat.beq a b)=true):a≠b:=λe=>by
 rw[e,Nat.beq_refl]at h;exact aa h
theorem IA{a b c:Nat}(h:(Nat.beq c a||Nat.beq c b)=true):c=a\/c=b:=(Bool.or_eq_true_iff.mp h).imp eH eH
theorem Gi(h:zC m=true)(x:Nat):bv (dN m) (eB m x)/\gk (eB m x):=by
 have hm:cm x∈tableL:=dL 0 (by show x/10368%27<27;omega);have bm:besideL.getD (x/10368%16) 0∈besideL:=dL 0 (by show x/10368%16<16;omega);have N:=Cm h;have B:=Ec h (k:=x/27%8) (i:=x/864%3) (u:=x/279936%10) (o:=x/2592%4) ⋯ ⋯ ⋯ ⋯ bm;obtain⟨H,F⟩:=Gh hm;have F:=F (x%3) (x/3%3) (x/9%3) ⋯ ⋯ ⋯;have hs:(eB m x).kind=5->fj (dN m) (eB m x).body=false:=λe=>fY (aq 3) (qJ N.2.2.2 (i:=x/864%3) (u:=x/279936%10) ⋯ ⋯) (by
  have e:x/27%8=5:=e;show _∈qw m (x/27%8) _ _ _ _;rw[e];show _∈(dN m).take (x/864%3)++[_]++(dN m).drop (x/864%3+1);simp)
 have hb:(eB m x).body=qw m (x/27%8) (x/864%3) (x/279936%10) (x/2592%4) (besideL.getD (x/10368%16) 0):=rfl;have hf:(eB m x).folded=xA (dN m) (eB m x).body (eB m x).kind:=rfl;have hk:(eB m x).kind=x/27%8:=rfl;have hfr:(eB m x).front=vX 32 (x%3) (eB m x).hid++vX 32 (x/3%3) (eB m x).hid++vX 9 (x/9%3) (eB m x).hid:=rfl;have hfin:(eB m x).fin=(sF (eB m x).hid).getD (x/216%4) []:=rfl;have hl:bS (eB m x)=nq (eB m x).front (eB m x).hid:=rfl;have hr:bC (eB m x)=(eB m x).front.drop (nq (eB m x).front (eB m x).hid).length:=rfl;have hh:(eB m x).hid=cm x:=rfl;rw[<-hh]at hm H F;rw[<-hb,<-hk]at B;rw[<-hfr]at F
 generalize eB m x=r at *;obtain⟨front,body,folded,kind,fin,hid⟩:=r;dsimp only at *;subst hf;unfold jV Cb Cc Cd at B;unfold ud at F;unfold Ce at H;simp only[aK]at B F H;obtain⟨⟨⟨⟨b1,b2⟩,b3⟩,⟨⟨c1,c2⟩,c3⟩,c4⟩,⟨d1,d2⟩,d3⟩:=B;obtain⟨⟨⟨⟨f1,f2⟩,f3⟩,f4⟩,f5⟩:=F;obtain⟨⟨⟨⟨⟨e1,e2⟩,e3⟩,e4⟩,e5⟩,e6⟩:=H;have b2:=cq b2;have c2:=cq c2;have pf:∀l:List Nat,l.flatMap nn=l.flatMap prepC:=λl=>by
  rw[show nn=prepC from funext λc=>(mF c).symm]
 refine⟨⟨?_, ?_, ?_, ?_,an.mp e1,⟨nb e2,nb e3,nb e4,nb e5⟩,N.2.1 _ hm, ?_,λc hc => ?_, ?_,λc hc => ?_, ?_, ?_,eq_of_beq d2,eq_of_beq d3, ?_⟩,⟨iA f5,iA b3,iA c4, ?_,iA e6,λc hc => ?_⟩⟩
 ·rw[hl,hr];exact an.mp f1
 ·rw[hl];exact λc hc=>IA (cq f2 c hc)
 ·rw[hr]
  dsimp only;generalize front.drop (nq front hid).length=l at f3;cases l with
  |nil=>exact .inl rfl
  |cons c l=>exact .inr ⟨l,by rw[show c=hid from eH f3]⟩
 ·rw[hr]
  intro c hc;have:=cq f4 c hc
  rcases Bool.or_eq_true_iff.mp this with k|k
  ·rcases IA k with k|k
   ·exact .inl k
   ·exact .inr (.inl k)
  ·exact .inr (.inr (eH k))
 ·cases body with
  |nil=>exact aa b1
  |cons c t=>
   have b1:=bc b1;exact⟨c,t,rfl,nb b1.1,nb b1.2⟩
 ·have:=b2 c hc
  simp only[aK]at this;exact⟨nb this.1.1.1,nb this.1.1.2⟩
 ·rw[<-pf];exact an.mp c1
 ·have:=c2 c hc
  simp only[aK]at this;exact⟨by rw[mF];exact an.mp this.1.1,nb this.1.2,nb this.2⟩
 ·intro e
  dsimp only at e;rw[e]at c3;exact aa c3
 ·rcases Bool.or_eq_true_iff.mp d1 with k|k
  ·have k:=eH k
   rw[hs k,k];rfl
  ·exact eq_of_beq k
 ·rw[hfin]
  rcases(by omega:x/216%4=0\/x/216%4=1\/x/216%4=2\/x/216%4=3)with e|e|e|e<;>rw[e]
  ·exact .inl rfl
  ·exact .inr (.inl rfl)
  ·exact .inr (.inr (.inl rfl))
  ·exact .inr (.inr (.inr rfl))
 ·rw[hfin]
  rcases(by omega:x/216%4=0\/x/216%4=1\/x/216%4=2\/x/216%4=3)with e|e|e|e<;>rw[e]
  ·exact(by decide:1<=3)
  ·exact(by decide:1<=3)
  ·exact(by decide:2<=3)
  ·exact(by decide:3<=3)
 ·have:=b2 c hc
  simp only[aK]at this;rw[<-mF]at this;have k1:=iA this.1.2;have k2:=this.2;unfold prepC at k1 k2;cases s:pM jd (c:Int)with
  |true=>rw[s]at k2;exact aa k2
  |false=>rw[s]at k1;exact k1
end
end
section
open PySem PySem.W PySem.Challenge
theorem xC{rows:List RowD}{nm:List Nat}:∀{seen:Bool},(∀r∈rows,bv nm r)->bM (cQ []) rows seen=(rows.map λr=>r.front++r.body++r.fin).flatten:=by
 induction rows with
 |nil=>exact λ_=>rfl
 |cons r rows ih=>
  intro seen h;have R:=h r (aO ..);rw[d4,ih λx hx=>h x (aG _ hx),aC,List.flatten_cons];have hg:cy (cQ []) seen r=false:=by
   rw[lV];rfl
  have hp:bF (cQ []) seen=false:=by cases seen<;>rfl
  have hc:aF (cQ []) seen r=r.front++r.body:=by
   unfold aF;rw[hg];unfold aT;rw[hp];show bL (cQ []) seen r=_;rw[bN];unfold jI;rw[hp,R.split];exact(co ..).symm
  rw[hc];rfl
noncomputable def cg(x:Nat):Nat:=[80,83,76,78].getD (x%4) 0
theorem Ed(x:Nat):cg x=80\/cg x=83\/cg x=76\/cg x=78:=by
 unfold cg
 rcases(by omega:x%4=0\/x%4=1\/x%4=2\/x%4=3)with e|e|e|e<;>rw[e]
 ·exact .inl rfl
 ·exact .inr (.inl rfl)
 ·exact .inr (.inr (.inl rfl))
 ·exact .inr (.inr (.inr rfl))
noncomputable abbrev HK:Fns:=⟨GL,[(nm "_law_row",fRow),(nm "_law_done",fDone),(nm "_law_told",fTold)],[]⟩
noncomputable abbrev HL:List (Str×NameKind):=zi.scope.names
noncomputable abbrev nW:List Nm:=lD HL
noncomputable abbrev Il:List Nm:=a0 (hZ 20) zi.body
noncomputable def Hz:List Stmt->List Stmt
 |[]=>[]
 | .For _ _ b _ _::_=>b
 |_::r=>Hz r
noncomputable abbrev lB:List Stmt:=Hz zi.body
noncomputable abbrev Gj(sc se nu na:V)(m:Name3)(rows:List RowD)(text run:List Nat)(x:Mine.Slot):List Mine.Slot:=[.val sc, .val se, .val nu, .val na, .val (.str (dN m)), .val (.str m.one),x, .val (.list (rows.map iz)), .val (.str text), .val (.str run)]
theorem Ee(run:List Nat)(d:Nat):(run++[d]).getD ((run++[d]).length-1) 0=d:=by simp
section
variable {sc se nu na:V} {m:Name3} {rows:List RowD} {n:Nat}
theorem Cn(hm:ub (dN m))(h:∀r∈rows,bv (dN m) r)(k:∀r∈rows,gk r)(hl:rows.length<=6){run:List Nat}(hr:run.length<500)(x:Nat):
 ex HK [] Il 1000 HL (n+5) lB (aJ nW (Gj sc se nu na m rows (cz rows run) run (.val (vN x))))=(true, .next (aJ nW (Gj sc se nu na m rows (cz rows (run++[cg x])) (run++[cg x]) (.val (vN x))))):=by
 have hrl:(run++[cg x]).length<=500:=by rw[bk,fu];omega
 refine nf 9 ∅ (by decide +kernel) (x := .str run) rfl (y := .str [cg x]) ?_ (v := .str (run++[cg x])) (add_str (by rw[fu];unfold cap;omega)) rfl ?_
 ·exact bf (x := .str [80,83,76,78]) (y:=vN (x%4)) rfl (aI rfl (au rfl)) (et (x:=vN x) (y:=vN 4) nofun (aj 6 ∅ rfl) (au rfl) (tY nofun)) rfl (gx (show 4<=cap by decide) (by show x%4<4;omega))
 refine bG 8 ∅ (by decide +kernel) (v := .str (cz rows (run++[cg x]))) ?_ (s := .val (.str (cz rows (run++[cg x])))) rfl ?_
 ·refine bX ∅ ∅ ∅ (vs:=[.str [cg x], .str (cz rows run), .str (dN m)]) (ao ?_ (ao (aj 8 ∅ rfl) (ao (aj 4 ∅ rfl) aA))) (dW (F:=fDone) rfl (zB Gg hm h k hl run (Ed x)))
  have sb:=jb (s:=run++[cg x]) (k:=1) (ty:=0) (by unfold cap;omega) nofun (by rw[bk,fu];omega);rw[Ee]at sb;exact bf (x := .str (run++[cg x])) (y := .int (-((1:Nat):Int))) rfl (fQ 9 ∅ rfl) ∅ rfl sb
 refine pY (v := .bool false) false ∅ ∅ ?_ rfl cF;have e:(!ab (cz rows (run++[cg x])) (cz rows (run++[cg x])))=false:=by rw[an.mpr rfl];rfl
 refine(bH (x := .str (cz rows (run++[cg x]))) (y := .str (cz rows (run++[cg x]))) nofun (aj 8 ∅ rfl) ?_ (ne_str _ _)).trans (by rw[e]);exact bX ∅ ∅ ∅ (vs:=[.list (rows.map iz), .str (run++[cg x])]) (ao (aj 7 ∅ rfl) (ao (aj 9 ∅ rfl) aA)) (dW (F:=fTold) rfl (BQ ⋯ (λr hr=>(k r hr).small) ⋯))
noncomputable def HA:List Stmt->Expr
 |[] => .Constant .none 0 default
 | .For t _ _ _ _::_=>t
 |_::r=>HA r
noncomputable abbrev lT:Expr:=HA zi.body
theorem wc(hm:ub (dN m))(h:∀r∈rows,bv (dN m) r)(k:∀r∈rows,gk r)(hl:rows.length<=6){t0 r0:List Nat}:∀(xs:List Nat) (run:List Nat),run.length+xs.length<500 ->
 dc (λv ρ=>((bU lT v ρ).1&&(ex HK [] Il 1000 HL (n+5) lB (bU lT v ρ).2).1,(ex HK [] Il 1000 HL (n+5) lB (bU lT v ρ).2).2)) (aJ nW (Gj sc se nu na m rows t0 r0 .un)) (xs.map vN) (aJ nW (Gj sc se nu na m rows (cz rows run) run .un)) =
  (true, .next (aJ nW (Gj sc se nu na m rows (cz rows (run++xs.map cg)) (run++xs.map cg) .un)))
 |[],run,_=>by simp only[List.map_nil,bY];rfl
 |x::xs,run,hr=>by
  rw[aP]at hr;have ih:=wc hm h k hl (t0:=t0) (r0:=r0) xs (run++[cg x]) (by rw[bk,fu];omega);rw[co]at ih;refine fc (ie (ρ1:=aJ nW (Gj sc se nu na m rows (cz rows run) run (.val (vN x)))) ∅ (Cn hm h k hl ⋯ x)) ?_;exact ih
end
noncomputable def gN:List Nat:=[378,269575,104441,1323,1792,174087,2,7,5,4,6,3,8,0]
noncomputable def zD(ns:List Int)(k:Nat):Int:=((gN.getD k 0:Int)+ur (dC 14 k (ns.map .int))).fmod 10000000
noncomputable def numsOf(ns:List Int):List Nat:=(List.range' 0 14).map λk=>(zD ns k).toNat
theorem we(ns:List Int)(k:Nat):0<=zD ns k:=Int.fmod_nonneg_of_pos _ nofun
theorem zE{k:Nat}{ns:List Int}(h:ns.length<=1000):(dC 14 (k:Int) (ns.map V.int)).all xE=true/\(dC 14 (k:Int) (ns.map V.int)).length<=cap:=by
 unfold dC
 constructor
 ·rw[List.all_eq_true]
  intro x hx;obtain⟨i,_,hi⟩:=List.mem_filterMap.mp hx;obtain⟨j,_,rfl⟩:=List.mem_map.mp (gH hi)
  rfl
 ·refine ah (List.length_filterMap_le _ _) (ah (sliceRange_length_le _ _ _ (ns.map V.int).length (λ_=>⟨⋯,⋯⟩) λh=>absurd nofun h) ?_)
  rw[aW];unfold cap;omega
noncomputable def sH(m:Name3):V := .tup [.str (dN m), .str m.one]
theorem zF{l:List V}(h:l.length=14):eO (.list l) (.int 6) (.int 13) .none=(true, .list ((l.drop 6).take 7)):=by
 show((decide (l.length<=cap),V.list ((l.drop (bound l.length 6)).take (bound l.length 13-bound l.length 6))):R)=_;rw[h];rfl
noncomputable def fLaw:List V->R:=dF HK [] 1000 (fK ["script"] zi)
theorem yz{ns:List Int}(hn:ns.length<=63):fLaw [.list (ns.map .int)]=(true, .bool true):=by
 have cs:(ns.map V.int).length<=cap:=by rw[aW];unfold cap;omega
 refine jf (ns:=nW) (ss:=[.val (.list (ns.map .int)), .un, .un, .un, .un, .un, .un, .un, .un, .un]) rfl ∅ ?_;refine bG 1 ∅ (by decide +kernel) (v := .tup (gN.map vN)) ∅ (s := .val (.tup (gN.map vN))) rfl ?_;have eN:(numsOf ns).map vN=(List.range' 0 14).map λk=>V.int (zD ns k):=by
  unfold numsOf;rw[dQ];refine List.map_congr_left λk _ => ?_
  show V.int (((zD ns k).toNat:Nat):Int)=V.int (zD ns k);rw[Int.toNat_of_nonneg (we ns k)]
 have hlen:(numsOf ns).length=14:=by unfold numsOf;simp
 refine bG 2 ∅ (by decide +kernel) (v := .list ((numsOf ns).map vN)) ?_ (s := .val (.list ((numsOf ns).map vN))) ∅ ?_
 ·rw[eN]
  refine jg (λk => .tup [vN k,vN (gN.getD k 0)]) (λk => .int (zD ns k)) (List.range' 0 14) [.un, .un, .un, .un, .val (.list (ns.map .int))] ∅ ∅ ∅ ∅ nofun λk hk=>⟨[.un, .val (vN k), .val (vN (gN.getD k 0)), .un, .val (.list (ns.map .int))],∅, ?_⟩
  obtain⟨e1,e2⟩:=zE (k:=k) (ns:=ns) ⋯;refine et nofun (x := .int ((gN.getD k 0:Int)+ur (dC 14 k (ns.map .int)))) (y := .int 10000000) ?_ ∅ rfl;refine cV (x:=vN (gN.getD k 0)) (y := .int (ur (dC 14 k (ns.map .int)))) (fQ 2 ∅ rfl) ?_ rfl;refine bX ∅ ∅ ∅ (vs:=[.list (dC 14 k (ns.map .int))]) (ao ?_ aA) (dU rfl ?_)
  ·refine aN (x := .list (ns.map .int)) (a:=vN k) (b := .none) (c:=vN 14) (aj 4 ∅ rfl) (cw (aj 1 ∅ rfl)) rfl (cw ∅) ?_
   show((decide ((ns.map V.int).length<=cap)&&decide (0<=(k:Int))&&decide ((1:Int)<=14),V.list (dC 14 k (ns.map .int))):R)=_;rw[ai cs,ai ⋯];rfl
  ·show(((dC 14 (k:Int) (ns.map V.int)).all xE&&decide ((dC 14 (k:Int) (ns.map V.int)).length<=cap),V.int (ur (dC 14 k (ns.map .int)))):R)=_
   rw[e1,ai e2];rfl
 clear eN;generalize numsOf ns=nums at hlen |-;generalize V.list (ns.map .int)=sc;have cn:nums.length<=cap:=by rw[hlen];decide
 refine bG 3 ∅ (by decide +kernel) (v := .tup (fm.map sH)) ∅ (s := .val (.tup (fm.map sH))) rfl ?_;obtain⟨m,em⟩:∃m,m=fm.getD (nums.getD 13 0%6) ⟨0,0,0,0,0,0,[]⟩:=⟨_,rfl⟩;have hm:zC m=true:=by rw[em];exact Cl (Nat.mod_lt _ nofun)
 refine FK (vs:=[.str (dN m), .str m.one]) (ss':=[.val sc, .val (.tup (gN.map vN)), .val (.list (nums.map vN)), .val (.tup (fm.map sH)), .val (.str (dN m)), .val (.str m.one), .un, .un, .un, .un]) rfl ∅ ∅ ?_ ∅ ?_
 ·refine bf (x := .tup (fm.map sH)) (y:=vN (nums.getD 13 0%6)) rfl (fQ 3 ∅ rfl) (et (x:=vN (nums.getD 13 0)) (y:=vN 6) nofun (bf (x := .list (nums.map vN)) (y:=vN 13) rfl (fQ 2 ∅ rfl) (au rfl) rfl (BD cn ⋯)) (au rfl) (tY nofun)) rfl (fW (show 6<=cap by decide) (by show nums.getD 13 0%6<6;omega) ?_)
  rw[em];exact qa _ (by show nums.getD 13 0%6<6;omega)
 clear em;obtain⟨hk,_,hg,hc⟩:=Cm hm;have R:=λx=>Gi hm x
 refine bG 7 ∅ (by decide +kernel) (v := .list (((nums.take 6).map (eB m)).map iz)) ?_ (s := .val (.list (((nums.take 6).map (eB m)).map iz))) ∅ ?_
 ·rw[dQ]
  refine jg vN (λx=>iz (eB m x)) (nums.take 6) [.un, .un, .un, .val (.str (dN m)), .val (.str m.one)] ∅ ∅ (dX (v := .list ((nums.take 6).map vN)) ∅ ?_ ?_ (.inl rfl)) ∅ (by rw[cR];unfold cap;omega) λx hx=>⟨[.un, .val (vN x), .un, .val (.str (dN m)), .val (.str m.one)],∅, ?_⟩
  ·rw[List.map_take]
   exact aN (x := .list (nums.map vN)) (a := .none) (b := .int ((6:Nat):Int)) (aj 2 ∅ rfl) rfl (cw (au rfl)) rfl (zo (k:=6) (by rw[aW];exact cn))
  ·exact kr (by rw[aW,cR];unfold cap;omega)
  ·refine bX ∅ ∅ ∅ (vs:=[vN x, .str (dN m), .str m.one]) (ao (aj 1 ∅ rfl) (ao (aj 3 ∅ rfl) (ao (aj 4 ∅ rfl) aA))) (dW (F:=fRow) rfl (D2 hg (λk => ?_) ?_))
   ·by_cases h:k<3
    ·exact(by decide:∀c∈lettersL,c<1000) _ (hc _ (dL 0 (show k<(dN m).length from h)))
    ·rw[cA,List.getElem?_eq_none (by simpa using h)];decide
   ·exact ah (R x).2.body nofun
 have rl:((nums.take 6).map (eB m)).length<=6:=by rw[aW,cR];omega
 have RO:∀r∈(nums.take 6).map (eB m),bv (dN m) r:=λr hr=>by obtain⟨x,_,rfl⟩:=List.mem_map.mp hr;exact(R x).1
 have RT:∀r∈(nums.take 6).map (eB m),gk r:=λr hr=>by obtain⟨x,_,rfl⟩:=List.mem_map.mp hr;exact(R x).2
 generalize (nums.take 6).map (eB m)=rows at rl RO RT |-;have t0:cz rows []=db [] (rows.map λr=>r.front++r.body++r.fin)++[46]:=by
  unfold cz;rw[xC RO,mw]
 have tl:=qu (b:=cQ []) rows true RO RT;refine bG 8 ∅ (by decide +kernel) (v := .str (cz rows [])) ?_ (s := .val (.str (cz rows []))) rfl ?_
 ·rw[t0]
  have jl:(db [] (rows.map λr=>r.front++r.body++r.fin)).length<=78:=by rw[mw,<-xC (seen:=true) RO];omega
  have sl:((rows.map λr=>r.front++r.body++r.fin).map List.length).sum<=78:=by rw[<-List.length_flatten,<-xC (seen:=true) RO];omega
  refine cV (x := .str (db [] (rows.map λr=>r.front++r.body++r.fin))) (y := .str [46]) (aI rfl (fe (x := .str []) (vs:=[.list ((rows.map λr=>r.front++r.body++r.fin).map .str)]) ∅ nofun rfl (au rfl) (ao ?_ aA) (nY (by rw[aW];show _+_*0<=cap;unfold cap;omega) (by rw[aW];unfold cap;omega)))) (au rfl) (add_str (by rw[fu];unfold cap;omega));rw[dQ];refine jg iz (λr => .str (r.front++r.body++r.fin)) rows [.un, .un] ∅ ∅ (dX (v := .list (rows.map iz)) ∅ (aj 7 ∅ rfl) (kr (by rw[aW];unfold cap;omega)) (.inl rfl)) ∅ (by unfold cap;omega) λr hr=>⟨[.un, .val (iz r)],∅, ?_⟩
  have S:=(RT r hr).small;have s1:=S.front;have s2:=S.body;have s3:=S.fin;refine cV (x := .str (r.front++r.body)) (y := .str r.fin) (aI rfl (cV (x := .str r.front) (y := .str r.body) (aI rfl ∅) ∅ (add_str (by unfold cap;omega)))) ∅ (add_str (by rw[bk];unfold cap;omega))
 refine bG 9 ∅ (by decide +kernel) (v := .str []) ∅ (s := .val (.str [])) rfl ?_;have LL:=wc (sc:=sc) (se := .tup (gN.map vN)) (nu := .list (nums.map vN)) (na := .tup (fm.map sH)) (n:=187) hk RO RT rl (t0:=cz rows []) (r0:=[]) ((nums.drop 6).take 7) [] (by rw[cR];show 0+_<500;omega);refine yl (t:=lT) (b:=lB) (xs:=((nums.drop 6).take 7).map vN) (ss':=Gj sc (.tup (gN.map vN)) (.list (nums.map vN)) (.tup (fm.map sH)) m rows (cz rows ([]++((nums.drop 6).take 7).map cg)) ([]++((nums.drop 6).take 7).map cg) .un) ∅ ?_ ∅ LL (ng ∅ ∅);refine dX (v := .list (((nums.drop 6).take 7).map vN)) ∅ ?_ (kr (by rw[aW,cR];unfold cap;omega)) (.inl rfl)
 rw[List.map_take,List.map_drop];exact aN (x := .list (nums.map vN)) (a := .int 6) (b := .int 13) (aj 2 ∅ rfl) (cw (au rfl)) (cw (au rfl)) rfl (zF (by rw[aW];exact hlen))
end
section
open PySem PySem.W PySem.Calls PyProof.Rows PySem.Challenge
theorem Ef{G:Cfg}{n:Nat}{a:Addr}{F F':List V->R}(h:fT G n a F)(e:∀as,(F' as).1=true->F as=F' as):fT G n a F':=λA r=>by
 refine⟨(h A r).1,λX s as us old off al rp ok => ?_⟩;have e':=e as ok;have:=(h A r).2 X s as us old off al rp (by rw[e'];exact ok);rw[e']at this;exact this
theorem wg{G:Cfg}{n m:Nat}{a:Addr}{F:List V->R}(h:fT G n a F)(hm:n<=m):fT G m a F:=λA r=>h A (r.less hm)
section
variable {w:World} {h:Heap} {mN mg mb:Str->Option Value}
theorem Co(Bs:kh (GW w h) 180 mN mg mb)(N:Bu mg mN):∀x∈GL,∃f u,x.1=nm f/\mg f=some u/\∀X (h':Shared),uf (GW w h) h'.heap->Av (GW w h) X->ak (GW w h) X h' x.2 u:=λx hx=>by
 unfold GL at hx;simp only[List.mem_cons,cj,or_false]at hx
 rcases hx with rfl|rfl|rfl|rfl|rfl
 ·obtain⟨t,e⟩:=gW (said N.g (n:="_MAX_STRING_SIZE") ∅)
  exact⟨"_MAX_STRING_SIZE",_,rfl,e,λX h' _ _=>ak.int_iff.mpr ⟨t,rfl⟩⟩
 ·obtain⟨t,e⟩:=gW (said N.g (n:="_MOVE_COST") ∅)
  exact⟨"_MOVE_COST",_,rfl,e,λX h' _ _=>ak.int_iff.mpr ⟨t,rfl⟩⟩
 ·obtain⟨t,e⟩:=gW (said N.g (n:="_CASE_COST") ∅)
  exact⟨"_CASE_COST",_,rfl,e,λX h' _ _=>ak.int_iff.mpr ⟨t,rfl⟩⟩
 ·obtain⟨t,e⟩:=km (x:=tx [13,10]) (said N.g (n:="CRLF") ∅)
  exact⟨"CRLF",_,rfl,e,λX h' _ _=>ak.str_iff.mpr ⟨t,rfl⟩⟩
 ·exact⟨"Whitespace",_,rfl,jD (said N.g (n:="Whitespace") ∅),λX h' _ _=>ak.cls_iff.mpr rfl⟩
theorem jr(Bs:kh (GW w h) 180 mN mg mb)(N:Bu mg mN)(n:Nat)(fn:List (Nm×(List V->R)))(hf:∀x∈fn,∃f a,x.1=nm f/\mg f=some (.ref a)/\fT (GW w h) n a x.2):
 ∀A,ix n A->aU (GW w h) A ⟨GL,fn,[]⟩:=
 A9 Bs (Co Bs N) hf
theorem Eg{α:Type}{P:α->Prop}:∀x∈([]:List α),P x:=λ_ h=>nomatch h
theorem sI{P:Addr->Prop}{h':Shared}:∀{vs:List Value} {ns:List Int},IntsAre vs ns->Reps (GW w h) P h' (ns.map .int) vs
 |_,_, .nil=>Reps.nil
 |_,_, .cons n t x=>Reps.cons (ak.int_iff.mpr ⟨t,rfl⟩) (sI x)
theorem Gk(B:tV h):fT (GW w h) 4 228 fLaw:=by
 obtain⟨mN,mg,mb,Bs,N⟩:=DF (w:=w) B;have lim:(GW w h).h0.NoLimit:=Bs.lim;have F0:=λn=>jr Bs N n [] Eg
 have rf:∀{n:Str} {a:Addr},(gO PW).globals.lookup n=some (some (.ref a))->mg n=some (.ref a):=λ{n a} e=>jD (said N.g e)
 have rn:∀{n:Str} {a:Addr},(match(gO PW).nss with|x::_=>x.2|[]=>[]).lookup n=some (some (.ref a))->mN n=some (.ref a):=λ{n a} e=>jD (said N.n e)
 have one:∀{n:Nat} {f:Str} {a:Addr} {F:List V->R},mg f=some (.ref a)->fT (GW w h) n a F->∀x∈[(nm f,F)],∃f a,x.1=nm f/\mg f=some (.ref a)/\fT (GW w h) n a x.2:=λ{n f a F} e k x hx=>by
  rw[List.mem_singleton]at hx;subst hx;exact⟨f,a,rfl,e,k⟩
 have kSub:fT (GW w h) 1 192 fSub:=ki (Hd B) lim (F0 0);have kLev:fT (GW w h) 2 199 fLev:=ki (He B) lim (jr Bs N 1 [(nm "_substitution_cost",fSub)] (one (rf ∅) kSub));have kQuote:fT (GW w h) 2 119 fQuoteP:=wg (Ef (Bj (DE B) lim (F0 0) Bs.glob (rf ∅) (rf ∅) (DH B) (DI B) Br) λas=>DL) nofun;have kB1:fT (GW w h) 1 56 fB1r:=G5 (Ie B) lim (F0 0) Bs.glob (rf ∅) (FH B) Ha;have kB3:fT (GW w h) 1 102 fB3r:=G7 (Ig B) lim (F0 0) Bs.glob (rf ∅) B.dict nofun Hb;have kInit:fT (GW w h) 2 181 (G3 runW):=Dn Bs (FD B) (rn ∅) (let⟨o,fd,h1,h2,_⟩:=FE B;⟨o,h1,h2⟩) DD (F0 0);have kRow:fT (GW w h) 1 206 fRow:=ki (Hh B) lim (F0 0)
 have kStands:fT (GW w h) 1 218 fStands:=ki (Bt B) lim (F0 0);have kTold:fT (GW w h) 2 223 fTold:=ki (FG B) lim (jr Bs N 1 [(nm "_law_stands",fStands)] (one (rf ∅) kStands));have kDone:fT (GW w h) 3 211 fDone:=ki (FF B) lim (jr Bs N 2 _ (λx hx=>by
  simp only[List.mem_cons,cj,or_false]at hx
  rcases hx with rfl|rfl|rfl|rfl|rfl
  ·exact⟨"quotedata",119,rfl,rf ∅,kQuote⟩
  ·exact⟨"in_table_b1",56,rfl,rf ∅,wg kB1 nofun⟩
  ·exact⟨"map_table_b3",102,rfl,rf ∅,wg kB3 nofun⟩
  ·exact⟨"_levenshtein_distance",199,rfl,rf ∅,kLev⟩
  ·exact⟨"Whitespace",181,rfl,rf ∅,kInit⟩))
 exact ki (Hi B) lim (jr Bs N 3 _ (λx hx=>by
  simp only[List.mem_cons,cj,or_false]at hx
  rcases hx with rfl|rfl|rfl
  ·exact⟨"_law_row",206,rfl,rf ∅,wg kRow nofun⟩
  ·exact⟨"_law_done",211,rfl,rf ∅,kDone⟩
  ·exact⟨"_law_told",223,rfl,rf ∅,wg kTold nofun⟩))
end
theorem holds1:rw_uk0028_01.Holds:=z7 λw s a vs ns B hg hl hi hy hn=>by
 obtain⟨hh,gg,dr,tk,os⟩:=s;have room:ix 4 callerA:=⟨rfl,nofun,nofun⟩;have K:=(Gk (w:=w) B callerA room).2 (λ_=>False) _ [.list (ns.map .int)] [.ref a] (λ_ _ e=>e) (λ_ f=>f.elim) (λ_ f=>f.elim)
  (Reps.cons (ak.list_iff.mpr ⟨a,vs.toArray,rfl,λf=>f,hl,sI hi⟩) Reps.nil) (by rw[yz hn])
 rw[yz hn]at K;refine K _ _ λu s' k r => ?_
 obtain⟨h',t',rfl,kk⟩:=k;exact⟨ak.bool_iff.mp r,kk.1,rfl,hg⟩
end
end Mine
theorem PySem.Challenge.cw_uk0028_01_holds : PySem.Challenge.rw_uk0028_01.Holds :=
 Mine.holds1
