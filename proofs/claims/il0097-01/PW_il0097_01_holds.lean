import PyProof.Rows.All
import PyProof.FactsAll.bool
import PyProof.AttrMissHeap
import PyProof.ToksMono
import PyProof.MinMaxWalk
import PyProof.EnumStmt
import PyProof.MeetsSeq3
import PyProof.ExcStrAll.ValueError
import PyProof.ExcStrCall
import PyProof.StrLawsChain
import PyProof.Rows.StrInSeq
import PyProof.SetKind
import PyProof.Rows.SetObj
import PyProof.ZipIter
import PyProof.StrLawsTight
import PyProof.StrLawsReplace
import PyProof.StrLawsLast
import PyProof.Rows.SumAny
import PyProof.TupleOfGen
import PyProof.Rows.SortStrRead
import PyProof.SetRoads
import PyProof.SetNew
import KE.BytesMulAny
import KE.KBoundM
import KE.KBytesWalk
import KE.KBytesCut
import KE.KDictIter
import KE.KEqDict
import KE.KFromBytes
import KE.KRevIter
import KE.KStar
import KE.KTupTruth
import Wide.FinOn
import OpenK.AllK
import Wide.All
import Lean
import PySem.Challenge.RW_il0097_01
set_option Elab.async false
set_option maxRecDepth 100000
set_option maxHeartbeats 8000000
set_option linter.all false
section
namespace Mine
theorem zq0{a b:Nat}(h1:(a+b)≤1000000):(a+b)≤16777216:=Nat.le_trans h1 (Nat.le_add_left ..)
theorem zq1{a:Int}(h1:(-(1000000:Int))≤a):(-(1048576:Int))≤a:=by lia
theorem zq2{a:Int}(h1:a≤(1000000:Int)):a≤(1048576:Int):=by lia
theorem zq3{a:Nat}(h1:a≤1000000):a≤1099511627776:=Nat.le_trans h1 (Nat.le_add_left ..)
theorem zq4{a:Nat}:¬(((a:Int)<(0:Int))):=by lia
theorem zq5{a:Nat}(h1:a≤1114111):¬(((a:Int)>(1114111:Int))):=by lia
theorem zq6{a b c:Nat}:(min ((min a b)-c) (b-c))=(min (a-c) (b-c)):=by rw [← Nat.sub_min_sub_right,Nat.min_assoc,Nat.min_self]
theorem zq7{a b:Nat}(h1:(a+(b+1))<900):a<1000:=Nat.lt_of_le_of_lt (Nat.le_add_right ..) (Nat.lt_of_lt_of_le h1 (by decide))
theorem zq8{a b:Nat}(h1:(a+1)≤b):a≤b:=Nat.le_of_lt h1
theorem zq9{a:Nat}(h1:(a+1)≤a):False:=Nat.lt_irrefl _ h1
theorem vW{a b:Nat}(h1:(a-b)=0):a≤b:=Nat.le_of_sub_eq_zero h1
theorem vV{a b c:Nat}(h1:(c-b)=0)(h2:c=a):a≤b:=by subst h2;exact Nat.le_of_sub_eq_zero h1
theorem xd{a b c d:Nat}(h1:b≤c)(h2:c≤d)(h3:d=a):¬((a<b)):=by lia
theorem uD{a b:Nat}(h1:¬((b<a))):a≤b:=Nat.le_of_not_lt h1
theorem xc{a b c d:Nat}(h1:(c-d)=0)(h2:c=a)(h3:d<b):a<b:=by subst h2;exact Nat.lt_of_le_of_lt (Nat.le_of_sub_eq_zero h1) h3
theorem uw{a b c:Nat}(h1:(b-a)=(c+1)):a<b:=Nat.lt_of_sub_eq_succ h1
theorem iZ{a b c:Nat}(h1:a<c)(h2:c=b):a<b:=Nat.lt_of_lt_of_eq h1 h2
theorem ub{a b c:Nat}(h1:(a-b)=(c+1)):(a-(b+1))=c:=congrArg Nat.pred h1
theorem q7{a b:Nat}(h1:a<b):(a+1)≤b:=h1
theorem vU{a b:Nat}(h1:b≥a):a≤b:=h1
theorem vT{a b c:Nat}(h1:b≥c)(h2:c=a):a≤b:=by subst h2;exact h1
theorem xb{a b c d e:Nat}(h1:c<d)(h2:c≥e)(h3:d=a)(h4:e=b):¬((a<b)):=by subst h3 h4;exact Nat.not_lt.mpr (Nat.le_of_lt (Nat.lt_of_le_of_lt h2 h1))
theorem xa{a b c d e:Nat}(h1:(c-d)=0)(h2:c=a)(h3:d≤e)(h4:e=b):¬((a>b)):=by subst h2 h4;exact Nat.not_lt.mpr (Nat.le_trans (Nat.le_of_sub_eq_zero h1) h3)
theorem wZ{a b c d:Nat}(h1:(c-d)=0)(h2:c=a)(h3:d<b):¬((a>b)):=by subst h2;exact Nat.not_lt.mpr (Nat.le_of_lt (Nat.lt_of_le_of_lt (Nat.le_of_sub_eq_zero h1) h3))
theorem wY{a b c d e:Nat}(h1:c<d)(h2:c≥e)(h3:d=a)(h4:e=b):a>b:=by subst h3 h4;exact Nat.lt_of_le_of_lt h2 h1
theorem rp{a:Nat}:(a+0)=a:=by rfl
theorem wX{a b c d e f:Nat}(h1:(c+d)=e)(h2:a=f)(h3:e≤b)(h4:f≤d):a≤b:=by subst h1 h2;exact Nat.le_trans h4 (Nat.le_trans (Nat.le_add_left ..) h3)
theorem qd{a b c:Nat}(h1:(a+b)=c)(h2:b<c):(a-1)<a:=by subst h1;exact Nat.sub_one_lt fun e=>by rw [e,Nat.zero_add]at h2;exact Nat.lt_irrefl _ h2
theorem qc{a b c:Nat}(h1:(a+b)=c)(h2:b<c):((a-1)+(b+1))=c:=by lia
theorem ro{a b c:Nat}(h1:(c+a)=b)(h2:a≥b):a=b:=by lia
theorem wW{a b:Nat}(h1:b<a):a=((b+1)+(a-(b+1))):=Eq.symm (Nat.add_sub_of_le h1)
theorem wV{a b c d:Nat}(h1:a=c)(h2:c<d)(h3:d≤b):a≤b:=by lia
theorem vS{a b:Nat}(h1:(b+0)=a):a≤b:=Nat.le_of_eq (id (Eq.symm h1))
theorem wU{a b c:Nat}(h1:(a+(c+1))=b):a<b:=by subst h1;exact Nat.lt_add_of_pos_right (Nat.succ_pos c)
theorem wT{a b c:Nat}(h1:(a+(b+1))=c):((a+1)+b)=c:=by rw [Nat.add_assoc,Nat.add_comm 1 b];exact h1
theorem wS{a:Nat}:(0+a)=a:=Nat.add_comm ..
theorem wR{a b c:Nat}(h1:(a+c)<900)(h2:b≤c):(a+b)<900:=Nat.lt_of_le_of_lt (Nat.add_le_add_left h2 a) h1
theorem wQ{a b c:Nat}(h1:(a+(20*c))<9000)(h2:b≤c):(a+(20*b))<9000:=Nat.lt_of_le_of_lt (Nat.add_le_add_left (Nat.mul_le_mul_left 20 h2) a) h1
theorem vR{a b:Nat}(h1:(a+(b+1))<900):((a+1)+b)<900:=by rw [Nat.add_assoc,Nat.add_comm 1 b];exact h1
theorem wP{a b:Nat}(h1:(a+(20*(b+1)))<9000):((a+3)+(20*b))<9000:=by lia
theorem qb{a b c:Nat}(h1:a<c)(h2:b=c):a<b:=Nat.lt_of_lt_of_eq h1 h2.symm
theorem vQ{a b:Nat}(h1:a=b):a≤b:=Nat.le_of_eq h1
theorem wO{a:Nat}{b:Int}(h1:((a-1)-(Int.toNat b))<1000):¬((((a-1)-(Int.toNat b))≥16777216)):=Nat.not_le.mpr (Nat.lt_trans h1 (by decide))
theorem wN{a:Nat}(h1:a≤100):(a+1)≤(16777216+1):=Nat.lt_of_le_of_lt h1 (by decide)
theorem wM{a b:Nat}(h1:(a+8)<b):(a+1)<b:=Nat.lt_of_le_of_lt (Nat.add_le_add_left (by decide) a) h1
theorem wL{a b:Nat}(h1:(a+8)<b):a<b:=Nat.lt_of_le_of_lt (Nat.le_add_right ..) h1
theorem wK{a b:Nat}(h1:(a+(b+1))<900):(a+b)<900:=Nat.le_of_lt h1
theorem vP{a b:Nat}(h1:(a+(20*(b+1)))<9000):((a+1)+(20*b))<9000:=by lia
theorem wJ{a b:Nat}(h1:(b-a)=0)(h2:a≤b):a=b:=Nat.le_antisymm h2 (Nat.le_of_sub_eq_zero h1)
theorem wI{a b c:Nat}(h1:a=(min b c))(h2:b<c):a=b:=by lia
theorem wH{a b c d:Nat}(h1:1000≤b)(h2:a=c)(h3:c<d)(h4:d≤1000):a≤b:=by lia
theorem wG{a b c d:Nat}(h1:1000≤b)(h2:a=c)(h3:c<d)(h4:d≤1000):(a+1)≤(b+1):=by lia
theorem wF{a:Nat}:(a-0)=a:=by rfl
theorem wE{a b:Nat}(h1:a=b)(h2:b≤1000):a≤1000:=Nat.le_trans (Nat.le_of_eq h1) h2
theorem vO{a b:Nat}(h1:a=(b+1)):(a-1)<a:=by subst h1;exact Nat.lt_succ_self b
theorem wD{a b c:Nat}(h1:(c+1)≤b)(h2:a=(c+1)):a≤b:=Nat.le_trans (Nat.le_of_eq h2) h1
theorem wC{a b:Nat}(h1:a=(b+1)):((a-1)+1)=a:=by subst h1;rfl
theorem vN{a b:Nat}(h1:a=(b+1)):¬(((a-1)=a)):=by subst h1;exact Nat.ne_of_lt (Nat.lt_succ_self b)
theorem vM{a b:Nat}(h1:(a+10)<b):(a+1)<b:=by lia
theorem wB{a b c:Nat}:(min a b)≤(b+c):=Nat.le_trans (Nat.min_le_right a b) (Nat.le_add_right b c)
theorem wA{a b:Int}:(((a-b)+(1:Int))-(1:Int))=(a-b):=by lia
theorem w9{a b:Int}(h1:¬((b<a))):(Int.toNat (a-b))=0:=Int.toNat_eq_zero.mpr (Int.sub_nonpos_of_le (Int.not_lt.mp h1))
theorem w8{a b:Nat}:(Int.toNat ((a:Int)-(b:Int)))=(a-b):=Int.toNat_sub a b
theorem w7{a b:Nat}:(Int.toNat ((a:Int)+(b:Int)))=(a+b):=by rfl
theorem w6{a b:Nat}(h1:a<b):(a-b)=0:=Nat.sub_eq_zero_of_le (Nat.le_of_lt h1)
theorem w5{a b c:Nat}(h1:a<c):(min a b)≤c:=Nat.le_trans (Nat.min_le_left a b) (Nat.le_of_lt h1)
theorem w0{a b c:Nat}(h1:b≤c)(h2:b≥a):(a+(b-a))≤c:=by rw [Nat.add_sub_cancel' h2];exact h1
theorem wz{a b:Nat}(h1:a≤b):(max (0:Int) (min (a:Int) (b:Int)))=(a:Int):=by lia
theorem wy{a b:Nat}(h1:b≤a):(max (0:Int) (min (a:Int) (b:Int)))=(b:Int):=by rw [Int.min_eq_right (Int.ofNat_le.mpr h1)];exact Int.max_eq_right (Int.natCast_nonneg b)
theorem vL{a b:Nat}:(min a b)≤b:=Nat.min_le_right ..
theorem wx{a b:Nat}:(min (min a b) b)=(min a b):=by grind
theorem wv{a b c:Nat}(h1:b≤c):(min a b)≤c:=Nat.le_trans (Nat.min_le_right ..) h1
theorem wu{a b c d:Nat}(h1:c<(Int.toNat ((((min d b):Nat):Int)-(((min a b):Nat):Int)))):(Int.toNat ((((min a b):Nat):Int)+(c:Int)))<b:=by rw [Int.toNat_sub]at h1;exact Nat.lt_of_lt_of_le (Nat.add_lt_of_lt_sub' h1) (Nat.min_le_right ..)
theorem vK{a:Nat}(h1:a≤(2 ^ 40)):¬(((a:Int)≥((2:Int) ^ 63))):=by lia
theorem wt{a:Nat}:¬(((a:Int)<(-((2:Int) ^ 63)))):=of_decide_eq_false rfl
theorem wr{a:Nat}(h1:a≤1000000):¬(((a:Int)≥((2:Int) ^ 63))):=by lia
theorem wq{a:Nat}(h1:¬(((a:Int)<(1:Int)))):1≤a:=Int.ofNat_le.mp (Int.not_lt.mp h1)
theorem wp{a b:Nat}(h1:(a*1)≤b)(h2:b≤1000000):a≤1000000:=by rw [Nat.mul_one]at h1;exact Nat.le_trans h1 h2
theorem wo{a:Nat}(h1:¬(((a:Int)<(1:Int)))):(0:Int)<(a:Int):=Int.lt_of_lt_of_le (by decide) (Int.not_lt.mp h1)
theorem wn{a:Nat}(h1:a≤1000000):(a:Int)≤(1000000:Int):=Int.ofNat_le.mpr h1
theorem rk{a b:Nat}(h1:a=b)(h2:b<(2 ^ 62)):(a:Int)<((2:Int) ^ 63):=by subst h1;exact Int.ofNat_lt.mpr (Nat.lt_of_lt_of_le h2 (by decide))
theorem wm{a b:Nat}(h1:(a+40)<b):(a+2)<b:=Nat.lt_of_le_of_lt (Nat.add_le_add_left (by decide) a) h1
theorem wl{a:Int}(h1:(a=(-(2:Int)))∨((0:Int)≤a)):a≠(-(1:Int)):=by lia
theorem wk{a b:Nat}(h1:a=5)(h2:b≤100):(a+b)≤105:=by subst h1;exact Nat.add_le_add_left h2 5
theorem wj{a:Int}(h1:(a=(-(2:Int)))∨((0:Int)≤a))(h2:a<(0:Int)):a=(-(2:Int)):=by lia
theorem qg{a:Nat}(h1:a≤100):a≤1000:=Nat.le_trans h1 (Nat.le_add_left ..)
theorem vJ{a:Nat}(h1:a≤105):a≤1000:=Nat.le_trans h1 (Nat.le_add_left ..)
theorem rj{a b:Nat}(h1:a≤105)(h2:b≤100):(a+b)≤1000:=Nat.le_trans (Nat.add_le_add h1 h2) (by decide)
theorem wi{a:Int}(h1:(0:Int)≤a):a≠(-(2:Int)):=by lia
theorem wh{a b:Nat}(h1:b<a):(((a:Int)-(1:Int))-(b:Int))=((((a-1)-b):Nat):Int):=by rw [Int.ofNat_sub (Nat.le_sub_one_of_lt h1),Int.ofNat_sub (Nat.one_le_of_lt h1)];rfl
theorem wg{a b:Nat}(h1:(((a:Int)-(1:Int))-(b:Int))=((((a-1)-b):Nat):Int)):((a-1)-b)<a:=by omega
theorem wf{a b:Nat}(h1:(((a:Int)-(1:Int))-(b:Int))=((((a-1)-b):Nat):Int)):(((((a-1)-b):Nat):Int)-(1:Int))=(((a:Int)-(1:Int))-(((b+1):Nat):Int)):=by grind
theorem we{a:Nat}:(((a:Int)-(1:Int))-(a:Int))=(-(1:Int)):=(fun {b a c} =>Int.sub_eq_iff_eq_add'.mpr) rfl
theorem vI{a b:Nat}(h1:(a+64)<b):(a+1)<b:=by lia
theorem wd{a b:Nat}(h1:a<b)(h2:b≤1000000):(a:Int)<(((2:Int) ^ 63)-(1:Int)):=by lia
theorem rv{a b c:Nat}(h1:a<c)(h2:c<b):a<b:=Nat.lt_trans h1 h2
theorem wc{a:Nat}:(((((a:Int)-(0:Int))-(1:Int))/(1:Int))+(1:Int))=(a:Int):=by lia
theorem wb{a:Nat}(h1:¬(((0:Int)<(a:Int)))):(0:Int)=(a:Int):=by lia
theorem wa{a:Nat}(h1:a≤1000000):((a:Int)<(9223372036854775808:Int))∧((a=0)∨((a:Int)<(9223372036854775808:Int))):=have h:(a:Int)<9223372036854775808:=Int.ofNat_lt.mpr (Nat.lt_of_le_of_lt h1 (by decide));⟨h,.inr h⟩
theorem vZ{a b:Nat}(h1:b<a):(0:Int)<((a:Int)-(b:Int)):=by lia
theorem ve{a:Nat}:((a:Int)+(1:Int))=(((a+1):Nat):Int):=by rfl
theorem vd{a b:Nat}:(((a:Int)-(b:Int))-(1:Int))=((a:Int)-(((b+1):Nat):Int)):=by lia
theorem uZ{a:Nat}:((a:Int)-(a:Int))≤(0:Int):=by lia
theorem uY{a b c:Nat}(h1:a≤c)(h2:b=4096)(h3:c≤1000):a<b:=by subst h2;exact Nat.lt_of_le_of_lt (Nat.le_trans h1 h3) (by decide)
theorem lD{a:Nat}(h1:a≤900):a≤1000:=Nat.le_trans h1 (Nat.le_add_left ..)
theorem uX{a b c:Nat}(h1:a≤c)(h2:b=4096)(h3:c≤900):(a+1)<b:=by subst h2;exact Nat.lt_of_le_of_lt (Nat.succ_le_succ (Nat.le_trans h1 h3)) (by decide)
theorem pw{a b:Nat}(h1:a≤b):a≤(b+1):=Nat.le_succ_of_le h1
theorem uW{a b:Nat}(h1:a≤b):(a+1)≤(b+1):=Nat.succ_le_succ h1
theorem uV{a:Nat}(h1:0<a):¬((a=0)):=Nat.ne_of_gt h1
theorem qE{a b c:Nat}(h1:a=c)(h2:c≤b):a≤b:=Nat.le_trans (Nat.le_of_eq h1) h2
theorem m6{a:Nat}:(0:Int)≤(a:Int):=Int.natCast_nonneg _
theorem uU{a:Nat}(h1:a<(2 ^ 63)):(a:Int)<((2:Int) ^ 63):=Int.ofNat_lt.mpr h1
theorem uT:(-(1:Int))<(0:Int):=Int.natCast_nonneg _
theorem uS{a b:Nat}(h1:a=(b+1)):(-(a:Int))≤(-(1:Int)):=by lia
theorem uR:(-((2:Int) ^ 63))≤(-(1:Int)):=Int.natCast_nonneg _
theorem uQ{a b:Nat}(h1:a=(b+1)):(Int.toNat ((-(1:Int))+(a:Int)))=b:=by subst h1;rw [Int.natCast_add,Int.add_comm (b:Int)];exact congrArg Int.toNat (Int.neg_add_cancel_left 1 b)
theorem uP{a:Nat}:(-((2:Int) ^ 63))≤(a:Int):=Int.natCast_nonneg _
theorem uO{a:Nat}(h1:a<(2 ^ 62)):(a:Int)<((2:Int) ^ 63):=Int.ofNat_lt.mpr (Nat.lt_of_lt_of_le h1 (by decide))
theorem uN{a b c:Nat}(h1:a<c)(h2:b=c):(a:Int)<(b:Int):=by subst h2;exact Int.ofNat_lt.mpr h1
theorem uM{a:Nat}(h1:a<(2 ^ 62)):(a:Int)<(9223372036854775808:Int):=Int.ofNat_lt.mpr (Nat.lt_of_lt_of_le h1 (by decide))
theorem uL{a b:Nat}(h1:a<b):(a:Int)<(b:Int):=Int.ofNat_lt.mpr h1
theorem uK{a:Nat}:((0:Int)=(max (0:Int) (min (0:Int) (a:Int))))∧((a:Int)=(max (0:Int) (min (if ((a:Int)<(0:Int))then((a:Int)+(a:Int))else(a:Int)) (a:Int)))):=⟨by rw [Int.min_eq_left (Int.natCast_nonneg a)];rfl,by rw [if_neg (Int.not_lt.mpr (Int.natCast_nonneg a)),Int.min_self,Int.max_eq_right (Int.natCast_nonneg a)]⟩
theorem uJ{a:Nat}:(0:Int)=(max (0:Int) (min (0:Int) (a:Int))):=by rfl
theorem uI{a:Nat}:(a:Int)=(max (0:Int) (min (if ((a:Int)<(0:Int))then((a:Int)+(a:Int))else(a:Int)) (a:Int))):=by rw [if_neg (Int.not_lt.mpr (Int.natCast_nonneg a)),Int.min_self,Int.max_eq_right (Int.natCast_nonneg a)]
theorem uH{a b c d:Nat}(h1:a≤c)(h2:b=d)(h3:c≤d):a≤b:=by lia
theorem uG{a b c:Nat}(h1:a=c)(h2:c<b):a<b:=h1▸h2
theorem qD{a b:Nat}(h1:(a+b)≤8)(h2:9≤(0+a)):False:=by lia
theorem qC{a b c:Nat}(h1:0<c)(h2:9≤((a+1)+b)):9≤(a+(b+c)):=by lia
theorem uF{a:Nat}:((((a+1):Nat):Int)-(1:Int))=(a:Int):=by lia
theorem uE{a:Nat}(h1:a=0):(a:Int)=(0:Int):=congrArg _ h1
theorem uC{a:Nat}(h1:¬((a=0))):¬(((a:Int)=(0:Int))):=by lia
theorem pv{a b:Nat}(h1:(a+1)=(b+1)):a=b:=Nat.succ.inj h1
theorem pt{a:Int}(h1:a<(8:Int)):(Int.toNat a)<8:=(Int.toNat_lt' (by decide)).mpr h1
theorem uB{a:Nat}{b:Int}(h1:(0:Int)≤b):(((a:Int)*(16:Int))+b)=((((a*16)+(Int.toNat b)):Nat):Int):=by rw [Int.natCast_add,Int.natCast_mul,Int.toNat_of_nonneg h1];rfl
theorem uA{a b c:Nat}(h1:a<c)(h2:b<16):((a*16)+b)<(c*16):=Nat.lt_of_lt_of_le (Nat.add_lt_add_left h2 (a*16)) (Nat.succ_mul a 16▸Nat.mul_le_mul_right 16 h1)
theorem u9{a b:Nat}:(a+(b+1))=((a+1)+b):=by lia
theorem u8{a b:Nat}(h1:((a*16)+b)=0):a=0:=by lia
theorem u7{a b:Nat}(h1:((b*16)+a)=0):a=0:=Nat.eq_zero_of_add_eq_zero_left h1
theorem u6{a b:Nat}(h1:b<16):(((a*16)+b)/16)=a:=by rw [Nat.mul_comm,Nat.mul_add_div (by decide),Nat.div_eq_of_lt h1];rfl
theorem u5{a b:Nat}(h1:(((a*16)+b)/16)=a):(((a*16)+b)%16)=b:=by lia
theorem u4{a:Nat}(h1:((((a+1)+1)+1)+1)<4):False:=by lia
theorem u3{a b c:Nat}(h1:a≤2)(h2:b≤(3*(c+1))):((a+b)+1)≤(3*((c+1)+1)):=Nat.le_trans (Nat.succ_le_succ (Nat.add_le_add h1 h2)) (by rw [Nat.mul_succ 3 (c+1),Nat.add_comm 2];exact Nat.le_refl _)
theorem u2{a b c d:Nat}(h1:a≤2)(h2:b≤(3*d))(h3:c≤2)(h4:d≤16):((a+b)+c)≤52:=by lia
theorem qB{a b c:Nat}(h1:a≤3)(h2:b≤(4*c)):((a+1)+b)≤(4*(c+1)):=by rw [Nat.add_comm (a+1),Nat.mul_succ];exact Nat.add_le_add h2 (Nat.succ_le_succ h1)
theorem u1{a b:Nat}(h1:a≤(4*b))(h2:b≤52):a≤1000000:=by lia
theorem u0{a b c:Nat}(h1:a≤b)(h2:b≤(4*c))(h3:c≤52):a≤1000000:=by lia
theorem uz{a:Nat}(h1:a≤52):a≤1000:=Nat.le_trans h1 (Nat.le_add_left ..)
theorem ps{a:Nat}(h1:a≤16):a≤1000:=Nat.le_trans h1 (Nat.le_add_left ..)
theorem uy{a:Nat}(h1:a≤100):a≤100000:=Nat.le_trans h1 (Nat.le_add_left ..)
theorem ux{a b:Nat}(h1:((a+1)+b)=(0+1))(h2:0<a):False:=by lia
theorem uv{a b c:Nat}(h1:b≤8)(h2:c≤(0+8)):((min (a+1) b)+c)≤16:=Nat.add_le_add (Nat.le_trans (Nat.min_le_right _ b) h1) h2
theorem uu{a b:Nat}(h1:a≤(4*b))(h2:b≤16):a≤100:=by lia
theorem ut{a:Nat}(h1:(0+1)≤a):((a-1)+1)≤a:=Nat.le_of_eq (Nat.sub_add_cancel h1)
theorem ur{a:Nat}(h1:((a-1)+1)≤a):(0+1)≤a:=Nat.lt_of_le_of_lt (Nat.le_add_left ..) h1
theorem uq{a b:Nat}(h1:(a-b)=0)(h2:¬((a<b))):(a:Int)=(b:Int):=by grind
theorem uo{a:Nat}:(Int.toNat ((a:Int)+(1:Int)))=(a+1):=by rfl
theorem un{a:Nat}(h1:(a+1)≤8)(h2:9≤(0+(a+1))):False:=by lia
theorem um{a b:Nat}(h1:a<(b+1)):a≤b:=Nat.le_of_lt_succ h1
theorem ul{a b:Nat}(h1:9≤((a+1)+(b+1))):9≤(a+((b+1)+1)):=by lia
theorem uk:9≤(8+(0+1)):=Nat.le_refl _
theorem uj{a b:Nat}(h1:a≤b):a<(b+1):=Nat.succ_le_succ h1
theorem ui{a:Nat}:a<(a+1):=Nat.lt_succ_self _
theorem uh{a b:Nat}(h1:(a+1)≤b):a<(b+1):=Nat.le_succ_of_le h1
theorem ug{a b:Nat}(h1:(a+1)≤b)(h2:b=a):False:=by lia
theorem uf{a b:Nat}(h1:a≤(b+1))(h2:b≤900):a≤1000:=by lia
theorem ue{a b:Nat}(h1:a=b)(h2:b<(2 ^ 62)):¬(((a:Int)≥((2:Int) ^ 63))):=by subst h1;exact Int.not_le.mpr (Int.ofNat_lt.mpr (Nat.lt_of_lt_of_le h2 (by decide)))
theorem qA{a:Nat}(h1:((a+1)+1)<2):False:=by lia
theorem ud{a:Nat}(h1:a≤16):(a+1)≤100000:=Nat.lt_of_le_of_lt h1 (by decide)
theorem uc{a:Nat}(h1:a≤16):(a+1)≤1000:=Nat.lt_of_le_of_lt h1 (by decide)
theorem q9{a b:Nat}(h1:b≤16):(min a b)≤16:=Nat.le_trans (Nat.min_le_right ..) h1
theorem ua{a b:Nat}(h1:a<b)(h2:b≤16):a<(2 ^ 63):=Nat.lt_of_lt_of_le h1 (Nat.le_trans h2 (by decide))
theorem tZ{a:Nat}(h1:a≤16):a≤100000:=Nat.le_trans h1 (Nat.le_add_left ..)
theorem q8{a b:Nat}(h1:a<b):a≤b:=Nat.le_of_lt h1
theorem tY{a b:Nat}(h1:(a+b)≤100):(a+b)≤100000:=Nat.le_trans h1 (Nat.le_add_left ..)
theorem tX{a b:Nat}:(((a:Int)+(1:Int))+(b:Int))=((a:Int)+((b:Int)+(1:Int))):=by lia
theorem pq{a b:Nat}(h1:((a+1)+b)=9):a≤1000:=by lia
theorem tW{a b:Nat}(h1:((a+1)+b)=9):a≤900:=by lia
theorem tV{a b c:Nat}(h1:((b+1)+c)=9)(h2:a=b):a≤1000:=by lia
theorem tU{a b:Nat}(h1:((a+1)+b)=9):a<(2 ^ 62):=by lia
theorem tT{a b:Nat}(h1:((a+1)+b)=9):(a+1)<(2 ^ 62):=by lia
theorem tS{a b:Nat}(h1:((b+1)+a)=9)(h2:(b+1)≤8):a=((a-1)+1):=(Nat.sub_one_add_one fun e=>by subst e;exact absurd h1 (Nat.ne_of_lt (Nat.lt_succ_of_le h2))).symm
theorem tR{a:Nat}:0<((a+1)+1):=Nat.succ_pos _
theorem tQ{a:Nat}:(a+1)<((a+1)+1):=Nat.lt_succ_self _
theorem tP{a b:Nat}(h1:((a+1)+(b+1))=9):(((a+1)+1)+b)=9:=by lia
theorem pp{a:Nat}(h1:a≤9):a≤1000:=Nat.le_trans h1 (Nat.le_add_left ..)
theorem q6{a b:Nat}(h1:a≤9):a≤(999+b):=by lia
theorem tO{a b c d:Nat}(h1:a≤(d+c))(h2:d≤(b+1)):a≤(b+(c+1)):=by lia
theorem tN{a b c:Nat}(h1:(b+c)≤900)(h2:a=c):a≤1000:=by lia
theorem tM{a b:Nat}(h1:a<b):(min a b)=a:=by lia
theorem tK:¬((0=1)):=by decide
theorem tJ{a b c d:Nat}(h1:(b+c)≤900)(h2:a≤(b+d))(h3:d<c):a≤1000:=by lia
theorem q5:¬(((0+1)=0)):=by decide
theorem tI{a:Int}{b:Nat}:((a+(b:Int))+(1:Int))=(a+(((b+1):Nat):Int)):=by lia
theorem tH{a b:Nat}(h1:0<b)(h2:a≤(b-1)):(a+1)≤b:=Nat.add_le_of_le_sub h1 h2
theorem tG{a:Nat}(h1:(a+1)≤8):(a+1)≤1000:=Nat.le_trans h1 (Nat.le_add_left ..)
theorem tF{a b:Nat}(h1:(b+1)≤8)(h2:(b+a)=8):a=((a-1)+1):=(Nat.sub_one_add_one fun e=>by subst e;exact absurd h2 (Nat.ne_of_lt h1)).symm
theorem q0{a b:Nat}(h1:(a+(b+1))=8):((a+1)+b)=8:=by lia
theorem tE{a b c:Nat}(h1:a<c)(h2:c≤8):(min a b)≤16:=by grind
theorem ii{a:Nat}(h1:a≤100):a≤1000000:=Nat.le_trans h1 (Nat.le_add_left ..)
theorem tD{a b c:Nat}(h1:a<c)(h2:c≤8):(min a b)≤1000:=Nat.le_trans (Nat.min_le_left a b) (Nat.le_trans (Nat.le_of_lt h1) (Nat.le_trans h2 (by decide)))
theorem tC{a b c d:Nat}(h1:a=d)(h2:c≤8)(h3:d≤8):(a+(min b c))≤100:=by subst h1;exact Nat.le_trans (Nat.add_le_add h3 (Nat.le_trans (Nat.min_le_right b c) h2)) (by decide)
theorem qz{a:Nat}(h1:¬((a=0))):(a/16)<a:=Nat.div_lt_self (Nat.pos_of_ne_zero h1) (by decide)
theorem qy{a b:Nat}(h1:a<(b*16)):(a/16)<b:=Nat.div_lt_of_lt_mul (by rw [Nat.mul_comm];exact h1)
theorem pn{a b:Nat}(h1:a≤b):a≤b:=h1
theorem tB{a b c:Nat}(h1:(b+(a+1))=c)(h2:c≤40):a≤40:=by subst h1;exact Nat.le_trans (Nat.le_trans (Nat.le_succ a) (Nat.le_add_left _ b)) h2
theorem tA{a:Nat}(h1:a≤40):(1+a)≤1000000:=Nat.le_trans (Nat.add_le_add_left h1 _) (by decide)
theorem ig{a b:Nat}(h1:a<8)(h2:b=8):a<b:=Nat.lt_of_lt_of_eq h1 h2.symm
theorem t9{a b:Nat}(h1:a=8)(h2:¬((b<8))):a≤b:=by subst h1;exact Nat.not_lt.mp h2
theorem t6{a:Nat}(h1:(((((((((a+1)+1)+1)+1)+1)+1)+1)+1)+1)<9):False:=by lia
theorem m5{a:Nat}(h1:a<8):a<(2 ^ 63):=Nat.le_trans h1 (Nat.le_add_left ..)
theorem t5{a:Nat}(h1:a≤1000):a≤100000:=Nat.le_trans h1 (Nat.le_add_left ..)
theorem tz{a:Nat}(h1:a=8):a≤8:=Nat.le_of_eq h1
theorem qx{a:Int}(h1:(0:Int)≤a):a=(((Int.toNat a):Nat):Int):=by lia
theorem qw{a:Nat}(h1:a<8):a<(2 ^ 62):=Nat.le_trans h1 (Nat.le_add_left ..)
theorem qv{a:Int}(h1:(Int.toNat a)<8):(Int.toNat a)≤8:=Nat.le_of_lt h1
theorem ty{a:Nat}(h1:a<8):a≤8:=Nat.le_of_lt h1
theorem tw{a:Nat}:((8-a)+(min a 8))≤1000:=Nat.le_trans (Nat.le_of_eq (by rw [Nat.min_comm];exact Nat.sub_add_min_cancel 8 a)) (by decide:8≤1000)
theorem tq{a:Nat}:((8-a)+(min a 8))=8:=by rw [Nat.min_comm];exact Nat.sub_add_min_cancel 8 a
theorem to{a b:Nat}(h1:((a+3)+8)<b):(a+3)<b:=Nat.lt_of_le_of_lt (Nat.le_add_right ..) h1
theorem tm:(Int.natAbs (8:Int))<1073741824:=Nat.le_add_left ..
theorem qu{a:Nat}(h1:a≤8):a≤16:=Nat.le_trans h1 (Nat.le_add_left ..)
theorem tj{a:Nat}:(-(1:Int))≤(a:Int):=Int.natCast_nonneg _
theorem ti:(-(1:Int))≤(-(1:Int)):=Int.natCast_nonneg _
theorem th{a:Int}(h1:(-(1:Int))≤a):(a+(1:Int))=(((Int.toNat (a+(1:Int))):Nat):Int):=(Int.toNat_of_nonneg (Int.add_le_add_right h1 1)).symm
theorem lC{a b c:Nat}(h1:a≤c)(h2:c≤b):a≤b:=Nat.le_trans h1 h2
theorem qt{a b:Nat}(h1:a≤b)(h2:b≤1000000):(1*a)≤1000000:=by lia
theorem qr{a b:Nat}(h1:a≤b)(h2:b≤1000000):a≤1000000:=Nat.le_trans h1 h2
theorem qq{a:Nat}:a≤(a+1):=Nat.le_succ _
theorem pk{a:Nat}:a≤((a+1)+1):=by lia
theorem tg{a b c:Nat}(h1:a≤(min b c))(h2:c≤1000):a≤1000:=Nat.le_trans h1 (Nat.le_trans (Nat.min_le_right b c) h2)
theorem tf{a b:Nat}(h1:1000≤b)(h2:a≤1000):a≤b:=Nat.le_trans h2 h1
theorem te{a b c d:Nat}(h1:(a+c)=d)(h2:d≤b):a≤b:=Nat.le_trans (Nat.le_add_right ..) (Nat.le_trans (Nat.le_of_eq h1) h2)
theorem qp{a:Nat}(h1:a≤1000):a<(2 ^ 62):=Nat.lt_of_le_of_lt h1 (by decide)
theorem tc{a b c:Nat}(h1:1000≤b)(h2:c=(a+1))(h3:c≤1000):(a+1)≤b:=by lia
theorem ta{a b c d:Nat}(h1:(a+b)=d)(h2:d≤c):(a+b)≤c:=Nat.le_trans (Nat.le_of_eq h1) h2
theorem sZ{a b c:Nat}(h1:(b+c)=a)(h2:b≠0):a≠0:=by lia
theorem sY(h1:(0+1)=0):False:=absurd h1 (by decide)
theorem sX{a b c:Nat}(h1:2000001≤c)(h2:a≤1000000)(h3:b≤1000000):(a+b)≤c:=by lia
theorem sW{a b:Nat}(h1:2000001≤b)(h2:a≤1000000):(1+a)≤b:=by lia
theorem sV{a b c:Nat}(h1:2000001≤c)(h2:a≤1000000)(h3:b≤1000000):(a+(1+b))≤c:=by lia
theorem sU{a b:Nat}(h1:(a+b)≤8)(h2:0<b)(h3:9≤(1+a)):False:=by lia
theorem nV{a:Nat}(h1:a≤8):a≤900:=Nat.le_trans h1 (Nat.le_add_left ..)
theorem sT{a:Nat}(h1:(a+(20*17))<9000):((a+3)+64)<9000:=by lia
theorem sS{a b c:Nat}(h1:a<c)(h2:c=b):a≤b:=by subst h2;exact Nat.le_of_lt h1
theorem pj{a b:Nat}(h1:(b+a)≤8):a≤900:=Nat.le_trans (Nat.le_add_left ..) (Nat.le_trans h1 (by decide))
theorem qo{a b:Nat}(h1:(b+a)≤8):a≤1000:=Nat.le_trans (Nat.le_add_left ..) (Nat.le_trans h1 (by decide))
theorem sR{a b:Nat}(h1:0<b):(a:Int)<((a:Int)+(b:Int)):=by lia
theorem sQ{a b:Nat}(h1:(a+b)≤8):(a+b)≤1000:=Nat.le_trans h1 (Nat.le_add_left ..)
theorem sP{a:Nat}:¬(((a:Int)=(-(2:Int)))):=not_eq_of_beq_eq_false rfl
theorem sO{a b:Nat}(h1:a=6)(h2:b≤3):(a+b)≤20:=by lia
theorem sM{a b:Nat}(h1:a≤20)(h2:b=2):(a+b)≤30:=by lia
theorem sL{a b:Nat}(h1:(a+b)≤20):(a+b)≤1000:=Nat.le_trans h1 (Nat.le_add_left ..)
theorem sK{a b:Nat}(h1:(a+b)≤30):(a+b)≤1000:=Nat.le_trans h1 (Nat.le_add_left ..)
theorem sJ{a b:Nat}(h1:a≤30)(h2:b≤100):(a+b)≤1000:=Nat.le_trans (Nat.add_le_add h1 h2) (by decide)
theorem sI{a b:Nat}(h1:a≤9):((a-b)+1)<4611686018427387904:=Nat.lt_of_le_of_lt (Nat.succ_le_succ (Nat.le_trans (Nat.sub_le a b) h1)) (by decide)
theorem sH{a b:Nat}(h1:a≤8)(h2:¬((b=0))):(a-b)≤7:=Nat.le_trans (Nat.sub_le_sub_left (Nat.pos_of_ne_zero h2) a) (Nat.sub_le_sub_right h1 1)
theorem sF{a:Nat}(h1:a≤7):a<(2 ^ 62):=Nat.lt_of_le_of_lt h1 (by decide)
theorem sE{a:Nat}(h1:a≤7):(a:Int)<(9:Int):=Int.ofNat_lt.mpr (Nat.lt_of_le_of_lt h1 (by decide))
theorem sD{a:Nat}(h1:¬((a=0))):a=((a-1)+1):=Eq.symm (Nat.succ_pred_eq_of_ne_zero h1)
theorem nU{a b:Nat}(h1:(a+1)≤b):a<b:=h1
theorem sC{a b:Nat}(h1:b≤8):(min (a+1) b)≤16:=Nat.le_trans (Nat.min_le_right ..) (Nat.le_trans h1 (by decide))
theorem sB{a:Nat}(h1:a≤7):(1+a)≤1000:=Nat.le_trans (Nat.add_le_add_left h1 _) (by decide)
theorem sA{a b:Nat}(h1:a=b)(h2:b≤8):a<64:=by subst h1;exact Nat.lt_of_le_of_lt h2 (by decide)
theorem iY{a:Nat}(h1:a≤8):a≤1000:=Nat.le_trans h1 (Nat.le_add_left ..)
theorem s9{a b:Nat}(h1:a=b)(h2:b≤8):a≤16:=Nat.le_trans (Nat.le_of_eq h1) (Nat.le_trans h2 (by decide))
theorem s8{a b c:Nat}(h1:a≤8)(h2:b≤c)(h3:c≤8):(a+b)≤1000:=by lia
theorem qn{a:Nat}(h1:a≤900):a<(2 ^ 62):=Nat.lt_of_le_of_lt h1 (by decide)
theorem s7{a:Nat}(h1:(a+(20*13))<9000):(a+40)<9000:=by lia
theorem s6{a b:Nat}:a≤(a+(b+1)):=Nat.le_add_right ..
theorem ql{a b c:Nat}(h1:a≤((b+1)+c)):a≤(b+(c+1)):=by lia
theorem s5{a:Nat}(h1:a≤9):a≤1000000:=Nat.le_trans h1 (Nat.le_add_left ..)
theorem s4{a b c d:Nat}(h1:a≤(((b+d)+1)+(1001*c)))(h2:d≤1000):a≤(b+(1001*(c+1))):=by lia
theorem sy{a b c:Nat}(h1:1001000≤b)(h2:a≤(0+(1001*c)))(h3:c≤1000):a≤b:=by lia
theorem sx{a b c:Nat}(h1:a≤(b+(c*1)))(h2:b≤(1000*c))(h3:c≤100):a≤100100:=by lia
theorem sw{a b:Nat}(h1:(a+(b+1))=8):(1+a)≤1000:=by lia
theorem m0{a:Nat}(h1:a≤8):a≤1000000:=Nat.le_trans h1 (Nat.le_add_left ..)
theorem sv{a:Nat}(h1:a≤16):a≤100:=Nat.le_trans h1 (Nat.le_add_left ..)
theorem qk{a:Nat}(h1:a≤8):a<(2 ^ 62):=Nat.lt_of_le_of_lt h1 (by decide)
theorem su{a b:Nat}(h1:(a+(b+1))=9):a≤1000:=by lia
theorem ss{a b c:Nat}(h1:(a+(8*(c+1)))≤72)(h2:b≤8):(a+b)≤1000:=by lia
theorem pi{a b:Nat}(h1:a<b)(h2:b≤8):a<(2 ^ 63):=Nat.lt_of_lt_of_le h1 (Nat.le_trans h2 (by decide))
theorem sq{a b:Nat}(h1:a≤b)(h2:b≤8):a<(2 ^ 62):=Nat.lt_of_le_of_lt h1 (Nat.lt_of_le_of_lt h2 (by decide))
theorem so{a b c:Nat}(h1:a≤b)(h2:b<c)(h3:c≤8):a≤1000:=Nat.le_trans h1 (Nat.le_trans (Nat.le_of_lt h2) (Nat.le_trans h3 (by decide)))
theorem sm{a b c:Nat}(h1:(a+(8*(c+1)))≤72)(h2:b≤8):((a+b)+(8*c))≤72:=by lia
theorem sk{a b:Nat}(h1:(a+(b+1))=9):((a+1)+b)=9:=by lia
theorem ph{a:Nat}:a≤((((a+1)+1)+1)+1):=by lia
theorem sj{a b:Nat}(h1:((((a+1)+1)+1)+1)≤b):a<b:=Nat.lt_of_le_of_lt (Nat.le_add_right ..) h1
theorem si{a b:Nat}(h1:((((a+1)+1)+1)+1)≤b):(a+1)<b:=by lia
theorem sh{a b:Nat}(h1:((((a+1)+1)+1)+1)≤b):((a+1)+1)<b:=Nat.le_of_lt h1
theorem sg{a:Nat}:a≤(((a+1)+1)+1):=by lia
theorem sf{a b:Nat}(h1:((((a+1)+1)+1)+1)≤b):(((a+1)+1)+1)<b:=h1
theorem sd{a:Nat}(h1:a<4):(a:Int)<((2:Int) ^ 63):=Int.ofNat_lt.mpr (Nat.lt_of_lt_of_le h1 (by decide))
theorem sb{a:Int}(h1:(0:Int)≤a)(h2:a<(4:Int)):(a=(((Int.toNat a):Nat):Int))∧((Int.toNat a)<4):=⟨(Int.toNat_of_nonneg h1).symm,(Int.toNat_lt h1).mpr h2⟩
theorem rZ:(Int.natAbs (4:Int))<1073741824:=Nat.le_add_left ..
theorem rY:(Int.natAbs (16:Int))<1073741824:=Nat.le_add_left ..
theorem rX{a b c d e f g:Nat}(h1:((a+d)+e)=((a+f)+g)):((a+((b+c)+d))+(e+1))=((a+(((0+1)+c)+f))+(g+b)):=by lia
theorem qi{a b c:Nat}(h1:a≤c):a≤(b+c):=Nat.le_trans h1 (Nat.le_add_left ..)
theorem rW{a b c d e f:Nat}(h1:(a+e)=(b+f))(h2:f≤c):a≤(b+(c+d)):=by lia
theorem rV{a:Nat}(h1:(a+5)<900):a<1000:=Nat.lt_of_le_of_lt (Nat.le_add_right ..) (Nat.lt_of_lt_of_le h1 (by decide))
theorem rU{a:Nat}(h1:a≤1000):(a+1)≤1001:=Nat.succ_le_succ h1
theorem rT{a b:Nat}(h1:(b+1)≤a):a≠0:=Nat.ne_zero_of_lt h1
theorem rS{a b:Nat}(h1:(b+2)≤a):a≠0:=Nat.ne_zero_of_lt h1
theorem rR{a b c d e:Nat}(h1:(c+1)≤a)(h2:(d+1)≤e)(h3:b<d)(h4:e<c):a≠b:=by lia
theorem rQ{a b:Nat}(h1:a≤1000)(h2:b≤(1001*6)):(a+b)≤16777216:=Nat.le_trans (Nat.add_le_add h1 h2) (by decide)
theorem rP{a b c d e:Nat}(h1:a≤6)(h2:c≤6)(h3:d≤1000)(h4:b≤(d+e))(h5:e≤(1001*6)):((a+b)+c)≤100000:=by lia
theorem rO{a b c d:Nat}(h1:a≤6)(h2:b≤(c+d))(h3:c≤1000)(h4:d≤(1001*6)):(a+b)≤100000:=by lia
theorem zq306{a b:Nat}(h1:a=b)(h2:¬((((63:Nat):Int)<(b:Int)))):a≤1000:=by lia
theorem rN{a:Nat}(h1:(a/16)=0)(h2:¬((a=0))):(a%16)≠0:=by lia
theorem rM{a:Nat}(h1:¬(((a/16)=0))):(a/16)<a:=Nat.div_lt_self (Nat.pos_of_ne_zero fun e=>h1 (by subst e;rfl)) (by decide)
theorem rL{a b:Nat}(h1:0<a):(a+b)≠0:=by lia
theorem rK{a b:Nat}:(((a*16)+b)/16)=(a+(b/16)):=by rw [Nat.mul_comm,Nat.mul_add_div (by decide)]
theorem rJ{a b:Nat}:(((a*16)+b)%16)=(b%16):=Nat.mul_add_mod' a 16 b
theorem rI{a b:Nat}:((a+1)-(b+1))=(a-b):=by lia
theorem rH{a b c d e:Nat}(h1:a≤(((b+d)+e)+(1010*c)))(h2:d≤1000)(h3:e≤10):a≤(b+(1010*(c+1))):=by lia
theorem rG{a b c:Nat}(h1:1010000≤b)(h2:a≤(0+(1010*c)))(h3:c≤1000):¬((a>b)):=by lia
theorem rF{a:Nat}(h1:a<(16 ^ 8)):(Int.natAbs (a:Int))<(16 ^ 40):=Nat.le_trans h1 (Nat.le_add_left ..)
theorem rE{a:Nat}(h1:a<(16 ^ 8)):(Int.natAbs (-(a:Int)))<(16 ^ 40):=by rw [Int.natAbs_neg];exact Nat.lt_of_lt_of_le h1 (by decide)
theorem rD{a:Nat}:(Int.natAbs (-(a:Int)))=a:=Int.natAbs_neg a
theorem rC{a:Int}{b:Nat}(h1:a=(18446744073709551616:Int)):(((15:Int)*a)+(b:Int))=((((15*(16 ^ 16))+b):Nat):Int):=by lia
theorem rB{a:Nat}(h1:a<(16 ^ 8)):(Int.natAbs ((((15*(16 ^ 16))+a):Nat):Int))<(16 ^ 40):=Nat.le_trans (Nat.add_le_add_left h1 _) (by decide)
theorem rA{a:Nat}(h1:a<(16 ^ 8)):a<(16 ^ 16):=Nat.le_trans h1 (Nat.le_add_left ..)
theorem r9{a:Nat}(h1:a≤8):(-(1000000:Int))≤((16:Int)-(a:Int)):=by lia
theorem r8{a:Nat}:((16:Int)-(a:Int))≤(1000000:Int):=by lia
theorem r7{a:Nat}:(Int.toNat ((16:Int)-(a:Int)))=(16-a):=Int.toNat_sub 16 a
theorem r6{a:Nat}:(1+(16-a))≤1000000:=Nat.le_trans (Nat.add_le_add_left (Nat.sub_le 16 a) 1) (by decide)
theorem r5{a:Nat}(h1:a≤8):(((16-a)+1)+a)≤1000000:=Nat.le_trans (Nat.add_le_add (Nat.succ_le_succ (Nat.sub_le 16 a)) h1) (by decide)
theorem r4{a:Nat}(h1:a≤8):((8:Int)-(a:Int))=(((8-a):Nat):Int):=(Int.ofNat_sub h1).symm
theorem r3{a:Nat}:(1*(8-a))≤1000000:=by omega
theorem rz{a:Nat}:(8-a)≤1000000:=Nat.le_trans (Nat.sub_le 8 a) (by decide)
theorem qh{a:Nat}(h1:((8:Int)-(a:Int))=(((8-a):Nat):Int)):a≤1000:=by lia
theorem ry{a:Nat}:(1+a)=(a+1):=Nat.add_comm ..
theorem rx{a:Nat}(h1:((8:Int)-(a:Int))=(((8-a):Nat):Int)):((8-a)+a)≤100000:=by lia
end Mine
end
section
namespace Mine
section
variable {A B C D G H I J K L M N O P Q R S:Type}{p:Prop}
theorem vY{a1 a2:Prop}(h:a1∧a2)(k:a1→a2→p):p:=by
 obtain⟨h1,t⟩:=h;exact k h1 t
theorem gD{a1 a2:Prop}(k:a1→a2→p)(h:a1∧a2):p:=vY h k
theorem aE{a1 a2 a3:Prop}(h:a1∧a2∧a3)(k:a1→a2→a3→p):p:=by
 obtain⟨h1,h2,t⟩:=h;exact k h1 h2 t
theorem pN{a1 a2 a3:Prop}(k:a1→a2→a3→p)(h:a1∧a2∧a3):p:=aE h k
theorem vD{a1:Prop}{a2:A→Prop}(h:a1∧ ∃ x,a2 x)(k:a1→ ∀ x,a2 x→p):p:=by
 obtain⟨h1,x,t⟩:=h;exact k h1 x t
theorem ai{a1 a2:A→Prop}(h:∃ x,a1 x∧a2 x)(k:∀ x,a1 x→a2 x→p):p:=by
 obtain⟨x,h1,t⟩:=h;exact k x h1 t
theorem ar{a1 a2:A→Prop}(k:∀ x,a1 x→a2 x→p)(h:∃ x,a1 x∧a2 x):p:=ai h k
theorem jC{a1:A→B→Prop}(h:∃ x y,a1 x y)(k:∀ x y,a1 x y→p):p:=by
 obtain⟨x,y,t⟩:=h;exact k x y t
theorem cL{a1 a2 a3 a4:Prop}(h:a1∧a2∧a3∧a4)(k:a1→a2→a3→a4→p):p:=by
 obtain⟨h1,h2,h3,t⟩:=h;exact k h1 h2 h3 t
theorem qV{a1 a2 a3 a4:Prop}(k:a1→a2→a3→a4→p)(h:a1∧a2∧a3∧a4):p:=cL h k
theorem qW{a1 a2:Prop}{a3:A→Prop}(h:a1∧a2∧ ∃ x,a3 x)(k:a1→a2→ ∀ x,a3 x→p):p:=by
 obtain⟨h1,h2,x,t⟩:=h;exact k h1 h2 x t
theorem lu{a1:Prop}{a2 a3:A→Prop}(h:a1∧ ∃ x,a2 x∧a3 x)(k:a1→ ∀ x,a2 x→a3 x→p):p:=by
 obtain⟨h1,x,h2,t⟩:=h;exact k h1 x h2 t
theorem aR{a1 a2 a3:A→Prop}(h:∃ x,a1 x∧a2 x∧a3 x)(k:∀ x,a1 x→a2 x→a3 x→p):p:=by
 obtain⟨x,h1,h2,t⟩:=h;exact k x h1 h2 t
theorem aK{a1 a2 a3:A→Prop}(k:∀ x,a1 x→a2 x→a3 x→p)(h:∃ x,a1 x∧a2 x∧a3 x):p:=aR h k
theorem b6{a1 a2:A→B→Prop}(h:∃ x y,a1 x y∧a2 x y)(k:∀ x y,a1 x y→a2 x y→p):p:=by
 obtain⟨x,y,h1,t⟩:=h;exact k x y h1 t
theorem oZ{a1 a2:A→B→Prop}(k:∀ x y,a1 x y→a2 x y→p)(h:∃ x y,a1 x y∧a2 x y):p:=b6 h k
theorem aD{a1 a2 a3 a4 a5:Prop}(h:a1∧a2∧a3∧a4∧a5)(k:a1→a2→a3→a4→a5→p):p:=by
 obtain⟨h1,h2,h3,h4,t⟩:=h;exact k h1 h2 h3 h4 t
theorem pQ{a1 a2 a3:Prop}{a4:A→Prop}(h:a1∧a2∧a3∧ ∃ x,a4 x)(k:a1→a2→a3→ ∀ x,a4 x→p):p:=by
 obtain⟨h1,h2,h3,x,t⟩:=h;exact k h1 h2 h3 x t
theorem pP{a1 a2:Prop}{a3 a4:A→Prop}(h:a1∧a2∧ ∃ x,a3 x∧a4 x)(k:a1→a2→ ∀ x,a3 x→a4 x→p):p:=by
 obtain⟨h1,h2,x,h3,t⟩:=h;exact k h1 h2 x h3 t
theorem n7{a1 a2:Prop}{a3:A→B→Prop}(h:a1∧a2∧ ∃ x y,a3 x y)(k:a1→a2→ ∀ x y,a3 x y→p):p:=by
 obtain⟨h1,h2,x,y,t⟩:=h;exact k h1 h2 x y t
theorem iO{a1:Prop}{a2 a3 a4:A→Prop}(h:a1∧ ∃ x,a2 x∧a3 x∧a4 x)(k:a1→ ∀ x,a2 x→a3 x→a4 x→p):p:=by
 obtain⟨h1,x,h2,h3,t⟩:=h;exact k h1 x h2 h3 t
theorem pM{a1:Prop}{a2 a3 a4:A→Prop}(k:a1→ ∀ x,a2 x→a3 x→a4 x→p)(h:a1∧ ∃ x,a2 x∧a3 x∧a4 x):p:=iO h k
theorem cq{a1:Prop}{a2 a3:A→B→Prop}(h:a1∧ ∃ x y,a2 x y∧a3 x y)(k:a1→ ∀ x y,a2 x y→a3 x y→p):p:=by
 obtain⟨h1,x,y,h2,t⟩:=h;exact k h1 x y h2 t
theorem k6{a1:Prop}{a2:A→B→C→Prop}(h:a1∧ ∃ x y z,a2 x y z)(k:a1→ ∀ x y z,a2 x y z→p):p:=by
 obtain⟨h1,x,y,z,t⟩:=h;exact k h1 x y z t
theorem cI{a1 a2 a3 a4:A→Prop}(h:∃ x,a1 x∧a2 x∧a3 x∧a4 x)(k:∀ x,a1 x→a2 x→a3 x→a4 x→p):p:=by
 obtain⟨x,h1,h2,h3,t⟩:=h;exact k x h1 h2 h3 t
theorem pL{a1 a2 a3 a4:A→Prop}(k:∀ x,a1 x→a2 x→a3 x→a4 x→p)(h:∃ x,a1 x∧a2 x∧a3 x∧a4 x):p:=cI h k
theorem pO{a1 a2:A→Prop}{a3:A→B→Prop}(h:∃ x,a1 x∧a2 x∧ ∃ y,a3 x y)(k:∀ x,a1 x→a2 x→ ∀ y,a3 x y→p):p:=by
 obtain⟨x,h1,h2,y,t⟩:=h;exact k x h1 h2 y t
theorem dK{a1:A→Prop}{a2 a3:A→B→Prop}(h:∃ x,a1 x∧ ∃ y,a2 x y∧a3 x y)(k:∀ x,a1 x→ ∀ y,a2 x y→a3 x y→p):p:=by
 obtain⟨x,h1,y,h2,t⟩:=h;exact k x h1 y h2 t
theorem ko{a1:A→Prop}{a2 a3:A→B→Prop}(k:∀ x,a1 x→ ∀ y,a2 x y→a3 x y→p)(h:∃ x,a1 x∧ ∃ y,a2 x y∧a3 x y):p:=dK h k
theorem cH{a1:A→Prop}{a2:A→B→C→Prop}(h:∃ x,a1 x∧ ∃ y z,a2 x y z)(k:∀ x,a1 x→ ∀ y z,a2 x y z→p):p:=by
 obtain⟨x,h1,y,z,t⟩:=h;exact k x h1 y z t
theorem cY{a1 a2 a3:A→B→Prop}(h:∃ x y,a1 x y∧a2 x y∧a3 x y)(k:∀ x y,a1 x y→a2 x y→a3 x y→p):p:=by
 obtain⟨x,y,h1,h2,t⟩:=h;exact k x y h1 h2 t
theorem cV{a1 a2 a3:A→B→Prop}(k:∀ x y,a1 x y→a2 x y→a3 x y→p)(h:∃ x y,a1 x y∧a2 x y∧a3 x y):p:=cY h k
theorem fX{a1 a2:A→B→C→Prop}(h:∃ x y z,a1 x y z∧a2 x y z)(k:∀ x y z,a1 x y z→a2 x y z→p):p:=by
 obtain⟨x,y,z,h1,t⟩:=h;exact k x y z h1 t
theorem bO{a1:A→B→C→D→Prop}(h:∃ x y z u,a1 x y z u)(k:∀ x y z u,a1 x y z u→p):p:=by
 obtain⟨x,y,z,u,t⟩:=h;exact k x y z u t
theorem aW{a1 a2 a3 a4 a5 a6:Prop}(h:a1∧a2∧a3∧a4∧a5∧a6)(k:a1→a2→a3→a4→a5→a6→p):p:=by
 obtain⟨h1,h2,h3,h4,h5,t⟩:=h;exact k h1 h2 h3 h4 h5 t
theorem o5{a1 a2 a3 a4 a5 a6:Prop}(k:a1→a2→a3→a4→a5→a6→p)(h:a1∧a2∧a3∧a4∧a5∧a6):p:=aW h k
theorem lv{a1 a2 a3 a4:Prop}{a5:A→Prop}(h:a1∧a2∧a3∧a4∧ ∃ x,a5 x)(k:a1→a2→a3→a4→ ∀ x,a5 x→p):p:=by
 obtain⟨h1,h2,h3,h4,x,t⟩:=h;exact k h1 h2 h3 h4 x t
theorem iP{a1 a2 a3:Prop}{a4 a5:A→Prop}(h:a1∧a2∧a3∧ ∃ x,a4 x∧a5 x)(k:a1→a2→a3→ ∀ x,a4 x→a5 x→p):p:=by
 obtain⟨h1,h2,h3,x,h4,t⟩:=h;exact k h1 h2 h3 x h4 t
theorem o8{a1 a2:Prop}{a3 a4 a5:A→Prop}(h:a1∧a2∧ ∃ x,a3 x∧a4 x∧a5 x)(k:a1→a2→ ∀ x,a3 x→a4 x→a5 x→p):p:=by
 obtain⟨h1,h2,x,h3,h4,t⟩:=h;exact k h1 h2 x h3 h4 t
theorem o7{a1:Prop}{a2 a3 a4 a5:A→Prop}(h:a1∧ ∃ x,a2 x∧a3 x∧a4 x∧a5 x)(k:a1→ ∀ x,a2 x→a3 x→a4 x→a5 x→p):p:=by
 obtain⟨h1,x,h2,h3,h4,t⟩:=h;exact k h1 x h2 h3 h4 t
theorem iN{a1:Prop}{a2 a3 a4:A→B→Prop}(h:a1∧ ∃ x y,a2 x y∧a3 x y∧a4 x y)(k:a1→ ∀ x y,a2 x y→a3 x y→a4 x y→p):p:=by
 obtain⟨h1,x,y,h2,h3,t⟩:=h;exact k h1 x y h2 h3 t
theorem d6{a1 a2 a3 a4 a5:A→Prop}(h:∃ x,a1 x∧a2 x∧a3 x∧a4 x∧a5 x)(k:∀ x,a1 x→a2 x→a3 x→a4 x→a5 x→p):p:=by
 obtain⟨x,h1,h2,h3,h4,t⟩:=h;exact k x h1 h2 h3 h4 t
theorem ln{a1 a2 a3 a4 a5:A→Prop}(k:∀ x,a1 x→a2 x→a3 x→a4 x→a5 x→p)(h:∃ x,a1 x∧a2 x∧a3 x∧a4 x∧a5 x):p:=d6 h k
theorem lq{a1 a2:A→Prop}{a3 a4:A→B→Prop}(h:∃ x,a1 x∧a2 x∧ ∃ y,a3 x y∧a4 x y)(k:∀ x,a1 x→a2 x→ ∀ y,a3 x y→a4 x y→p):p:=by
 obtain⟨x,h1,h2,y,h3,t⟩:=h;exact k x h1 h2 y h3 t
theorem o6{a1:A→Prop}{a2 a3 a4:A→B→Prop}(h:∃ x,a1 x∧ ∃ y,a2 x y∧a3 x y∧a4 x y)(k:∀ x,a1 x→ ∀ y,a2 x y→a3 x y→a4 x y→p):p:=by
 obtain⟨x,h1,y,h2,h3,t⟩:=h;exact k x h1 y h2 h3 t
theorem fy{a1:A→Prop}{a2 a3 a4:A→B→Prop}(k:∀ x,a1 x→ ∀ y,a2 x y→a3 x y→a4 x y→p)(h:∃ x,a1 x∧ ∃ y,a2 x y∧a3 x y∧a4 x y):p:=o6 h k
theorem bz{a1:A→Prop}{a2 a3:A→B→C→Prop}(h:∃ x,a1 x∧ ∃ y z,a2 x y z∧a3 x y z)(k:∀ x,a1 x→ ∀ y z,a2 x y z→a3 x y z→p):p:=by
 obtain⟨x,h1,y,z,h2,t⟩:=h;exact k x h1 y z h2 t
theorem fz{a1 a2 a3 a4:A→B→Prop}(h:∃ x y,a1 x y∧a2 x y∧a3 x y∧a4 x y)(k:∀ x y,a1 x y→a2 x y→a3 x y→a4 x y→p):p:=by
 obtain⟨x,y,h1,h2,h3,t⟩:=h;exact k x y h1 h2 h3 t
theorem cG{a1 a2 a3 a4:A→B→Prop}(k:∀ x y,a1 x y→a2 x y→a3 x y→a4 x y→p)(h:∃ x y,a1 x y∧a2 x y∧a3 x y∧a4 x y):p:=fz h k
theorem iK{a1 a2 a3:A→B→C→Prop}(h:∃ x y z,a1 x y z∧a2 x y z∧a3 x y z)(k:∀ x y z,a1 x y z→a2 x y z→a3 x y z→p):p:=by
 obtain⟨x,y,z,h1,h2,t⟩:=h;exact k x y z h1 h2 t
theorem lm{a1 a2 a3:A→B→C→Prop}(k:∀ x y z,a1 x y z→a2 x y z→a3 x y z→p)(h:∃ x y z,a1 x y z∧a2 x y z∧a3 x y z):p:=iK h k
theorem c5{a1 a2 a3 a4 a5 a6 a7:Prop}(h:a1∧a2∧a3∧a4∧a5∧a6∧a7)(k:a1→a2→a3→a4→a5→a6→a7→p):p:=
 aD h fun h1 h2 h3 h4 t=>aE t (k h1 h2 h3 h4)
theorem n9{a1 a2 a3 a4 a5:Prop}{a6:A→Prop}(h:a1∧a2∧a3∧a4∧a5∧ ∃ x,a6 x)(k:a1→a2→a3→a4→a5→ ∀ x,a6 x→p):p:=
 aD h fun h1 h2 h3 h4 t=>vD t (k h1 h2 h3 h4)
theorem n8{a1 a2 a3 a4:Prop}{a5 a6:A→Prop}(h:a1∧a2∧a3∧a4∧ ∃ x,a5 x∧a6 x)(k:a1→a2→a3→a4→ ∀ x,a5 x→a6 x→p):p:=
 aD h fun h1 h2 h3 h4 t=>ai t (k h1 h2 h3 h4)
theorem df{a1:Prop}{a2 a3 a4 a5:A→B→Prop}(h:a1∧ ∃ x y,a2 x y∧a3 x y∧a4 x y∧a5 x y)(k:a1→ ∀ x y,a2 x y→a3 x y→a4 x y→a5 x y→p):p:=
 cq h fun h1 x y h2 t=>aE t (k h1 x y h2)
theorem n6{a1:Prop}{a2 a3 a4:A→B→C→Prop}(h:a1∧ ∃ x y z,a2 x y z∧a3 x y z∧a4 x y z)(k:a1→ ∀ x y z,a2 x y z→a3 x y z→a4 x y z→p):p:=
 k6 h fun h1 x y z t=>aE t (k h1 x y z)
theorem ny{a1:Prop}{a2 a3 a4:A→B→C→Prop}(k:a1→ ∀ x y z,a2 x y z→a3 x y z→a4 x y z→p)(h:a1∧ ∃ x y z,a2 x y z∧a3 x y z∧a4 x y z):p:=n6 h k
theorem cz{a1 a2 a3 a4 a5 a6:A→Prop}(h:∃ x,a1 x∧a2 x∧a3 x∧a4 x∧a5 x∧a6 x)(k:∀ x,a1 x→a2 x→a3 x→a4 x→a5 x→a6 x→p):p:=
 cI h fun x h1 h2 h3 t=>aE t (k x h1 h2 h3)
theorem n5{a1:A→Prop}{a2 a3 a4 a5:A→B→Prop}(h:∃ x,a1 x∧ ∃ y,a2 x y∧a3 x y∧a4 x y∧a5 x y)(k:∀ x,a1 x→ ∀ y,a2 x y→a3 x y→a4 x y→a5 x y→p):p:=
 dK h fun x h1 y h2 t=>aE t (k x h1 y h2)
theorem cX{a1:A→Prop}{a2 a3 a4 a5:A→B→Prop}(k:∀ x,a1 x→ ∀ y,a2 x y→a3 x y→a4 x y→a5 x y→p)(h:∃ x,a1 x∧ ∃ y,a2 x y∧a3 x y∧a4 x y∧a5 x y):p:=n5 h k
theorem cZ{a1:A→Prop}{a2 a3 a4:A→B→C→Prop}(h:∃ x,a1 x∧ ∃ y z,a2 x y z∧a3 x y z∧a4 x y z)(k:∀ x,a1 x→ ∀ y z,a2 x y z→a3 x y z→a4 x y z→p):p:=
 cH h fun x h1 y z t=>aE t (k x h1 y z)
theorem jA{a1:A→Prop}{a2 a3 a4:A→B→C→Prop}(k:∀ x,a1 x→ ∀ y z,a2 x y z→a3 x y z→a4 x y z→p)(h:∃ x,a1 x∧ ∃ y z,a2 x y z∧a3 x y z∧a4 x y z):p:=cZ h k
theorem fY{a1 a2 a3 a4 a5:A→B→Prop}(h:∃ x y,a1 x y∧a2 x y∧a3 x y∧a4 x y∧a5 x y)(k:∀ x y,a1 x y→a2 x y→a3 x y→a4 x y→a5 x y→p):p:=
 cY h fun x y h1 h2 t=>aE t (k x y h1 h2)
theorem nw{a1 a2 a3 a4 a5:A→B→Prop}(k:∀ x y,a1 x y→a2 x y→a3 x y→a4 x y→a5 x y→p)(h:∃ x y,a1 x y∧a2 x y∧a3 x y∧a4 x y∧a5 x y):p:=fY h k
theorem nz{a1 a2 a3 a4:A→B→C→Prop}(h:∃ x y z,a1 x y z∧a2 x y z∧a3 x y z∧a4 x y z)(k:∀ x y z,a1 x y z→a2 x y z→a3 x y z→a4 x y z→p):p:=
 fX h fun x y z h1 t=>aE t (k x y z h1)
theorem fS{a1 a2 a3 a4:A→B→C→Prop}(k:∀ x y z,a1 x y z→a2 x y z→a3 x y z→a4 x y z→p)(h:∃ x y z,a1 x y z∧a2 x y z∧a3 x y z∧a4 x y z):p:=nz h k
theorem hZ{a1 a2 a3 a4 a5 a6 a7 a8:Prop}(h:a1∧a2∧a3∧a4∧a5∧a6∧a7∧a8)(k:a1→a2→a3→a4→a5→a6→a7→a8→p):p:=
 aD h fun h1 h2 h3 h4 t=>cL t (k h1 h2 h3 h4)
theorem hW{a1 a2 a3 a4 a5 a6:Prop}{a7:A→Prop}(h:a1∧a2∧a3∧a4∧a5∧a6∧ ∃ x,a7 x)(k:a1→a2→a3→a4→a5→a6→ ∀ x,a7 x→p):p:=
 aD h fun h1 h2 h3 h4 t=>qW t (k h1 h2 h3 h4)
theorem mq{a1 a2 a3 a4 a5:Prop}{a6 a7:A→Prop}(h:a1∧a2∧a3∧a4∧a5∧ ∃ x,a6 x∧a7 x)(k:a1→a2→a3→a4→a5→ ∀ x,a6 x→a7 x→p):p:=
 aD h fun h1 h2 h3 h4 t=>lu t (k h1 h2 h3 h4)
theorem mn{a1 a2 a3 a4:Prop}{a5 a6 a7:A→Prop}(h:a1∧a2∧a3∧a4∧ ∃ x,a5 x∧a6 x∧a7 x)(k:a1→a2→a3→a4→ ∀ x,a5 x→a6 x→a7 x→p):p:=
 aD h fun h1 h2 h3 h4 t=>aR t (k h1 h2 h3 h4)
theorem mj{a1:Prop}{a2 a3 a4:A→Prop}{a5 a6:A→B→Prop}(h:a1∧ ∃ x,a2 x∧a3 x∧a4 x∧ ∃ y,a5 x y∧a6 x y)(k:a1→ ∀ x,a2 x→a3 x→a4 x→ ∀ y,a5 x y→a6 x y→p):p:=
 iO h fun h1 x h2 h3 t=>lu t (k h1 x h2 h3)
theorem bp{a1 a2 a3 a4 a5 a6 a7:A→Prop}(h:∃ x,a1 x∧a2 x∧a3 x∧a4 x∧a5 x∧a6 x∧a7 x)(k:∀ x,a1 x→a2 x→a3 x→a4 x→a5 x→a6 x→a7 x→p):p:=
 cI h fun x h1 h2 h3 t=>cL t (k x h1 h2 h3)
theorem mi{a1:A→Prop}{a2 a3 a4 a5:A→B→C→Prop}(h:∃ x,a1 x∧ ∃ y z,a2 x y z∧a3 x y z∧a4 x y z∧a5 x y z)(k:∀ x,a1 x→ ∀ y z,a2 x y z→a3 x y z→a4 x y z→a5 x y z→p):p:=
 cH h fun x h1 y z t=>cL t (k x h1 y z)
theorem hU{a1:A→Prop}{a2 a3 a4 a5:A→B→C→Prop}(k:∀ x,a1 x→ ∀ y z,a2 x y z→a3 x y z→a4 x y z→a5 x y z→p)(h:∃ x,a1 x∧ ∃ y z,a2 x y z∧a3 x y z∧a4 x y z∧a5 x y z):p:=mi h k
theorem mh{a1:A→Prop}{a2 a3 a4:A→B→C→D→Prop}(h:∃ x,a1 x∧ ∃ y z u,a2 x y z u∧a3 x y z u∧a4 x y z u)(k:∀ x,a1 x→ ∀ y z u,a2 x y z u→a3 x y z u→a4 x y z u→p):p:=
 cH h fun x h1 y z t=>aR t (k x h1 y z)
theorem hO{a1:A→Prop}{a2 a3 a4:A→B→C→D→Prop}(k:∀ x,a1 x→ ∀ y z u,a2 x y z u→a3 x y z u→a4 x y z u→p)(h:∃ x,a1 x∧ ∃ y z u,a2 x y z u∧a3 x y z u∧a4 x y z u):p:=mh h k
theorem mf{a1 a2 a3 a4 a5 a6:A→B→Prop}(h:∃ x y,a1 x y∧a2 x y∧a3 x y∧a4 x y∧a5 x y∧a6 x y)(k:∀ x y,a1 x y→a2 x y→a3 x y→a4 x y→a5 x y→a6 x y→p):p:=
 cY h fun x y h1 h2 t=>cL t (k x y h1 h2)
theorem d5{a1 a2 a3:A→B→Prop}{a4 a5:A→B→C→Prop}(h:∃ x y,a1 x y∧a2 x y∧a3 x y∧ ∃ z,a4 x y z∧a5 x y z)(k:∀ x y,a1 x y→a2 x y→a3 x y→ ∀ z,a4 x y z→a5 x y z→p):p:=
 cY h fun x y h1 h2 t=>lu t (k x y h1 h2)
theorem dz{a1 a2 a3:A→B→Prop}{a4 a5:A→B→C→Prop}(k:∀ x y,a1 x y→a2 x y→a3 x y→ ∀ z,a4 x y z→a5 x y z→p)(h:∃ x y,a1 x y∧a2 x y∧a3 x y∧ ∃ z,a4 x y z∧a5 x y z):p:=d5 h k
theorem hV{a1 a2 a3 a4 a5:A→B→C→Prop}(h:∃ x y z,a1 x y z∧a2 x y z∧a3 x y z∧a4 x y z∧a5 x y z)(k:∀ x y z,a1 x y z→a2 x y z→a3 x y z→a4 x y z→a5 x y z→p):p:=
 fX h fun x y z h1 t=>cL t (k x y z h1)
theorem md{a1 a2 a3 a4 a5:A→B→C→Prop}(k:∀ x y z,a1 x y z→a2 x y z→a3 x y z→a4 x y z→a5 x y z→p)(h:∃ x y z,a1 x y z∧a2 x y z∧a3 x y z∧a4 x y z∧a5 x y z):p:=hV h k
theorem me{a1 a2 a3 a4:A→B→C→D→Prop}(h:∃ x y z u,a1 x y z u∧a2 x y z u∧a3 x y z u∧a4 x y z u)(k:∀ x y z u,a1 x y z u→a2 x y z u→a3 x y z u→a4 x y z u→p):p:=
 bO h fun x y z u t=>cL t (k x y z u)
theorem eS{a1 a2 a3 a4:A→B→C→D→Prop}(k:∀ x y z u,a1 x y z u→a2 x y z u→a3 x y z u→a4 x y z u→p)(h:∃ x y z u,a1 x y z u∧a2 x y z u∧a3 x y z u∧a4 x y z u):p:=me h k
theorem k7{a1 a2:Prop}{a3 a4 a5 a6 a7:A→B→Prop}(h:a1∧a2∧ ∃ x y,a3 x y∧a4 x y∧a5 x y∧a6 x y∧a7 x y)(k:a1→a2→ ∀ x y,a3 x y→a4 x y→a5 x y→a6 x y→a7 x y→p):p:=
 n7 h fun h1 h2 x y t=>aD t (k h1 h2 x y)
theorem gd{a1:Prop}{a2 a3 a4 a5 a6:A→B→C→Prop}(h:a1∧ ∃ x y z,a2 x y z∧a3 x y z∧a4 x y z∧a5 x y z∧a6 x y z)(k:a1→ ∀ x y z,a2 x y z→a3 x y z→a4 x y z→a5 x y z→a6 x y z→p):p:=
 k6 h fun h1 x y z t=>aD t (k h1 x y z)
theorem ba{a1 a2 a3 a4 a5 a6 a7 a8:A→Prop}(h:∃ x,a1 x∧a2 x∧a3 x∧a4 x∧a5 x∧a6 x∧a7 x∧a8 x)(k:∀ x,a1 x→a2 x→a3 x→a4 x→a5 x→a6 x→a7 x→a8 x→p):p:=
 cI h fun x h1 h2 h3 t=>aD t (k x h1 h2 h3)
theorem kz{a1:A→Prop}{a2 a3 a4 a5 a6:A→B→C→Prop}(h:∃ x,a1 x∧ ∃ y z,a2 x y z∧a3 x y z∧a4 x y z∧a5 x y z∧a6 x y z)(k:∀ x,a1 x→ ∀ y z,a2 x y z→a3 x y z→a4 x y z→a5 x y z→a6 x y z→p):p:=
 cH h fun x h1 y z t=>aD t (k x h1 y z)
theorem kj{a1:A→Prop}{a2 a3 a4 a5 a6:A→B→C→Prop}(k:∀ x,a1 x→ ∀ y z,a2 x y z→a3 x y z→a4 x y z→a5 x y z→a6 x y z→p)(h:∃ x,a1 x∧ ∃ y z,a2 x y z∧a3 x y z∧a4 x y z∧a5 x y z∧a6 x y z):p:=kz h k
theorem ky{a1 a2 a3 a4 a5 a6 a7:A→B→Prop}(h:∃ x y,a1 x y∧a2 x y∧a3 x y∧a4 x y∧a5 x y∧a6 x y∧a7 x y)(k:∀ x y,a1 x y→a2 x y→a3 x y→a4 x y→a5 x y→a6 x y→a7 x y→p):p:=
 cY h fun x y h1 h2 t=>aD t (k x y h1 h2)
theorem fW{a1 a2 a3 a4 a5 a6:A→B→C→Prop}(h:∃ x y z,a1 x y z∧a2 x y z∧a3 x y z∧a4 x y z∧a5 x y z∧a6 x y z)(k:∀ x y z,a1 x y z→a2 x y z→a3 x y z→a4 x y z→a5 x y z→a6 x y z→p):p:=
 fX h fun x y z h1 t=>aD t (k x y z h1)
theorem kt{a1 a2 a3 a4 a5:A→B→C→D→Prop}(h:∃ x y z u,a1 x y z u∧a2 x y z u∧a3 x y z u∧a4 x y z u∧a5 x y z u)(k:∀ x y z u,a1 x y z u→a2 x y z u→a3 x y z u→a4 x y z u→a5 x y z u→p):p:=
 bO h fun x y z u t=>aD t (k x y z u)
theorem kq{a1 a2 a3 a4:A→B→C→D→G→Prop}(h:∃ x y z u v,a1 x y z u v∧a2 x y z u v∧a3 x y z u v∧a4 x y z u v)(k:∀ x y z u v,a1 x y z u v→a2 x y z u v→a3 x y z u v→a4 x y z u v→p):p:=
 bO h fun x y z u t=>cI t (k x y z u)
theorem fb{a1 a2 a3 a4 a5 a6:Prop}{a7 a8 a9:A→Prop}(h:a1∧a2∧a3∧a4∧a5∧a6∧ ∃ x,a7 x∧a8 x∧a9 x)(k:a1→a2→a3→a4→a5→a6→ ∀ x,a7 x→a8 x→a9 x→p):p:=
 aD h fun h1 h2 h3 h4 t=>o8 t (k h1 h2 h3 h4)
theorem dc{a1 a2 a3 a4 a5 a6 a7 a8 a9:A→Prop}(h:∃ x,a1 x∧a2 x∧a3 x∧a4 x∧a5 x∧a6 x∧a7 x∧a8 x∧a9 x)(k:∀ x,a1 x→a2 x→a3 x→a4 x→a5 x→a6 x→a7 x→a8 x→a9 x→p):p:=
 cI h fun x h1 h2 h3 t=>aW t (k x h1 h2 h3)
theorem jD{a1:A→Prop}{a2 a3 a4 a5 a6:A→B→C→D→Prop}(h:∃ x,a1 x∧ ∃ y z u,a2 x y z u∧a3 x y z u∧a4 x y z u∧a5 x y z u∧a6 x y z u)(k:∀ x,a1 x→ ∀ y z u,a2 x y z u→a3 x y z u→a4 x y z u→a5 x y z u→a6 x y z u→p):p:=
 cH h fun x h1 y z t=>d6 t (k x h1 y z)
theorem cW{a1:A→Prop}{a2 a3 a4 a5 a6:A→B→C→D→Prop}(k:∀ x,a1 x→ ∀ y z u,a2 x y z u→a3 x y z u→a4 x y z u→a5 x y z u→a6 x y z u→p)(h:∃ x,a1 x∧ ∃ y z u,a2 x y z u∧a3 x y z u∧a4 x y z u∧a5 x y z u∧a6 x y z u):p:=jD h k
theorem eZ{a1 a2 a3 a4 a5 a6 a7 a8:A→B→Prop}(h:∃ x y,a1 x y∧a2 x y∧a3 x y∧a4 x y∧a5 x y∧a6 x y∧a7 x y∧a8 x y)(k:∀ x y,a1 x y→a2 x y→a3 x y→a4 x y→a5 x y→a6 x y→a7 x y→a8 x y→p):p:=
 cY h fun x y h1 h2 t=>aW t (k x y h1 h2)
theorem jB{a1 a2 a3:A→B→C→D→Prop}{a4 a5:A→B→C→D→G→Prop}(h:∃ x y z u,a1 x y z u∧a2 x y z u∧a3 x y z u∧ ∃ v,a4 x y z u v∧a5 x y z u v)(k:∀ x y z u,a1 x y z u→a2 x y z u→a3 x y z u→ ∀ v,a4 x y z u v→a5 x y z u v→p):p:=
 bO h fun x y z u t=>iP t (k x y z u)
theorem j9{a1 a2 a3:A→B→C→D→Prop}{a4 a5:A→B→C→D→G→Prop}(k:∀ x y z u,a1 x y z u→a2 x y z u→a3 x y z u→ ∀ v,a4 x y z u v→a5 x y z u v→p)(h:∃ x y z u,a1 x y z u∧a2 x y z u∧a3 x y z u∧ ∃ v,a4 x y z u v∧a5 x y z u v):p:=jB h k
theorem iQ{a1 a2 a3 a4 a5 a6 a7 a8 a9 a10 a11:Prop}(h:a1∧a2∧a3∧a4∧a5∧a6∧a7∧a8∧a9∧a10∧a11)(k:a1→a2→a3→a4→a5→a6→a7→a8→a9→a10→a11→p):p:=
 aD h fun h1 h2 h3 h4 t=>c5 t (k h1 h2 h3 h4)
theorem iM{a1:Prop}{a2 a3 a4 a5 a6:A→B→C→D→G→Prop}(h:a1∧ ∃ x y z u v,a2 x y z u v∧a3 x y z u v∧a4 x y z u v∧a5 x y z u v∧a6 x y z u v)(k:a1→ ∀ x y z u v,a2 x y z u v→a3 x y z u v→a4 x y z u v→a5 x y z u v→a6 x y z u v→p):p:=
 k6 h fun h1 x y z t=>fY t (k h1 x y z)
theorem iL{a1:A→Prop}{a2 a3 a4 a5 a6:A→B→C→D→G→Prop}(h:∃ x,a1 x∧ ∃ y z u v,a2 x y z u v∧a3 x y z u v∧a4 x y z u v∧a5 x y z u v∧a6 x y z u v)(k:∀ x,a1 x→ ∀ y z u v,a2 x y z u v→a3 x y z u v→a4 x y z u v→a5 x y z u v→a6 x y z u v→p):p:=
 cH h fun x h1 y z t=>fY t (k x h1 y z)
theorem iI{a1:A→Prop}{a2 a3 a4 a5 a6:A→B→C→D→G→Prop}(k:∀ x,a1 x→ ∀ y z u v,a2 x y z u v→a3 x y z u v→a4 x y z u v→a5 x y z u v→a6 x y z u v→p)(h:∃ x,a1 x∧ ∃ y z u v,a2 x y z u v∧a3 x y z u v∧a4 x y z u v∧a5 x y z u v∧a6 x y z u v):p:=iL h k
theorem eD{a1 a2 a3 a4 a5 a6 a7:A→B→C→D→Prop}(h:∃ x y z u,a1 x y z u∧a2 x y z u∧a3 x y z u∧a4 x y z u∧a5 x y z u∧a6 x y z u∧a7 x y z u)(k:∀ x y z u,a1 x y z u→a2 x y z u→a3 x y z u→a4 x y z u→a5 x y z u→a6 x y z u→a7 x y z u→p):p:=
 bO h fun x y z u t=>c5 t (k x y z u)
theorem iH{a1 a2 a3 a4 a5 a6 a7:A→B→C→D→Prop}(k:∀ x y z u,a1 x y z u→a2 x y z u→a3 x y z u→a4 x y z u→a5 x y z u→a6 x y z u→a7 x y z u→p)(h:∃ x y z u,a1 x y z u∧a2 x y z u∧a3 x y z u∧a4 x y z u∧a5 x y z u∧a6 x y z u∧a7 x y z u):p:=eD h k
theorem iJ{a1 a2 a3 a4 a5 a6:A→B→C→D→G→Prop}(h:∃ x y z u v,a1 x y z u v∧a2 x y z u v∧a3 x y z u v∧a4 x y z u v∧a5 x y z u v∧a6 x y z u v)(k:∀ x y z u v,a1 x y z u v→a2 x y z u v→a3 x y z u v→a4 x y z u v→a5 x y z u v→a6 x y z u v→p):p:=
 bO h fun x y z u t=>cz t (k x y z u)
theorem cF{a1 a2 a3 a4 a5 a6:A→B→C→D→G→Prop}(k:∀ x y z u v,a1 x y z u v→a2 x y z u v→a3 x y z u v→a4 x y z u v→a5 x y z u v→a6 x y z u v→p)(h:∃ x y z u v,a1 x y z u v∧a2 x y z u v∧a3 x y z u v∧a4 x y z u v∧a5 x y z u v∧a6 x y z u v):p:=iJ h k
theorem cr{a1 a2 a3 a4 a5:Prop}{a6 a7 a8:A→Prop}{a9 a10:A→B→Prop}(h:a1∧a2∧a3∧a4∧a5∧ ∃ x,a6 x∧a7 x∧a8 x∧ ∃ y,a9 x y∧a10 x y)(k:a1→a2→a3→a4→a5→ ∀ x,a6 x→a7 x→a8 x→ ∀ y,a9 x y→a10 x y→p):p:=
 aD h fun h1 h2 h3 h4 t=>mj t (k h1 h2 h3 h4)
theorem gG{a1:Prop}{a2 a3 a4 a5 a6 a7 a8 a9 a10:A→B→Prop}(h:a1∧ ∃ x y,a2 x y∧a3 x y∧a4 x y∧a5 x y∧a6 x y∧a7 x y∧a8 x y∧a9 x y∧a10 x y)(k:a1→ ∀ x y,a2 x y→a3 x y→a4 x y→a5 x y→a6 x y→a7 x y→a8 x y→a9 x y→a10 x y→p):p:=
 cq h fun h1 x y h2 t=>hZ t (k h1 x y h2)
theorem gE{a1:A→Prop}{a2 a3 a4 a5 a6 a7:A→B→C→D→G→Prop}(h:∃ x,a1 x∧ ∃ y z u v,a2 x y z u v∧a3 x y z u v∧a4 x y z u v∧a5 x y z u v∧a6 x y z u v∧a7 x y z u v)(k:∀ x,a1 x→ ∀ y z u v,a2 x y z u v→a3 x y z u v→a4 x y z u v→a5 x y z u v→a6 x y z u v→a7 x y z u v→p):p:=
 cH h fun x h1 y z t=>mf t (k x h1 y z)
theorem dE{a1:A→Prop}{a2 a3 a4 a5 a6 a7:A→B→C→D→G→Prop}(k:∀ x,a1 x→ ∀ y z u v,a2 x y z u v→a3 x y z u v→a4 x y z u v→a5 x y z u v→a6 x y z u v→a7 x y z u v→p)(h:∃ x,a1 x∧ ∃ y z u v,a2 x y z u v∧a3 x y z u v∧a4 x y z u v∧a5 x y z u v∧a6 x y z u v∧a7 x y z u v):p:=gE h k
theorem cp{a1 a2 a3 a4 a5 a6 a7 a8 a9 a10:A→B→Prop}(h:∃ x y,a1 x y∧a2 x y∧a3 x y∧a4 x y∧a5 x y∧a6 x y∧a7 x y∧a8 x y∧a9 x y∧a10 x y)(k:∀ x y,a1 x y→a2 x y→a3 x y→a4 x y→a5 x y→a6 x y→a7 x y→a8 x y→a9 x y→a10 x y→p):p:=
 cY h fun x y h1 h2 t=>hZ t (k x y h1 h2)
theorem gi{a1 a2 a3 a4:Prop}{a5 a6 a7 a8 a9 a10:A→B→C→Prop}(h:a1∧a2∧a3∧a4∧ ∃ x y z,a5 x y z∧a6 x y z∧a7 x y z∧a8 x y z∧a9 x y z∧a10 x y z)(k:a1→a2→a3→a4→ ∀ x y z,a5 x y z→a6 x y z→a7 x y z→a8 x y z→a9 x y z→a10 x y z→p):p:=
 aD h fun h1 h2 h3 h4 t=>fW t (k h1 h2 h3 h4)
theorem fZ{a1:A→Prop}{a2 a3 a4 a5 a6 a7:A→B→C→D→G→H→Prop}(h:∃ x,a1 x∧ ∃ y z u v w,a2 x y z u v w∧a3 x y z u v w∧a4 x y z u v w∧a5 x y z u v w∧a6 x y z u v w∧a7 x y z u v w)(k:∀ x,a1 x→ ∀ y z u v w,a2 x y z u v w→a3 x y z u v w→a4 x y z u v w→a5 x y z u v w→a6 x y z u v w→a7 x y z u v w→p):p:=
 cH h fun x h1 y z t=>fW t (k x h1 y z)
theorem fT{a1:A→Prop}{a2 a3 a4 a5 a6 a7:A→B→C→D→G→H→Prop}(k:∀ x,a1 x→ ∀ y z u v w,a2 x y z u v w→a3 x y z u v w→a4 x y z u v w→a5 x y z u v w→a6 x y z u v w→a7 x y z u v w→p)(h:∃ x,a1 x∧ ∃ y z u v w,a2 x y z u v w∧a3 x y z u v w∧a4 x y z u v w∧a5 x y z u v w∧a6 x y z u v w∧a7 x y z u v w):p:=fZ h k
theorem fV{a1 a2 a3 a4 a5:A→B→C→D→G→H→I→J→Prop}(h:∃ x y z u v w a b,a1 x y z u v w a b∧a2 x y z u v w a b∧a3 x y z u v w a b∧a4 x y z u v w a b∧a5 x y z u v w a b)(k:∀ x y z u v w a b,a1 x y z u v w a b→a2 x y z u v w a b→a3 x y z u v w a b→a4 x y z u v w a b→a5 x y z u v w a b→p):p:=
 bO h fun x y z u t=>kt t (k x y z u)
theorem fU{a1 a2 a3 a4:A→B→C→D→G→H→I→J→K→Prop}(h:∃ x y z u v w a b c,a1 x y z u v w a b c∧a2 x y z u v w a b c∧a3 x y z u v w a b c∧a4 x y z u v w a b c)(k:∀ x y z u v w a b c,a1 x y z u v w a b c→a2 x y z u v w a b c→a3 x y z u v w a b c→a4 x y z u v w a b c→p):p:=
 bO h fun x y z u t=>kq t (k x y z u)
theorem fj{a1:A→Prop}{a2 a3 a4 a5 a6 a7 a8 a9:A→B→C→D→G→Prop}(h:∃ x,a1 x∧ ∃ y z u v,a2 x y z u v∧a3 x y z u v∧a4 x y z u v∧a5 x y z u v∧a6 x y z u v∧a7 x y z u v∧a8 x y z u v∧a9 x y z u v)(k:∀ x,a1 x→ ∀ y z u v,a2 x y z u v→a3 x y z u v→a4 x y z u v→a5 x y z u v→a6 x y z u v→a7 x y z u v→a8 x y z u v→a9 x y z u v→p):p:=
 cH h fun x h1 y z t=>eZ t (k x h1 y z)
theorem fi{a1:A→Prop}{a2 a3 a4 a5 a6 a7 a8 a9:A→B→C→D→G→Prop}(k:∀ x,a1 x→ ∀ y z u v,a2 x y z u v→a3 x y z u v→a4 x y z u v→a5 x y z u v→a6 x y z u v→a7 x y z u v→a8 x y z u v→a9 x y z u v→p)(h:∃ x,a1 x∧ ∃ y z u v,a2 x y z u v∧a3 x y z u v∧a4 x y z u v∧a5 x y z u v∧a6 x y z u v∧a7 x y z u v∧a8 x y z u v∧a9 x y z u v):p:=fj h k
theorem eV{a1 a2 a3 a4 a5 a6 a7 a8 a9 a10 a11:A→B→C→D→Prop}(h:∃ x y z u,a1 x y z u∧a2 x y z u∧a3 x y z u∧a4 x y z u∧a5 x y z u∧a6 x y z u∧a7 x y z u∧a8 x y z u∧a9 x y z u∧a10 x y z u∧a11 x y z u)(k:∀ x y z u,a1 x y z u→a2 x y z u→a3 x y z u→a4 x y z u→a5 x y z u→a6 x y z u→a7 x y z u→a8 x y z u→a9 x y z u→a10 x y z u→a11 x y z u→p):p:=
 bO h fun x y z u t=>iQ t (k x y z u)
theorem eU{a1 a2 a3 a4 a5 a6 a7:A→B→C→D→G→H→I→J→Prop}(h:∃ x y z u v w a b,a1 x y z u v w a b∧a2 x y z u v w a b∧a3 x y z u v w a b∧a4 x y z u v w a b∧a5 x y z u v w a b∧a6 x y z u v w a b∧a7 x y z u v w a b)(k:∀ x y z u v w a b,a1 x y z u v w a b→a2 x y z u v w a b→a3 x y z u v w a b→a4 x y z u v w a b→a5 x y z u v w a b→a6 x y z u v w a b→a7 x y z u v w a b→p):p:=
 bO h fun x y z u t=>eD t (k x y z u)
theorem aH{a1 a2 a3 a4 a5 a6 a7:A→B→C→D→G→H→I→J→Prop}(k:∀ x y z u v w a b,a1 x y z u v w a b→a2 x y z u v w a b→a3 x y z u v w a b→a4 x y z u v w a b→a5 x y z u v w a b→a6 x y z u v w a b→a7 x y z u v w a b→p)(h:∃ x y z u v w a b,a1 x y z u v w a b∧a2 x y z u v w a b∧a3 x y z u v w a b∧a4 x y z u v w a b∧a5 x y z u v w a b∧a6 x y z u v w a b∧a7 x y z u v w a b):p:=eU h k
theorem dJ{a1 a2 a3 a4:A→B→C→D→G→H→I→J→K→L→M→N→O→Prop}(h:∃ x y z u v w a b c d e f g,a1 x y z u v w a b c d e f g∧a2 x y z u v w a b c d e f g∧a3 x y z u v w a b c d e f g∧a4 x y z u v w a b c d e f g)(k:∀ x y z u v w a b c d e f g,a1 x y z u v w a b c d e f g→a2 x y z u v w a b c d e f g→a3 x y z u v w a b c d e f g→a4 x y z u v w a b c d e f g→p):p:=
 bO h fun x y z u t=>fU t (k x y z u)
theorem dg{a1 a2:Prop}{a3 a4 a5 a6 a7 a8 a9 a10 a11 a12 a13:A→B→C→D→G→H→Prop}(h:a1∧a2∧ ∃ x y z u v w,a3 x y z u v w∧a4 x y z u v w∧a5 x y z u v w∧a6 x y z u v w∧a7 x y z u v w∧a8 x y z u v w∧a9 x y z u v w∧a10 x y z u v w∧a11 x y z u v w∧a12 x y z u v w∧a13 x y z u v w)(k:a1→a2→ ∀ x y z u v w,a3 x y z u v w→a4 x y z u v w→a5 x y z u v w→a6 x y z u v w→a7 x y z u v w→a8 x y z u v w→a9 x y z u v w→a10 x y z u v w→a11 x y z u v w→a12 x y z u v w→a13 x y z u v w→p):p:=
 n7 h fun h1 h2 x y t=>eV t (k h1 h2 x y)
theorem bw{a1 a2 a3 a4:A→B→C→D→G→H→I→J→K→L→M→N→O→P→Q→R→S→Prop}(h:∃ x y z u v w a b c d e f g h i j k,a1 x y z u v w a b c d e f g h i j k∧a2 x y z u v w a b c d e f g h i j k∧a3 x y z u v w a b c d e f g h i j k∧a4 x y z u v w a b c d e f g h i j k)(k:∀ x y z u v w a b c d e f g h i j k,a1 x y z u v w a b c d e f g h i j k→a2 x y z u v w a b c d e f g h i j k→a3 x y z u v w a b c d e f g h i j k→a4 x y z u v w a b c d e f g h i j k→p):p:=
 bO h fun x y z u t=>dJ t (k x y z u)
end
end Mine
end
section
open PySem PySem.W PyProof.Rows
namespace Mine
noncomputable abbrev PR:Program:=PySem.Challenge.rw_il0097_01.row.prog
noncomputable def top(k:Nat):Stmt:=PR.main.body.getD k default
noncomputable def sub(k j:Nat):Stmt:=match top k with
 | .ClassDef (body:=b) .. =>b.getD j default
 | s=>s
noncomputable def fo(s:Stmt)(q:Str)(d:Value)(m:Str)(t:Nat)(c:Addr):Obj:=match s with
 | .FunctionDef (name:=n) (args:=a) (body:=b) (scope:=sc) .. =>⟨.type "function",.none,.func ⟨n,q,a,.stmts b,sc,3,[],d,.none,.none,.str m t,.none,.ref c,.none,0⟩,#[]⟩
 | _=>default
noncomputable def co(n q:Str)(t:Nat)(l k f:Int)(a:Addr)(z:Bool)(u:Nat):Obj:=
 ⟨.type "code",.none,.fields #[.str n t,.str q (t+1),.str "/claim/cut.py" (t+2),.int l 0,.int k 0,.int 0 0,.int 0 0,.int f 0,.ref a,.bool true,.int 181 0,.ref (a+1),.none,bif z then .none else .ref (a+2),bif z then .none else .ref (a+3),.ref (bif z then a+2 else a+4),.int u 0,.int l 0,.str "/claim/cut.py" (u+1)],#[]⟩
noncomputable abbrev de(P:Params)(x:Str)(t:Nat)(v:Value):DictEntry:=⟨PyData.keyHash P x,.str x t,v⟩
noncomputable def K0(P:Params):Frag:= [
 (2,⟨.none,.none,.dict #[] 0,#[]⟩),
 (3,⟨(.type "dict"),.none,.dict #[de P "__name__" 165 (.str "law_il0097_01" 580),de P "__doc__" 166 .none,de P "__package__" 167 .none,de P "__loader__" 168 (.builtin "__main__.__loader__#opaque"),de P "__spec__" 169 .none,de P "__annotations__" 170 (.ref 6),de P "__builtins__" 171 (.ref 4),de P "__file__" 173 (.str "/claim/cut.py" 172),de P "__cached__" 174 .none,de P "_wall" 193 (.ref 21),de P "_plain_name" 204 (.ref 28),de P "ABCMeta" 230 (.ref 45),de P "_ABCLike" 273 (.ref 78),de P "_abc_plain_meta" 280 (.ref 87),de P "fspath" 292 (.ref 94),de P "_check_arg_types" 305 (.ref 101),de P "_get_sep" 314 (.ref 108),de P "join" 325 (.ref 115),de P "split" 336 (.ref 122),de P "splitroot" 345 (.ref 129),de P "basename" 354 (.ref 136),de P "dirname" 364 (.ref 143),de P "normpath" 379 (.ref 150),de P "commonpath" 385 (.ref 155),de P "_NODE_OUT" 390 (.int (-1) 389),de P "_NODE_DONE" 393 (.int (-2) 392),de P "_NodeInfo" 430 (.ref 174),de P "CycleError" 448 (.ref 189),de P "TopologicalSorter" 567 (.ref 271),de P "Int2AP" 579 (.ref 282),de P "_law_names" 587 (.ref 289),de P "_law_spelled" 597 (.ref 296),de P "_law_number" 606 (.ref 303),de P "_law_word" 612 (.ref 308),de P "_law_walk" 621 (.ref 315),de P "_law_ringed" 627 (.ref 320),de P "_law_road" 633 (.ref 325),de P "_law_ring" 643 (.ref 332),de P "_law_rounds" 649 (.ref 337),de P "_law_prepared" 656 (.ref 344),de P "_law_refusal" 665 (.ref 351),de P "_law_peeled" 680 (.ref 358),de P "_law_hung" 686 (.ref 363),de P "_law_read" 692 (.ref 368),de P "law" 698 (.ref 373)] 45,#[]⟩),
 (93,co "fspath" "fspath" 283 35 1 3 88 false 290),
 (94,fo (top 9) "fspath" .none "os" 281 93),
 (107,co "_get_sep" "_get_sep" 308 64 1 3 102 false 312),
 (108,fo (top 13) "_get_sep" .none "cpy313.posixpath" 306 107),
 (114,co "join" "join" 315 69 1 7 109 false 323),
 (115,fo (top 14) "join" .none "cpy313.posixpath" 306 114),
 (121,co "split" "split" 326 86 1 3 116 false 334),
 (122,fo (top 15) "split" .none "cpy313.posixpath" 306 121),
 (128,co "splitroot" "splitroot" 337 94 1 3 123 false 343),
 (129,fo (top 16) "splitroot" .none "cpy313.posixpath" 306 128),
 (135,co "basename" "basename" 346 108 1 3 130 false 352),
 (136,fo (top 17) "basename" .none "cpy313.posixpath" 306 135),
 (142,co "dirname" "dirname" 355 113 1 3 137 false 362),
 (143,fo (top 18) "dirname" .none "cpy313.posixpath" 306 142),
 (149,co "normpath" "normpath" 365 121 1 3 144 false 377),
 (150,fo (top 19) "normpath" .none "cpy313.posixpath" 306 149),
 (154,co "commonpath" "commonpath" 380 146 1 3 151 true 383),
 (155,fo (top 20) "commonpath" .none "cpy313.posixpath" 306 154),
 (169,co "__init__" "_NodeInfo.__init__" 410 181 2 3 164 false 415),
 (170,fo (sub 24 1) "_NodeInfo.__init__" .none "cpy313.graphlib" 386 169),
 (173,⟨(.type "dict"),.none,.dict #[de P "__module__" 401 (.str "cpy313.graphlib" 386),de P "__firstlineno__" 405 (.int 178 404),de P "__slots__" 409 (.ref 163),de P "__init__" 417 (.ref 170),de P "__static_attributes__" 421 (.ref 171),de P "node" 423 (.ref 175),de P "npredecessors" 425 (.ref 176),de P "successors" 427 (.ref 177),de P "__doc__" 428 .none] 5,#[]⟩),
 (174,⟨(.type "type"),.none,.cls ⟨"_NodeInfo",[(.type "object")],[(.ref 174),(.type "object")],173,"_NodeInfo",false,["node","npredecessors","successors"],[],false,.none,false⟩,#[.none,.none,(.some (.str "_NodeInfo" 394)),(.some (.str "_NodeInfo" 402)),(.some (.builtin "object.__new__")),(.some (.bool false))]⟩),
 (175,⟨(.type "member_descriptor"),.none,.fields #[(.str "node" 422),(.ref 174),(.builtin "proto.slot"),(.builtin "proto.slot#set"),(.int 2 0)],#[]⟩),
 (176,⟨(.type "member_descriptor"),.none,.fields #[(.str "npredecessors" 424),(.ref 174),(.builtin "proto.slot"),(.builtin "proto.slot#set"),(.int 1 0)],#[]⟩),
 (177,⟨(.type "member_descriptor"),.none,.fields #[(.str "successors" 426),(.ref 174),(.builtin "proto.slot"),(.builtin "proto.slot#set"),(.int 0 0)],#[]⟩),
 (188,⟨(.type "dict"),.none,.dict #[de P "__module__" 438 (.str "cpy313.graphlib" 386),de P "__firstlineno__" 442 (.int 185 441),de P "__static_attributes__" 443 (.ref 187),de P "__weakref__" 445 (.ref 190),de P "__doc__" 446 .none] 3,#[]⟩),
 (189,⟨(.type "type"),.none,.cls ⟨"CycleError",[(.type "ValueError")],[(.ref 189),(.type "ValueError"),(.type "Exception"),(.type "BaseException"),(.type "object")],188,"CycleError",true,[],[],false,.none,false⟩,#[(.some (.ref 180)),.none,(.some (.str "CycleError" 431)),(.some (.str "CycleError" 439)),(.some (.builtin "ValueError.__new__")),(.some (.bool true))]⟩),
 (190,⟨(.type "getset_descriptor"),.none,.fields #[(.str "__weakref__" 444),(.ref 189),(.builtin "ExceptionGroup.__weakref__"),.none],#[]⟩),
 (200,⟨(.type "tuple"),.none,.seq #[.none] 0,#[]⟩),
 (206,co "__init__" "TopologicalSorter.__init__" 461 189 2 3 201 false 468),
 (207,fo (sub 26 0) "TopologicalSorter.__init__" (.ref 200) "cpy313.graphlib" 386 206),
 (213,co "_get_nodeinfo" "TopologicalSorter._get_nodeinfo" 471 198 2 3 208 false 477),
 (214,fo (sub 26 1) "TopologicalSorter._get_nodeinfo" .none "cpy313.graphlib" 386 213),
 (220,co "add" "TopologicalSorter.add" 480 203 2 7 215 false 489),
 (221,fo (sub 26 2) "TopologicalSorter.add" .none "cpy313.graphlib" 386 220),
 (225,co "prepare" "TopologicalSorter.prepare" 492 212 1 3 222 true 495),
 (226,fo (sub 26 3) "TopologicalSorter.prepare" .none "cpy313.graphlib" 386 225),
 (232,co "get_ready" "TopologicalSorter.get_ready" 498 220 1 3 227 false 505),
 (233,fo (sub 26 4) "TopologicalSorter.get_ready" .none "cpy313.graphlib" 386 232),
 (239,co "is_active" "TopologicalSorter.is_active" 508 231 1 3 234 false 512),
 (240,fo (sub 26 5) "TopologicalSorter.is_active" .none "cpy313.graphlib" 386 239),
 (253,co "done" "TopologicalSorter.done" 522 239 1 7 248 false 533),
 (254,fo (sub 26 7) "TopologicalSorter.done" .none "cpy313.graphlib" 386 253),
 (260,co "_find_cycle" "TopologicalSorter._find_cycle" 536 262 1 3 255 false 546),
 (261,fo (sub 26 8) "TopologicalSorter._find_cycle" .none "cpy313.graphlib" 386 260),
 (270,⟨(.type "dict"),.none,.dict #[de P "__module__" 456 (.str "cpy313.graphlib" 386),de P "__firstlineno__" 460 (.int 187 459),de P "__init__" 470 (.ref 207),de P "_get_nodeinfo" 479 (.ref 214),de P "add" 491 (.ref 221),de P "prepare" 497 (.ref 226),de P "get_ready" 507 (.ref 233),de P "is_active" 514 (.ref 240),de P "__bool__" 521 (.ref 247),de P "done" 535 (.ref 254),de P "_find_cycle" 548 (.ref 261),de P "static_order" 555 (.ref 268),de P "__static_attributes__" 560 (.ref 269),de P "__dict__" 562 (.ref 272),de P "__weakref__" 564 (.ref 273),de P "__doc__" 565 .none] 4,#[]⟩),
 (271,⟨(.type "type"),.none,.cls ⟨"TopologicalSorter",[(.type "object")],[(.ref 271),(.type "object")],270,"TopologicalSorter",true,[],[],false,.none,false⟩,#[.none,.none,(.some (.str "TopologicalSorter" 449)),(.some (.str "TopologicalSorter" 457)),(.some (.builtin "object.__new__")),(.some (.bool true))]⟩),
 (272,⟨(.type "getset_descriptor"),.none,.fields #[(.str "__dict__" 561),(.ref 271),(.builtin "function.__dict__"),(.builtin "function.__dict__#set")],#[]⟩),
 (273,⟨(.type "getset_descriptor"),.none,.fields #[(.str "__weakref__" 563),(.ref 271),(.builtin "ExceptionGroup.__weakref__"),.none],#[]⟩),
 (281,co "Int2AP" "Int2AP" 570 294 1 3 276 false 577),
 (282,fo (top 28) "Int2AP" .none "cpy313.imaplib" 568 281),
 (288,co "_law_names" "_law_names" 582 303 0 3 283 false 585),
 (289,fo (top 30) "_law_names" .none "law_il0097_01" 580 288),
 (295,co "_law_spelled" "_law_spelled" 588 305 2 3 290 false 595),
 (296,fo (top 31) "_law_spelled" .none "law_il0097_01" 580 295),
 (302,co "_law_number" "_law_number" 598 309 1 3 297 false 604),
 (303,fo (top 32) "_law_number" .none "law_il0097_01" 580 302),
 (307,co "_law_word" "_law_word" 607 314 1 3 304 true 610),
 (308,fo (top 33) "_law_word" .none "law_il0097_01" 580 307),
 (314,co "_law_walk" "_law_walk" 613 321 2 3 309 false 619),
 (315,fo (top 34) "_law_walk" .none "law_il0097_01" 580 314),
 (319,co "_law_ringed" "_law_ringed" 622 326 1 3 316 true 625),
 (320,fo (top 35) "_law_ringed" .none "law_il0097_01" 580 319),
 (324,co "_law_road" "_law_road" 628 328 3 3 321 true 631),
 (325,fo (top 36) "_law_road" .none "law_il0097_01" 580 324),
 (331,co "_law_ring" "_law_ring" 634 334 2 3 326 false 641),
 (332,fo (top 37) "_law_ring" .none "law_il0097_01" 580 331),
 (336,co "_law_rounds" "_law_rounds" 644 338 2 3 333 true 647),
 (337,fo (top 38) "_law_rounds" .none "law_il0097_01" 580 336),
 (343,co "_law_prepared" "_law_prepared" 650 350 1 3 338 false 654),
 (344,fo (top 39) "_law_prepared" .none "law_il0097_01" 580 343),
 (350,co "_law_refusal" "_law_refusal" 657 355 2 3 345 false 663),
 (351,fo (top 40) "_law_refusal" .none "law_il0097_01" 580 350),
 (357,co "_law_peeled" "_law_peeled" 666 361 3 3 352 false 678),
 (358,fo (top 41) "_law_peeled" .none "law_il0097_01" 580 357),
 (362,co "_law_hung" "_law_hung" 681 381 2 3 359 true 684),
 (363,fo (top 42) "_law_hung" .none "law_il0097_01" 580 362),
 (367,co "_law_read" "_law_read" 687 389 2 3 364 true 690),
 (368,fo (top 43) "_law_read" .none "law_il0097_01" 580 367),
 (372,co "law" "law" 693 402 1 3 369 true 696),
 (373,fo (top 44) "law" .none "law_il0097_01" 580 372)]
noncomputable def as0:List Addr:= [2,3,93,94,107,108,114,115,121,122,128,129,135,136,142,143,149,150,154,155,169,170,173,174,175,176,177,188,189,190,200,206,207,213,214,220,221,225,226,232,233,239,240,253,254,260,261,270,271,272,273,281,282,288,289,295,296,302,303,307,308,314,315,319,320,324,325,331,332,336,337,343,344,350,351,357,358,362,363,367,368,372,373]
end Mine
end
section
open PySem PySem.W PyProof.Rows PySem.Calls
namespace Mine
noncomputable def er:Value→Value
 | .int i _=> .int i 0
 | .str s _=> .str s 0
 | .bytes b _=> .bytes b 0
 | .float b _=> .float b 0
 | v=>v
theorem aB{v:Value}{i:Int}{t:Tok}(h:er v= .int i t):∃ t,v= .int i t:=by
 cases v<;> simp [er]at h<;> exact⟨_,by rw [h.1]⟩
theorem au{v:Value}{x:Str}{t:Tok}(h:er v= .str x t):∃ t,v= .str x t:=by
 cases v<;> simp [er]at h<;> exact⟨_,by rw [h.1]⟩
theorem bE{v:Value}{x:Array UInt8}{t:Tok}(h:er v= .bytes x t):∃ t,v= .bytes x t:=by
 cases v<;> simp [er]at h<;> exact⟨_,by rw [h.1]⟩
theorem al{v:Value}{a:Addr}(h:er v= .ref a):v= .ref a:=by
 cases v<;> simp [er]at h<;> rw [h]
theorem eR{v:Value}{b:Bool}(h:er v= .bool b):v= .bool b:=by
 cases v<;> simp [er]at h<;> rw [h]
theorem iE{v:Value}(h:er v= .none):v= .none:=by
 cases v<;> simp [er]at h;rfl
theorem cE{v:Value}{n:String}(h:er v= .type n):v= .type n:=by
 cases v<;> simp [er]at h<;> rw [h]
theorem ma{v:Value}{n:String}(h:er v= .builtin n):v= .builtin n:=by
 cases v<;> simp [er]at h<;> rw [h]
inductive AO where
 | ns (m:Str→Option Value)
 | list (vs:List Value)
 | tuple (vs:List Value)
 | dict (es:List (Str×Value)) (ep:Nat)
 | fld (m:Str→Option Value)
 | inst (C dx:Addr) (sl:List (Option Value))
 | cell (v:Option Value)
 | raw (o:Obj)
 | sat (P:World→Obj→Prop)
noncomputable def AO.kd:AO→Nat
 | .ns _=>1
 | .list _=>2
 | .tuple _=>3
 | .dict .. =>4
 | .fld _=>5
 | .inst .. =>6
 | .cell _=>0
 | .raw _=>7
 | .sat _=>8
theorem nc{x:AO}(h:(x.kd==0)=false):∀ v,x≠ .cell v:=fun v e=>by rw [e]at h;cases h
noncomputable def AtO(w:World)(o:Obj):AO→Prop
 | .ns m=> ∃ es ep,o.data= .dict es ep∧StrKeys es∧ ∀ x,(nsFind es x).map er=m x
 | .fld m=> ∃ es ep,o.data= .dict es ep∧StrKeys es∧UniqKeys es∧ ∀ x,(nsFind es x).map er=m x
 | .list vs=> ∃ its n,o= { cls:= .type "list",dict:=none,data:= .seq its n,slots:= #[]} ∧its.toList.map er=vs
 | .tuple vs=> ∃ its n,o= { cls:= .type "tuple",dict:=none,data:= .seq its n,slots:= #[]} ∧its.toList.map er=vs
 | .dict es ep=> ∃ kvs es',(o.ExactDict∧o.data= .dict es' ep∧KeysOf (strKind PR w) es'∧Pairs (strKind PR w) es'.toList kvs∧(kvs.map (·.1)).Nodup)∧kvs.map (fun p=>(p.1,er p.2))=es
 | .inst C dx sl=> ∃ sl',o= { cls:= .ref C,dict:=some dx,data:= .plain,slots:=sl'} ∧sl'.toList.map (fun x=>x.map er)=sl
 | .cell v=> ∃ v',o.data= .cell v'∧v'.map er=v
 | .raw o'=>o=o'
 | .sat P=>P w o
noncomputable def At(w:World)(h:Heap)(a:Addr)(ao:AO):Prop:=∃ o,h.get? a=some o∧AtO w o ao
noncomputable abbrev AH:=Addr→Option AO
noncomputable def upd(H:AH)(a:Addr)(o:AO):AH:=fun b=>if b=a then some o else H b
noncomputable def del(H:AH)(a:Addr):AH:=fun b=>if b=a then none else H b
@[simp] theorem ah (H:AH)(a:Addr)(o:AO):upd H a o a=some o:=if_pos rfl
theorem af{H:AH}{a b:Addr}{o:AO}(h:b≠a):upd H a o b=H b:=if_neg h
@[simp] theorem b7 (H:AH)(a:Addr):del H a a=none:=if_pos rfl
theorem ay{H:AH}{a b:Addr}(h:b≠a):del H a b=H b:=if_neg h
noncomputable def Ext(H H':AH):Prop:=∀ a o,H a=some o→H' a=some o
theorem Ext.refl(H:AH):Ext H H:=fun _ _ h=>h
theorem Ext.trans{H₁ H₂ H₃:AH}(x:Ext H₁ H₂)(y:Ext H₂ H₃):Ext H₁ H₃:=fun a o h=>y a o (x a o h)
theorem Ext.upd{H H':AH}(x:Ext H H'){a:Addr}(o:AO)(hn:H a=none):Ext H (upd H' a o):=fun b ob h=>by
 by_cases e:b=a
 ·subst e;rw [hn]at h;cases h
 ·rw [af e];exact x b ob h
theorem Ext.upd_mono{H H':AH}(x:Ext H H')(a:Addr)(o:AO):Ext (Mine.upd H a o) (Mine.upd H' a o):=fun b ob h=>by
 by_cases e:b=a
 ·subst e;rw [ah]at h ⊢;exact h
 ·rw [af e]at h ⊢;exact x b ob h
theorem Ext.del{H H':AH}(x:Ext H H'){a:Addr}(hn:H a=none):Ext H (Mine.del H' a):=fun b ob h=>by
 by_cases e:b=a
 ·subst e;rw [hn]at h;cases h
 ·rw [ay e];exact x b ob h
structure St where
 loc:Str→Option Value
 H:AH
noncomputable def ca(m:Str→Option Value)(x:Str)(v:Value):Str→Option Value:=fun y=>if y=x then some v else m y
@[simp] theorem p4 (m:Str→Option Value)(x:Str)(v:Value):ca m x v x=some v:=if_pos rfl
theorem dH{m:Str→Option Value}{x y:Str}{v:Value}(h:y≠x):ca m x v y=m y:=if_neg h
structure Sta (w:World) (h:Heap):Prop where
 K:(K0 w.params).In h
 g:∃ mg,h.Ns mainGlobals mg
 b:∃ mb,h.Ns builtinsNs mb∧ ∀ x:Str,x≠ "__name__" →mb x=bootBuiltins x
 nolimit:h.NoLimit
theorem Sta.keeps{w:World}{h h':Heap}(x:Sta w h)(k:∀ b o,h.get? b=some o→h'.get? b=some o):Sta w h':=
 ⟨x.K.keeps k,let⟨mg,a⟩:=x.g;⟨mg,a.keeps k⟩,let⟨mb,a,b⟩:=x.b;⟨mb,a.keeps k,b⟩,x.nolimit.keeps k⟩
structure Wd where
 w:World
 h₀:Heap
 os:OsState
 sta:Sta w h₀
noncomputable abbrev Frz:=Addr→Option Obj
structure Rel0 (D:Wd) (F:Frz) (H:AH) (s:Shared):Prop where
 base:∀ b o,D.h₀.get? b=some o→F b=some o
 frz:∀ b o,F b=some o→s.heap.get? b=some o
 obj:∀ a ao,H a=some ao→F a=none∧At D.w s.heap a ao
 os:s.os=D.os
 gens:s.gens= #[]
 hi:∀ a ao,H a=some ao→3<a
structure Rel (D:Wd) (L:Addr) (F:Frz) (σ:St) (s:Shared):Prop where
 rel:Rel0 D F σ.H s
 FL:F L=none
 HL:σ.H L=none
 ns:At D.w s.heap L (.ns σ.loc)
 hiL:3<L
theorem At.congr{w:World}{h h':Heap}{a:Addr}{ao:AO}(x:At w h a ao)(e:h'.get? a=h.get? a):At w h' a ao:=
 let⟨o,ho,r⟩:=x;⟨o,e.trans ho,r⟩
theorem At.keepAt{w:World}{h h':Heap}{a:Addr}{ao:AO}(x:At w h a ao)(k:∀ o,h.get? a=some o→h'.get? a=some o):At w h' a ao:=let⟨o,ho,r⟩:=x;⟨o,k o ho,r⟩
theorem At.has{w:World}{h:Heap}{a:Addr}{ao:AO}(x:At w h a ao):∃ o,h.get? a=some o:=let⟨o,ho,_⟩:=x;⟨o,ho⟩
theorem At.lt{w:World}{h:Heap}{a:Addr}{ao:AO}(x:At w h a ao):a<h.objs.size:=let⟨_,ho,_⟩:=x;Heap.lt_size ho
theorem At.keeps{w:World}{h h':Heap}{a:Addr}{ao:AO}(x:At w h a ao)(k:∀ b o,h.get? b=some o→h'.get? b=some o):At w h' a ao:=
 let⟨o,ho,r⟩:=x;⟨o,k _ _ ho,r⟩
section
variable {D:Wd}{F:Frz}{H:AH}{L:Addr}{σ:St}{s:Shared}
theorem Rel0.keep(R:Rel0 D F H s)(b:Addr)(o:Obj)(e:D.h₀.get? b=some o):s.heap.get? b=some o:=R.frz _ _ (R.base _ _ e)
theorem Rel0.sta(R:Rel0 D F H s):Sta D.w s.heap:=D.sta.keeps R.keep
theorem Rel0.K(R:Rel0 D F H s):(K0 D.w.params).In s.heap:=R.sta.K
theorem Rel0.tok(R:Rel0 D F H s)(t:Nat):Rel0 D F H { s with toks:=t}:=⟨R.base,R.frz,R.obj,R.os,R.gens,R.hi⟩
theorem Rel0.ext(R:Rel0 D F H s){h':Heap}{t:Nat}(k:∀ b o,s.heap.get? b=some o→h'.get? b=some o):Rel0 D F H { s with heap:=h',toks:=t}:=
 ⟨R.base,fun b o e=>k _ _ (R.frz b o e),fun a ao e=>⟨(R.obj a ao e).1,(R.obj a ao e).2.keeps k⟩,R.os,R.gens,R.hi⟩
theorem Rel0.fresh(R:Rel0 D F H s){a:Addr}(hn:s.heap.get? a=none):F a=none∧H a=none:=by
 constructor
 ·cases q:F a with
  | none=>rfl
  | some o=>have:=R.frz _ _ q;rw [hn]at this;cases this
 ·cases q:H a with
  | none=>rfl
  | some ao=>obtain⟨o,ho⟩:=(R.obj _ _ q).2.has;rw [hn]at ho;cases ho
theorem Rel0.big(R:Rel0 D F H s):3<s.heap.objs.size:=Nat.lt_trans (by decide:3<373) (Heap.lt_size (R.K 373 _ rfl))
theorem Rel0.alloc(R:Rel0 D F H s){h':Heap}{t:Nat}{a:Addr}{ao:AO}(hg:s.heap.objs.size≤a)(k:∀ b o,s.heap.get? b=some o→h'.get? b=some o)(x:At D.w h' a ao):
 Rel0 D F (upd H a ao) { s with heap:=h',toks:=t}:=by
 refine⟨R.base,fun b o e=>k _ _ (R.frz b o e),fun b bo e=>?_,R.os,R.gens,fun b bo e=>?_⟩
 all_goals by_cases q:b=a
 ·subst q;rw [ah]at e;cases e;exact⟨(R.fresh (Heap.get?_none_of_le hg)).1,x⟩
 ·rw [af q]at e;exact⟨(R.obj b bo e).1,(R.obj b bo e).2.keeps k⟩
 ·have:=R.big;rw [q];exact Nat.lt_of_lt_of_le this hg
 ·rw [af q]at e;exact R.hi b bo e
theorem Rel0.update(R:Rel0 D F H s){h':Heap}{t:Nat}{a:Addr}{ao ao₀:AO}(hH:H a=some ao₀)(k:∀ b o,b≠a→s.heap.get? b=some o→h'.get? b=some o)(x:At D.w h' a ao):
 Rel0 D F (upd H a ao) { s with heap:=h',toks:=t}:=by
 have hF:=(R.obj _ _ hH).1
 refine⟨R.base,fun b o e=>k b o (fun q=>by rw [q,hF]at e;cases e) (R.frz b o e),fun b bo e=>?_,R.os,R.gens,fun b bo e=>?_⟩
 all_goals by_cases q:b=a
 ·subst q;rw [ah]at e;cases e;exact⟨hF,x⟩
 ·rw [af q]at e;exact⟨(R.obj b bo e).1,(R.obj b bo e).2.keepAt fun o=>k b o q⟩
 ·rw [q];exact R.hi _ _ hH
 ·rw [af q]at e;exact R.hi b bo e
theorem Rel0.mono(R:Rel0 D F H s){H':AH}(k:∀ a o,H' a=some o→H a=some o):Rel0 D F H' s:=⟨R.base,R.frz,fun a ao e=>R.obj a ao (k a ao e),R.os,R.gens,fun a ao e=>R.hi a ao (k a ao e)⟩
theorem Rel.tok(R:Rel D L F σ s)(t:Nat):Rel D L F σ { s with toks:=t}:=⟨R.rel.tok t,R.FL,R.HL,R.ns,R.hiL⟩
theorem Rel.ext(R:Rel D L F σ s){h':Heap}{t:Nat}(k:∀ b o,s.heap.get? b=some o→h'.get? b=some o):Rel D L F σ { s with heap:=h',toks:=t}:=
 ⟨R.rel.ext k,R.FL,R.HL,R.ns.keeps k,R.hiL⟩
theorem pA{h:Heap}{a b:Addr}{o:Obj}(e:h.get? a=none)(x:h.get? b=some o):b≠a:=fun q=>by rw [q,e]at x;cases x
theorem Rel.freshL(R:Rel D L F σ s){a:Addr}(hn:s.heap.get? a=none):a≠L:=by
 obtain⟨o,ho⟩:=R.ns.has
 exact(pA hn ho).symm
theorem Rel.alloc(R:Rel D L F σ s){h':Heap}{t:Nat}{a:Addr}{ao:AO}(hg:s.heap.objs.size≤a)(k:∀ b o,s.heap.get? b=some o→h'.get? b=some o)(x:At D.w h' a ao):
 Rel D L F { σ with H:=upd σ.H a ao} { s with heap:=h',toks:=t}:=
 ⟨R.rel.alloc hg k x,R.FL,by show upd σ.H a ao L=none;rw [af (R.freshL (Heap.get?_none_of_le hg)).symm];exact R.HL,R.ns.keeps k,R.hiL⟩
theorem Rel.update(R:Rel D L F σ s){h':Heap}{t:Nat}{a:Addr}{ao ao₀:AO}(hH:σ.H a=some ao₀)(k:∀ b o,b≠a→s.heap.get? b=some o→h'.get? b=some o)(x:At D.w h' a ao):
 Rel D L F { σ with H:=upd σ.H a ao} { s with heap:=h',toks:=t}:=by
 have hne:L≠a:=fun q=>by rw [← q,R.HL]at hH;cases hH
 exact⟨R.rel.update hH k x,R.FL,by show upd σ.H a ao L=none;rw [af hne];exact R.HL,R.ns.keepAt fun o=>k L o hne,R.hiL⟩
theorem Rel.setLoc(R:Rel D L F σ s){h':Heap}{t:Nat}{m:Str→Option Value}(k:∀ b,b≠L→h'.get? b=s.heap.get? b)(x:At D.w h' L (.ns m)):
 Rel D L F { σ with loc:=m} { s with heap:=h',toks:=t}:=
 ⟨⟨R.rel.base,fun b o e=>(k b fun q=>by rw [q,R.FL]at e;cases e).trans (R.rel.frz b o e),
  fun b bo e=>⟨(R.rel.obj b bo e).1,(R.rel.obj b bo e).2.congr (k b fun q=>by rw [q]at e;exact nomatch R.HL.symm.trans e)⟩,R.rel.os,R.rel.gens,R.rel.hi⟩,R.FL,R.HL,x,R.hiL⟩
theorem Rel.obj(R:Rel D L F σ s){a:Addr}{ao:AO}(e:σ.H a=some ao):At D.w s.heap a ao:=(R.rel.obj a ao e).2
theorem Rel.sta(R:Rel D L F σ s):Sta D.w s.heap:=R.rel.sta
theorem Rel.K(R:Rel D L F σ s):(K0 D.w.params).In s.heap:=R.rel.K
end
structure Ok (A:Around) (n:Nat):Prop where
 depth:A.depth+n<900
 units:A.units+20*n<9000
 hand:A.handled=none
theorem Ok.mono{A:Around}{n m:Nat}(x:Ok A n)(h:m≤n):Ok A m:=⟨by have:=x.depth;exact wR this h,by have:=x.units;exact wQ this h,x.hand⟩
theorem Ok.deeper{A:Around}{n:Nat}(x:Ok A (n+1))(env:Env):Ok (A.deeper env) n:=
 ⟨by have:=x.depth;show A.depth+1+n<900;exact vR this,by have:=x.units;show A.units+3+20*n<9000;exact wP this,x.hand⟩
theorem ok_caller:Ok callerA 100:=⟨by show 1+claimMargin+100<900;decide,by decide,rfl⟩
noncomputable abbrev post(D:Wd)(L:Addr)(F:Frz){α:Type}(Q:α→St→Prop):α→Shared→Prop:=fun v s=> ∃ σ,Rel D L F σ s∧Q v σ
noncomputable abbrev noE:Value→Shared→Prop:=fun _ _=>False
noncomputable def W(D:Wd)(A:Around)(L:Addr){α:Type}(t:Sem α)(Q:α→St→Prop)(σ:St):Prop:=
 ∀ F s,Rel D L F σ s→wpAny (model PR D.w) A t (post D L F Q) noE s
section
variable {D:Wd}{A:Around}{L:Addr}{α β:Type}{σ:St}
theorem W.pure{a:α}{Q:α→St→Prop}(h:Q a σ):W D A L (Pure.pure a:Sem α) Q σ:=fun _ _ R=>wpAny_pure ⟨σ,R,h⟩
theorem W.bind{m:Sem α}{f:α→Sem β}{Q:β→St→Prop}(h:W D A L m (fun a σ'=>W D A L (f a) Q σ') σ):W D A L (m>>=f) Q σ:=
 fun F s R=>wpAny_bind (wpAny_mono (h F s R) (fun _ s'=>ar fun _ R' h'=>h' F s' R') fun _ _ x=>x)
theorem W.mono{t:Sem α}{Q Q':α→St→Prop}(h:W D A L t Q σ)(k:∀ a σ',Q a σ'→Q' a σ'):W D A L t Q' σ:=
 fun F s R=>wpAny_mono (h F s R) (fun _ _=>ar fun σ' R' h'=>⟨σ',R',k _ _ h'⟩) fun _ _ x=>x
theorem W.holding{vs:List Value}{m:Sem α}{Q:α→St→Prop}(h:W D A L m Q σ):W D A L (PySem.holding vs m) Q σ:=fun F s R=>wpAny_holding (h F s R)
theorem W.standAt{pos:Pos}{Q:Unit→St→Prop}(h:Q () σ):W D A L (PySem.standAt pos) Q σ:=fun _ _ R=>wpAny_standAt ⟨σ,R,h⟩
theorem W.point{Q:Unit→St→Prop}(h:Q () σ):W D A L PySem.point Q σ:=fun _ _ R=>wpAny_point ⟨σ,R,h⟩
theorem W.of_eq{m:Sem α}{a:α}{Q:α→St→Prop}(e:m=Pure.pure a)(h:Q a σ):W D A L m Q σ:=e▸W.pure h
theorem W.release{vs keep:List Value}{Q:Unit→St→Prop}(h:Q () σ):W D A L (PySem.release vs keep) Q σ:=fun _ _ R=>wpAny_release ⟨σ,R,h⟩
noncomputable def WE(D:Wd)(A:Around)(L:Addr)(t:Sem Value)(Q:Value→St→Prop)(σ:St):Prop:=W D A L t (fun v σ'=>Q (er v) σ') σ
end
end Mine
end
section
open PySem PySem.W PyProof.Rows PySem.Calls
namespace Mine
section
variable {D:Wd}{A:Around}{L:Addr}{α β:Type}{σ:St}{env:Env}
theorem Rel.nsOf{F:Frz}{s:Shared}(R:Rel D L F σ s):∃ m,s.heap.Ns L m∧ ∀ x,(m x).map er=σ.loc x:=by
 refine cZ R.ns fun o ho es ep hd hk hm=>?_
 exact⟨nsFind es,⟨o,es,ep,ho,hd,hk,fun _=>rfl⟩,hm⟩
theorem At.of_ns{w:World}{h:Heap}{L:Addr}{m' m:Str→Option Value}(x:h.Ns L m')(e:∀ y,(m' y).map er=m y):At w h L (.ns m):=
 let⟨o,es,ep,ho,hd,hk,hm⟩:=x;⟨o,ho,es,ep,hd,hk,fun y=>by rw [hm y];exact e y⟩
theorem aP{o:Option Value}{v:Value}(h:o.map er=some v):∃ v',o=some v'∧er v'=v:=by
 cases o with
 | none=>cases h
 | some x=>exact⟨x,rfl,Option.some.inj h⟩
theorem E.local{x:Str}{pos:Pos}{v:Value}{Q:Value→St→Prop}(hv:σ.loc x=some v)(h:Q v σ)(hL:env.locals=L:=by rfl)(hk:env.scope.kind= .function:=by rfl)
 (hl:env.kindOf x=some .local:=by rfl) (hd:(x==("__debug__" :Str))=false:=by decide):WE D A L (eval (.Name x pos) env) Q σ:=fun F s R=>by
 refine ai R.nsOf fun m hn hm=>?_
 refine ai (aP ((hm x).trans hv)) fun v' hv' e=>?_
 subst hL
 exact wpAny_Name (wpAny_loadName_local hk hl hn hv' ⟨σ,R,by show Q (er v') σ;rw [e];exact h⟩) hd
theorem E.cell{x:Str}{pos:Pos}{v:Value}{c:Addr}{Q:Value→St→Prop}(hc:env.cells.lookup x=some c)(hv:σ.H c=some (.cell (some v)))(h:Q v σ)(hk:env.scope.kind= .function:=by rfl)
 (hl:env.kindOf x=some .cell:=by rfl) (hd:(x==("__debug__" :Str))=false:=by decide):WE D A L (eval (.Name x pos) env) Q σ:=fun F s R=>by
 refine dK (R.obj hv) fun o ho v' hd' hm=>?_
 refine ai (aP hm) fun v' h1_ e=>?_;obtain rfl:=h1_
 exact wpAny_Name (wpAny_loadName_cell hk hl hc ⟨o,ho,hd'⟩ ⟨σ,R,by show Q (er v') σ;rw [e];exact h⟩) hd
theorem E.glob{x:Str}{pos:Pos}{v:Value}{Q:Value→St→Prop}(e:∀ P,nsIn (K0 P) mainGlobals x=some (some v))(h:Q (er v) σ)(hg:env.globals=mainGlobals:=by rfl)(hk:env.scope.kind= .function:=by rfl)
 (hl:env.kindOf x=some .globalImplicit:=by rfl) (hd:(x==("__debug__" :Str))=false:=by decide):WE D A L (eval (.Name x pos) env) Q σ:=fun F s R=>by
 obtain⟨mg,hG⟩:=R.sta.g
 exact Name_function_global hk hl (loadGlobal_global (env:=env) (by rw [hg];exact hG) (mg_of R.K hG (e _)) ⟨σ,R,h⟩) hd
theorem E.builtin{x:Str}{pos:Pos}{v:Value}{Q:Value→St→Prop}(e:∀ P,nsIn (K0 P) mainGlobals x=some none)(hv:bootBuiltins x=some v)(h:Q (er v) σ)(hg:env.globals=mainGlobals:=by rfl)(hb:env.builtins=builtinsNs:=by rfl)
 (hk:env.scope.kind= .function:=by rfl) (hl:env.kindOf x=some .globalImplicit:=by rfl) (hd:(x==("__debug__" :Str))=false:=by decide) (hn:x≠ "__name__" :=by decide):WE D A L (eval (.Name x pos) env) Q σ:=fun F s R=>by
 obtain⟨mg,hG⟩:=R.sta.g
 refine ai R.sta.b fun mb hB hb'=>?_
 exact Name_function_global hk hl (loadGlobal_builtin (env:=env) (by rw [hg];exact hG) (mg_none_of R.K hG (e _)) (by rw [hb];exact hB) ((hb' x hn).trans hv) ⟨σ,R,h⟩) hd
theorem W.storeLocal{x:Str}{v:Value}{Q:Unit→St→Prop}(h:Q () { σ with loc:=ca σ.loc x (er v)})(hL:env.locals=L:=by rfl)(hk:env.scope.kind= .function:=by rfl)
 (hl:env.kindOf x=some .local:=by rfl):W D A L (storeName env x v) Q σ:=fun F s R=>by
 refine ai R.nsOf fun m hn hm=>?_
 subst hL
 refine wpAny_storeName_local hl hn (fun h' hn' hs'=>⟨_,R.setLoc (m:=ca σ.loc x (er v)) (fun b hb=>hs'.2 b hb) (At.of_ns hn' fun y=>?_),h⟩) (by rw [hk];rfl)
 unfold ca
 by_cases q:y=x
 ·rw [if_pos q,if_pos q];rfl
 ·rw [if_neg q,if_neg q];exact hm y
theorem W.storeCell{x:Str}{v:Value}{v₀:Option Value}{c:Addr}{Q:Unit→St→Prop}(hc:env.cells.lookup x=some c)(hv:σ.H c=some (.cell v₀))(h:Q () { σ with H:=upd σ.H c (.cell (some (er v)))})(hk:env.scope.kind= .function:=by rfl)
 (hl:env.kindOf x=some .cell:=by rfl):W D A L (storeName env x v) Q σ:=fun F s R=>by
 refine dK (R.obj hv) fun o ho v' hd' hm=>?_
 refine wpAny_storeName_cell hk hl hc ⟨o,ho,hd'⟩ fun h' hc' hs'=>?_
 refine ai hc' fun o' ho' hd''=>?_;clear hc'
 exact⟨_,R.update (t:=s.toks) (ao:= .cell (some (er v))) hv (fun b o hb e=>(hs'.2 b hb).trans e) ⟨o',ho',_,hd'',rfl⟩,h⟩
theorem W.assignLocal{x:Str}{px:Pos}{v:Value}{Q:Unit→St→Prop}(h:Q () { σ with loc:=ca σ.loc x (er v)})(hL:env.locals=L:=by rfl)(hk:env.scope.kind= .function:=by rfl)
 (hl:env.kindOf x=some .local:=by rfl):W D A L (assign (.Name x px) env v) Q σ:=fun F s R=>wpAny_assign_Name (W.storeLocal h hL hk hl F s R)
theorem W.assignCell{x:Str}{px:Pos}{v:Value}{v₀:Option Value}{c:Addr}{Q:Unit→St→Prop}(hc:env.cells.lookup x=some c)(hv:σ.H c=some (.cell v₀))(h:Q () { σ with H:=upd σ.H c (.cell (some (er v)))})(hk:env.scope.kind= .function:=by rfl)
 (hl:env.kindOf x=some .cell:=by rfl):W D A L (assign (.Name x px) env v) Q σ:=fun F s R=>wpAny_assign_Name (W.storeCell hc hv h hk hl F s R)
theorem E.int{i:Int}{k pos}{Q:Value→St→Prop}(h:Q (.int i 0) σ):WE D A L (eval (.Constant (.int i) k pos) env) Q σ:=fun _ _ R=>wpAny_Constant_int ⟨σ,R.tok _,h⟩
theorem E.str{x:Str}{k pos}{Q:Value→St→Prop}(h:Q (.str x 0) σ):WE D A L (eval (.Constant (.str x) k pos) env) Q σ:=fun _ _ R=>wpAny_Constant_str ⟨σ,R.tok _,h⟩
theorem E.none{k pos}{Q:Value→St→Prop}(h:Q .none σ):WE D A L (eval (.Constant .none k pos) env) Q σ:=fun _ _ R=>wpAny_Constant_none ⟨σ,R,h⟩
theorem E.bool{b:Bool}{k pos}{Q:Value→St→Prop}(h:Q (.bool b) σ):WE D A L (eval (.Constant (.bool b) k pos) env) Q σ:=fun _ _ R=>wpAny_Constant_bool ⟨σ,R,h⟩
theorem E.bytes{b:List UInt8}{k pos}{Q:Value→St→Prop}(h:Q (.bytes b.toArray 0) σ):WE D A L (eval (.Constant (.bytes b) k pos) env) Q σ:=fun _ s R=>
 wpAny_bind (m:=PySem.fresh) (f:=fun t=>Pure.pure (Value.bytes b.toArray t)) (wpAny_fresh (wpAny_pure ⟨σ,R.tok _,h⟩))
noncomputable def W2(D:Wd)(A:Around)(L:Addr)(f:Value→Value→Sem Value)(a b:Value)(Q:Value→St→Prop)(σ:St):Prop:=
 ∀ va vb,er va=a→er vb=b→WE D A L (f va vb) Q σ
noncomputable def W1(D:Wd)(A:Around)(L:Addr)(f:Value→Sem α)(a:Value)(Q:α→St→Prop)(σ:St):Prop:=∀ va,er va=a→W D A L (f va) Q σ
noncomputable def WE1(D:Wd)(A:Around)(L:Addr)(f:Value→Sem Value)(a:Value)(Q:Value→St→Prop)(σ:St):Prop:=∀ va,er va=a→WE D A L (f va) Q σ
noncomputable abbrev k2(D:Wd)(A:Around)(L:Addr)(f:Value→Value→Sem Value)(a:Value)(Q:Value→St→Prop):Value→St→Prop:=fun b σ=>W2 D A L f a b Q σ
noncomputable abbrev vA(D:Wd)(A:Around)(L:Addr)(env:Env)(r:Expr)(f:Value→Value→Sem Value)(Q:Value→St→Prop):Value→St→Prop:=fun a σ=>WE D A L (eval r env) (k2 D A L f a Q) σ
noncomputable abbrev v8(Q:Bool→St→Prop):Value→St→Prop:=fun v σ=> ∃ t,v= .bool t∧Q t σ
noncomputable abbrev k1{α:Type}(D:Wd)(A:Around)(L:Addr)(f:Value→Sem α)(Q:α→St→Prop):Value→St→Prop:=fun a σ=>W1 D A L f a Q σ
theorem E.binop{l r:Expr}{op:Operator}{pos:Pos}{Q:Value→St→Prop}(h:WE D A L (eval l env) (vA D A L env r (binaryOp op) Q) σ):
 WE D A L (eval (.BinOp l op r pos) env) Q σ:=fun F s R=>
 wpAny_BinOp (wpAny_mono (h F s R) (fun a s₁=>ar fun σ₁ R₁ h₁=>wpAny_mono (h₁ F s₁ R₁) (fun b s₂=>ar fun _ R₂ h₂=>h₂ a b rfl rfl F s₂ R₂) fun _ _ x=>x) fun _ _ x=>x)
theorem E.compare{l r:Expr}{op:CmpOp}{pos:Pos}{Q:Value→St→Prop}(h:WE D A L (eval l env) (vA D A L env r (compareOp op) Q) σ)
 (hm:behindInMarks op r=false:=by rfl):WE D A L (eval (.Compare l [op] [r] pos) env) Q σ:=fun F s R=>
 wpAny_Compare1 (wpAny_mono (h F s R) (fun a s₁=>ar fun σ₁ R₁ h₁=>wpAny_mono (h₁ F s₁ R₁) (fun b s₂=>ar fun _ R₂ h₂=>h₂ a b rfl rfl F s₂ R₂) fun _ _ x=>x) fun _ _ x=>x) hm
theorem E.unary{x:Expr}{op:UnaryOp}{pos:Pos}{Q:Value→St→Prop}(h:WE D A L (eval x env) (fun a σ₁=>WE1 D A L (unaryOp op) a Q σ₁) σ):
 WE D A L (eval (.UnaryOp op x pos) env) Q σ:=fun F s R=>wpAny_UnaryOp (wpAny_mono (h F s R) (fun a s₁=>ar fun _ R₁ h₁=>h₁ a rfl F s₁ R₁) fun _ _ x=>x)
noncomputable abbrev WT(D:Wd)(A:Around)(L:Addr)(env:Env)(e:Expr)(Q:Bool→St→Prop)(σ:St):Prop:=W D A L (isTrue e env (eval e env)) Q σ
theorem T.compare{l r:Expr}{op:CmpOp}{pos:Pos}{Q:Bool→St→Prop}(h:WE D A L (eval l env) (vA D A L env r (compareOp op) (v8 Q)) σ)
 (hm:behindInMarks op r=false:=by rfl):WT D A L env (.Compare l [op] [r] pos) Q σ:=fun F s R=>
 wpAny_isTrue_Compare1 (wpAny_mono (h F s R) (fun a s₁=>ar fun σ₁ R₁ h₁=>wpAny_mono (h₁ F s₁ R₁) (fun b s₂=>ar fun _ R₂ h₂=>wpAny_mono (h₂ a b rfl rfl F s₂ R₂) (fun v s₃=>ko fun σ₃ R₃ t e q=>by
  rw [eR e];exact wpAny_truthy_bool ⟨σ₃,R₃,q⟩) fun _ _ x=>x) fun _ _ x=>x) fun _ _ x=>x) hm
theorem T.not{x:Expr}{pos:Pos}{Q:Bool→St→Prop}(h:WT D A L env x (fun b σ₁=>Q (!b) σ₁) σ):WT D A L env (.UnaryOp .Not x pos) Q σ:=fun F s R=>
 wpAny_isTrue_Not (h F s R)
theorem T.value{e:Expr}{Q:Bool→St→Prop}(h:WE D A L (eval e env) (k1 D A L truthy Q) σ)
 (he:isTrue e env (eval e env)=(do let v ← eval e env;PySem.standAt e.pos;PySem.holding [v] (truthy v)):=by rfl):WT D A L env e Q σ:=fun F s R=>
 wpAny_isTrue_value (wpAny_mono (h F s R) (fun a s₁=>ar fun _ R₁ h₁=>h₁ a rfl F s₁ R₁) fun _ _ x=>x) he
theorem T.boolop{op:BoolOp}{vs:List Expr}{pos:Pos}{Q:Bool→St→Prop}(h:W D A L (allTrue op vs env) Q σ):WT D A L env (.BoolOp op vs pos) Q σ:=fun F s R=>wpAny_isTrue_BoolOp (h F s R)
theorem W.andNil{Q:Bool→St→Prop}(h:Q true σ):W D A L (allTrue .And [] env) Q σ:=fun _ _ R=>wpAny_allTrue_And_nil ⟨σ,R,h⟩
theorem W.orNil{Q:Bool→St→Prop}(h:Q false σ):W D A L (allTrue .Or [] env) Q σ:=fun _ _ R=>wpAny_allTrue_Or_nil ⟨σ,R,h⟩
theorem W.andCons{x:Expr}{r:List Expr}{Q:Bool→St→Prop}(h:WT D A L env x (fun b σ₁=>if b then W D A L (allTrue .And r env) Q σ₁ else Q false σ₁) σ):W D A L (allTrue .And (x::r) env) Q σ:=fun F s R=>
 wpAny_allTrue_And_cons (wpAny_mono (h F s R) (fun b s₁=>ar fun σ₁ R₁ h₁=>by cases b with
  | true=>exact h₁ F s₁ R₁
  | false=>exact⟨σ₁,R₁,h₁⟩) fun _ _ x=>x)
theorem W.orCons{x:Expr}{r:List Expr}{Q:Bool→St→Prop}(h:WT D A L env x (fun b σ₁=>if b then Q true σ₁ else W D A L (allTrue .Or r env) Q σ₁) σ):W D A L (allTrue .Or (x::r) env) Q σ:=fun F s R=>
 wpAny_allTrue_Or_cons (wpAny_mono (h F s R) (fun b s₁=>ar fun σ₁ R₁ h₁=>by cases b with
  | false=>exact h₁ F s₁ R₁
  | true=>exact⟨σ₁,R₁,h₁⟩) fun _ _ x=>x)
theorem E.ifexp{t b o:Expr}{pos:Pos}{Q:Value→St→Prop}(h:WT D A L env t (fun c σ₁=>if c then WE D A L (eval b env) Q σ₁ else WE D A L (eval o env) Q σ₁) σ):WE D A L (eval (.IfExp t b o pos) env) Q σ:=fun F s R=>
 wpAny_IfExp (wpAny_mono (h F s R) (fun c s₁=>ar fun σ₁ R₁ h₁=>by cases c<;> exact h₁ F s₁ R₁) fun _ _ x=>x)
theorem E.or2{x y:Expr}{pos:Pos}{Q:Value→St→Prop}(h:WE D A L (eval x env) (fun v σ₁=>W1 D A L truthy v (fun t σ₂=>if t then Q v σ₂ else WE D A L (eval y env) Q σ₂) σ₁) σ):WE D A L (eval (.BoolOp .Or [x,y] pos) env) Q σ:=fun F s R=>
 wpAny_Or2 (wpAny_mono (h F s R) (fun v s₁=>ar fun _ R₁ h₁=>wpAny_mono (h₁ v rfl F s₁ R₁) (fun t s₂=>ar fun σ₂ R₂ h₂=>by cases t with
  | false=>exact h₂ F s₂ R₂
  | true=>exact⟨σ₂,R₂,h₂⟩) fun _ _ x=>x) fun _ _ x=>x)
noncomputable abbrev WI(D:Wd)(A:Around)(L:Addr)(env:Env)(pos:Pos)(es:List Expr)(Q:List Value→St→Prop)(σ:St):Prop:=W D A L (spliced (backTo pos (starEach es env))) (fun vs σ'=>Q (vs.map er) σ') σ
theorem I.nil{pos:Pos}{Q:List Value→St→Prop}(h:Q [] σ):WI D A L env pos [] Q σ:=fun _ _ R=>wpAny_items_nil ⟨σ,R,h⟩
noncomputable abbrev vt(v:Value)(Q:List Value→St→Prop):List Value→St→Prop:=fun vs σ=>Q (v::vs) σ
noncomputable abbrev kIt(D:Wd)(A:Around)(L:Addr)(env:Env)(pos:Pos)(r:List Expr)(Q:List Value→St→Prop):Value→St→Prop:=fun v σ=>WI D A L env pos r (vt v Q) σ
theorem I.cons{pos:Pos}{e:Expr}{r:List Expr}{Q:List Value→St→Prop}(h:WE D A L (eval e env) (kIt D A L env pos r Q) σ)
 (he:starEach (e::r) env=(false,eval e env)::starEach r env:=by rfl):WI D A L env pos (e::r) Q σ:=fun F s R=>
 wpAny_items_cons (wpAny_mono (h F s R) (fun v s₁=>ar fun _ R₁ h₁=>h₁ F s₁ R₁) fun _ _ x=>x) he
theorem dy(h:Heap):h.get? h.objs.size=none:=by
 cases q:h.get? h.objs.size with
 | none=>rfl
 | some o=>exact absurd (Heap.lt_size q) (Nat.lt_irrefl _)
noncomputable def New(Q:Value→St→Prop)(σ:St)(ao:AO):Prop:=∀ a,σ.H a=none→Q (.ref a) { σ with H:=upd σ.H a ao}
theorem Rel.push{F:Frz}{s:Shared}(R:Rel D L F σ s)(o:Obj){ao:AO}(hf:o.isFreed=false)(x:AtO D.w o ao){Q:Value→St→Prop}(h:New Q σ ao):
 ∃ σ',Rel D L F σ' { s with heap:=s.heap.push o} ∧Q (.ref s.heap.objs.size) σ':=
 ⟨_,R.alloc (t:=s.toks) (Nat.le_refl _) (fun _ _ e=>Heap.get?_push_of_some _ e) ⟨o,Heap.get?_push_size _ hf,x⟩,h _ (R.rel.fresh (dy _)).2⟩
noncomputable abbrev v5(Q:Value→St→Prop):List Value→St→Prop:=fun vs σ=>vs.length≤sizeLine∧New Q σ (.list vs)
noncomputable abbrev xh(Q:Value→St→Prop):List Value→St→Prop:=fun vs σ=>vs.length≤sizeLine∧New Q σ (.tuple vs)
theorem E.list{es:List Expr}{pos:Pos}{Q:Value→St→Prop}(h:WI D A L env pos es (v5 Q) σ):WE D A L (eval (.List es pos) env) Q σ:=fun F s R=>
 wpAny_List (wpAny_mono (h F s R) (fun vs s₁=>ar fun σ₁ R₁ h₁=>⟨by simpa using h₁.1,R₁.push (ao:= .list (vs.map er)) _ rfl ⟨_,_,rfl,rfl⟩ h₁.2⟩) fun _ _ x=>x)
theorem E.tuple{es:List Expr}{k:Nat}{pos:Pos}{Q:Value→St→Prop}(h:WI D A L env pos es (xh Q) σ):WE D A L (eval (.Tuple es k pos) env) Q σ:=fun F s R=>
 wpAny_Tuple (wpAny_mono (h F s R) (fun vs s₁=>ar fun σ₁ R₁ h₁=>⟨by simpa using h₁.1,R₁.push (ao:= .tuple (vs.map er)) _ rfl ⟨_,_,rfl,rfl⟩ h₁.2⟩) fun _ _ x=>x)
noncomputable abbrev WS(D:Wd)(A:Around)(L:Addr)(env:Env)(st:Stmt)(Q:Flow→St→Prop)(σ:St):Prop:=W D A L (exec st env) Q σ
noncomputable abbrev WB(D:Wd)(A:Around)(L:Addr)(env:Env)(sts:List Stmt)(Q:Flow→St→Prop)(σ:St):Prop:=W D A L (execs sts env) Q σ
theorem B.nil{Q:Flow→St→Prop}(h:Q .next σ):WB D A L env [] Q σ:=fun _ _ R=>wpAny_execs_nil ⟨σ,R,h⟩
noncomputable def mM(N:St→Prop)(Q:Flow→St→Prop):Flow→St→Prop:=fun f σ=>match f with | .next=>N σ | f=>Q f σ
noncomputable abbrev xj(D:Wd)(A:Around)(L:Addr)(env:Env)(r:List Stmt)(Q:Flow→St→Prop):Flow→St→Prop:=mM (fun σ=>WB D A L env r Q σ) Q
noncomputable abbrev xo(x:Str)(Q:Flow→St→Prop):Value→St→Prop:=fun v σ=>Q .next { σ with loc:=ca σ.loc x v}
noncomputable abbrev vB(c:Addr)(Q:Flow→St→Prop):Value→St→Prop:=fun v σ=> ∃ v₀,σ.H c=some (.cell v₀)∧Q .next { σ with H:=upd σ.H c (.cell (some v))}
noncomputable abbrev xk(Q:Flow→St→Prop):Value→St→Prop:=fun v σ=> ∀ v',er v'=v→Q (.ret v') σ
noncomputable abbrev gV(D:Wd)(A:Around)(L:Addr)(env:Env)(b o:List Stmt)(Q:Flow→St→Prop):Bool→St→Prop:=fun c σ=>if c then WB D A L env b Q σ else WB D A L env o Q σ
noncomputable abbrev vp(I:Nat→St→Prop)(n:Nat)(Q:Flow→St→Prop):Flow→St→Prop:=fun f σ=>match f with
 | .next | .cont=> ∃ m,m<n∧I m σ
 | .brk=>Q .next σ
 | .ret v=>Q (.ret v) σ
noncomputable abbrev bv(D:Wd)(A:Around)(L:Addr)(env:Env)(b o:List Stmt)(I:Nat→St→Prop)(n:Nat)(Q:Flow→St→Prop):Bool→St→Prop:=fun c σ=>if c then WB D A L env b (vp I n Q) σ else WB D A L env o Q σ
theorem B.cons{st:Stmt}{r:List Stmt}{Q:Flow→St→Prop}(h:WS D A L env st (xj D A L env r Q) σ):WB D A L env (st::r) Q σ:=fun F s R=>by
 rw [execs_cons]
 refine wpAny_bind (wpAny_mono (h F s R) (fun f s₁=>ar fun σ₁ R₁ h₁=>?_) fun _ _ x=>x)
 cases f with
 | next=>exact h₁ F s₁ R₁
 | brk=>exact wpAny_pure ⟨σ₁,R₁,h₁⟩
 | cont=>exact wpAny_pure ⟨σ₁,R₁,h₁⟩
 | ret v=>exact wpAny_pure ⟨σ₁,R₁,h₁⟩
theorem S.assign{x:Str}{px:Pos}{value:Expr}{pos:Pos}{Q:Flow→St→Prop}(h:WE D A L (eval value env) (xo x Q) σ)
 (hs:swapsWith value (some (.Name x px)) pos.line env=Pure.pure false:=by rfl) (hL:env.locals=L:=by rfl) (hk:env.scope.kind= .function:=by rfl) (hl:env.kindOf x=some .local:=by rfl):
 WS D A L env (.Assign [.Name x px] value pos) Q σ:=fun F s R=>
 wpAny_Assign_Name (wpAny_mono (h F s R) (fun v s₁=>ar fun _ R₁ h₁=>W.storeLocal (Q:=fun _ σ'=>Q .next σ') h₁ hL hk hl F s₁ R₁) fun _ _ x=>x) hs
theorem S.assignCell{x:Str}{px:Pos}{value:Expr}{pos:Pos}{c:Addr}{Q:Flow→St→Prop}(hc:env.cells.lookup x=some c)(h:WE D A L (eval value env) (vB c Q) σ)
 (hs:swapsWith value (some (.Name x px)) pos.line env=Pure.pure false:=by rfl) (hk:env.scope.kind= .function:=by rfl) (hl:env.kindOf x=some .cell:=by rfl):
 WS D A L env (.Assign [.Name x px] value pos) Q σ:=fun F s R=>
 wpAny_Assign_Name (wpAny_mono (h F s R) (fun v s₁=>ko fun _ R₁ v₀ hv h₁=>W.storeCell (Q:=fun _ σ'=>Q .next σ') hc hv h₁ hk hl F s₁ R₁) fun _ _ x=>x) hs
theorem S.ret{e:Expr}{pos:Pos}{Q:Flow→St→Prop}(h:WE D A L (eval e env) (xk Q) σ):WS D A L env (.Return (some e) pos) Q σ:=fun F s R=>
 wpAny_Return_some (wpAny_mono (h F s R) (fun v s₁=>ar fun σ₁ R₁ h₁=>⟨σ₁,R₁,h₁ v rfl⟩) fun _ _ x=>x)
theorem S.retNone{pos:Pos}{Q:Flow→St→Prop}(h:Q (.ret .none) σ):WS D A L env (.Return Option.none pos) Q σ:=fun _ _ R=>wpAny_Return_none ⟨σ,R,h⟩
theorem S.pass{pos:Pos}{Q:Flow→St→Prop}(h:Q .next σ):WS D A L env (.Pass pos) Q σ:=fun _ _ R=>wpAny_Pass ⟨σ,R,h⟩
theorem S.brk{pos:Pos}{Q:Flow→St→Prop}(h:Q .brk σ):WS D A L env (.Break pos) Q σ:=fun _ _ R=>wpAny_Break ⟨σ,R,h⟩
theorem S.cont{pos:Pos}{Q:Flow→St→Prop}(h:Q .cont σ):WS D A L env (.Continue pos) Q σ:=fun _ _ R=>wpAny_Continue ⟨σ,R,h⟩
theorem S.ite{t:Expr}{b o:List Stmt}{pos:Pos}{Q:Flow→St→Prop}(h:WT D A L env t (gV D A L env b o Q) σ):WS D A L env (.If t b o pos) Q σ:=fun F s R=>
 wpAny_If (wpAny_mono (h F s R) (fun c s₁=>ar fun _ R₁ h₁=>by cases c<;> exact h₁ F s₁ R₁) fun _ _ x=>x)
theorem S.augName{x:Str}{px:Pos}{op:Operator}{value:Expr}{pos:Pos}{a:Value}{Q:Flow→St→Prop}(hv:σ.loc x=some a)(h:WE D A L (eval value env) (fun b σ₁=>W2 D A L (inplaceOp op) a b (fun r σ₂=>Q .next { σ₂ with loc:=ca σ₂.loc x r}) σ₁) σ)
 (hL:env.locals=L:=by rfl) (hk:env.scope.kind= .function:=by rfl) (hl:env.kindOf x=some .local:=by rfl):WS D A L env (.AugAssign (.Name x px) op value pos) Q σ:=fun F s R=>by
 refine ai R.nsOf fun m hn hm=>?_
 refine ai (aP ((hm x).trans hv)) fun v' hv' e=>?_
 have hL':=hL
 subst hL
 exact wpAny_AugAssign_Name (wpAny_loadName_local hk hl hn hv' (wpAny_mono (h F s R) (fun b s₁=>ar fun _ R₁ h₁=>wpAny_mono (h₁ v' b e rfl F s₁ R₁) (fun r s₂=>ar fun _ R₂ h₂=>
  W.storeLocal (Q:=fun _ σ'=>Q .next σ') h₂ rfl hk hl F s₂ R₂) fun _ _ x=>x) fun _ _ x=>x))
theorem W.runOwn{c:Code}{Q:Flow→St→Prop}(h:∀ F s,Rel D L F σ s→codeAny (model PR D.w) A c (fun r s'=> ∃ f,r= .ok f∧ ∃ σ',Rel D L F σ' s'∧Q f σ') s):W D A L (runOwn c env) Q σ:=fun F s R=>
 wpAny_runOwn (codeAny_mono (h F s R) fun r s'=>ar fun f e q=>by subst e;exact q)
theorem S.while_{t:Expr}{b o:List Stmt}{pos:Pos}{Q:Flow→St→Prop}(I:Nat→St→Prop)(n:Nat)(h0:I n σ)
 (turn:∀ n σ,I n σ→WT D A L env t (bv D A L env b o I n Q) σ):WS D A L env (.While t b o pos) Q σ:=fun F s R=>by
 rw [exec_While]
 refine wpAny_bind (wpAny_standAt (W.runOwn (fun F s R=>?_) F s R))
 let Jv:Nat→Shared→Prop:=fun n s=> ∃ σ,Rel D L F σ s∧I n σ
 refine codeAny_whileLoop Jv (fun n s=>ar fun σ R hI=>wpAny_mono (turn n σ hI F s R) (fun c s₂=>ar fun σ₂ R₂ h₂=>?_) fun _ _ x=>x.elim) n ⟨σ,R,h0⟩
 cases c with
 | false=>exact wpAny_mono (h₂ F s₂ R₂) (fun f s₃ q=>⟨f,rfl,q⟩) fun _ _ x=>x.elim
 | true=>
  refine wpAny_mono (h₂ F s₂ R₂) (fun f s₃=>ar fun σ₃ R₃ q=>?_) fun _ _ x=>x.elim
  cases f with
  | next=>refine ai q fun m hm q=>?_;exact⟨m,hm,σ₃,R₃,q⟩
  | cont=>refine ai q fun m hm q=>?_;exact⟨m,hm,σ₃,R₃,q⟩
  | brk=>exact⟨_,rfl,σ₃,R₃,q⟩
  | ret v=>exact⟨_,rfl,σ₃,R₃,q⟩
theorem W.foldL{D:Wd}{A:Around}{L:Addr}{α:Type}{t:Sem α}{Q:α→St→Prop}{loc:Str→Option Value}{H:AH}(h:let l:=loc;let q:=Q;W D A L t q ⟨l,H⟩):W D A L t Q ⟨loc,H⟩:=h
theorem WB.fold3{D:Wd}{A:Around}{L:Addr}{env:Env}{b:List Stmt}{Q:Flow→St→Prop}{σ:St}(h:let A:=A;let env:=env;let Q:=Q;WB D A L env b Q σ):WB D A L env b Q σ:=h
end
end Mine
end
section
open PySem PySem.W PyProof.Rows PySem.Calls
namespace Mine
noncomputable def dt(F:Frz)(fp:List Addr)(h:Heap):Frz:=fun b=>if b∈fp then h.get? b else F b
noncomputable def Hid(F:Frz)(H:AH)(fp:List Addr):Prop:=∀ b∈fp,F b=none∧H b=none
noncomputable def Has(H:AH)(g:List (Addr×AO)):Prop:=∀ p∈g,H p.1=some p.2
theorem Has.ext{H H':AH}{g:List (Addr×AO)}(x:Has H g)(e:Ext H H'):Has H' g:=fun p hp=>e _ _ (x p hp)
theorem Has.nil{H:AH}:Has H []:=fun _ h=>nomatch h
theorem Has.one{H:AH}{a:Addr}{o:AO}(h:H a=some o):Has H [(a,o)]:=fun p hp=>by rw [List.mem_singleton.mp hp];exact h
noncomputable def gw(i:Value ⊕ AO)(v:Value)(H H':AH):Prop:=match i with
 | .inl x=>er v=x∧H'=H
 | .inr ao=> ∃ a,v= .ref a∧H a=none∧H'=upd H a ao
noncomputable def mW(i:Value ⊕ AO)(K:Value→St→Prop)(σ:St):Prop:=match i with
 | .inl x=> ∀ v,er v=x→K v σ
 | .inr ao=> ∀ a,σ.H a=none→K (.ref a) { σ with H:=upd σ.H a ao}
section
variable {D:Wd}{A:Around}{L:Addr}{α β:Type}{σ:St}{env:Env}{F:Frz}{H:AH}{s:Shared}{fp:List Addr}
theorem dX{h:Heap}(hF:∀ b∈fp,F b=none):∀ b ob,F b=some ob→dt F fp h b=some ob:=fun b ob e=>by
 unfold dt
 rw [if_neg fun q=>by rw [hF b q]at e;cases e];exact e
theorem az{α:Type}{f g:Addr→Option α}(k:∀ b o,f b=some o→g b=some o){a:Addr}(e:g a=none):f a=none:=by
 cases q:f a with
 | none=>rfl
 | some o=>have:=k a o q;rw [e]at this;cases this
theorem Rel0.hideL(R:Rel0 D F H s)(hh:Hid F H fp):Rel0 D (dt F fp s.heap) H s:=by
 refine⟨fun b o e=>dX (fun b hb=>(hh b hb).1) b o (R.base b o e),fun b o e=>?_,fun a ao e=>⟨?_,(R.obj a ao e).2⟩,R.os,R.gens,R.hi⟩
 ·unfold dt at e
  split at e
  ·exact e
  ·exact R.frz b o e
 ·unfold dt
  rw [if_neg fun q=>by rw [(hh a q).2]at e;cases e];exact(R.obj a ao e).1
theorem Rel0.unhideL{h:Heap}(R:Rel0 D (dt F fp h) H s)(hb:∀ b o,D.h₀.get? b=some o→F b=some o)(hF:∀ b∈fp,F b=none)(live:∀ b∈fp,∃ o,h.get? b=some o):
 Rel0 D F H s∧Hid F H fp∧ ∀ b∈fp,∀ o,h.get? b=some o→s.heap.get? b=some o:=by
 have at_:∀ b∈fp,∀ o,h.get? b=some o→dt F fp h b=some o:=fun b hb o e=>by unfold dt;rw [if_pos hb];exact e
 refine⟨⟨hb,fun b o e=>R.frz b o (dX hF b o e),fun a ao e=>⟨az (dX hF) (R.obj a ao e).1,(R.obj a ao e).2⟩,R.os,R.gens,R.hi⟩,fun b hb=>⟨hF b hb,?_⟩,fun b hb o e=>R.frz b o (at_ b hb o e)⟩
 cases q:H b with
 | none=>rfl
 | some x=>
  obtain⟨o,ho⟩:=live b hb
  have:=(R.obj b x q).1
  rw [at_ b hb o ho]at this;cases this
theorem Rel0.hid(R:Rel0 D F H s)(hh:Hid F H fp){h':Heap}{t:Nat}(k:∀ b o,b∉fp→s.heap.get? b=some o→h'.get? b=some o):Rel0 D F H { s with heap:=h',toks:=t}:=
 ⟨R.base,fun b o e=>k b o (fun q=>by rw [(hh b q).1]at e;cases e) (R.frz b o e),fun a ao e=>⟨(R.obj a ao e).1,(R.obj a ao e).2.keepAt fun o=>k a o fun q=>by rw [(hh a q).2]at e;cases e⟩,R.os,R.gens,R.hi⟩
theorem Rel.push0(R:Rel D L F σ s):Rel0 D F (upd σ.H L (.ns σ.loc)) s:=
 ⟨R.rel.base,R.rel.frz,fun a ao e=>by
  by_cases q:a=L
  ·subst q;rw [ah]at e;cases e;exact⟨R.FL,R.ns⟩
  ·rw [af q]at e;exact R.rel.obj a ao e,R.rel.os,R.rel.gens,fun a ao e=>by
  by_cases q:a=L
  ·rw [q];exact R.hiL
  ·rw [af q]at e;exact R.rel.hi a ao e⟩
theorem Rel.pop0{H:AH}(R:Rel0 D F H s){m:Str→Option Value}(hL:H L=some (.ns m)):Rel D L F ⟨m,del H L⟩ s:=
 ⟨R.mono fun a o (e:del H L a=some o)=>by
  by_cases q:a=L
  ·subst q;rw [b7]at e;cases e
  ·rw [ay q]at e;exact e,(R.obj _ _ hL).1,b7 _ _,(R.obj _ _ hL).2,R.hi _ _ hL⟩
theorem bf{L:Addr}{o:AO}(h:H L=none):del (upd H L o) L=H:=funext fun b=>by
 by_cases q:b=L
 ·rw [q,b7,h]
 ·rw [ay q,af q]
theorem kH{a b:Addr}{x y:AO}(h:a≠b):upd (upd H a x) b y=upd (upd H b y) a x:=funext fun c=>by
 by_cases q:c=a
 ·subst q;rw [af h,ah,ah]
 ·by_cases r:c=b
  ·subst r;rw [ah,af q,ah]
  ·rw [af r,af q,af q,af r]
structure Turns (D:Wd) (A:Around) (target:Expr) (n:Nat) (itm:Nat→Value ⊕ AO) (g:List (Addr×AO)) (it:Addr) (fp:List Addr) (J:Nat→Heap→Prop) (Jo:Value→Nat→Heap→Prop):Prop where
 frame:∀ k h h',J k h→(∀ b∈fp,∀ o,h.get? b=some o→h'.get? b=some o)→J k h'
 live:∀ k h,J k h→ ∀ b∈fp,∃ o,h.get? b=some o
 next:∀ k F H s (Q:Option Value→Shared→Prop),Rel0 D F H s→Has H g→Hid F H fp→J k s.heap→k<n→
  (∀ v s' H',Rel0 D F H' s'→Hid F H' fp→Jo v (k+1) s'.heap→gw (itm k) v H H'→Q (some v) s')→wpAny (model PR D.w) A (pyNext (.ref it)) Q (fun _ _=>False) s
 go:∀ v k F H s (Q:Unit→Shared→Prop),Rel0 D F H s→Hid F H fp→Jo v k s.heap→(∀ s',Rel0 D F H s'→J k s'.heap→Q () s')→wpAny (model PR D.w) A (letOwnedTupleGo target (.ref it) v) Q (fun _ _=>False) s
 stop:∀ F H s (Q:Option Value→Shared→Prop),Rel0 D F H s→Has H g→Hid F H fp→J n s.heap→(∀ s',Rel0 D F H s'→(∀ b o,b∉fp→s.heap.get? b=some o→s'.heap.get? b=some o)→Q none s')→
  wpAny (model PR D.w) A (pyNext (.ref it)) Q (fun _ _=>False) s
 self:∀ k F H s (Q:Value→Shared→Prop),Rel0 D F H s→J k s.heap→Q (.ref it) s→wpAny (model PR D.w) A (pyIter (.ref it)) Q (fun _ _=>False) s
theorem Turns.one{target:Expr}{n:Nat}{val:Nat→Value}{g:List (Addr×AO)}{it:Addr}{J:Nat→Obj→Prop}(ht:∀ it v,letOwnedTupleGo target it v=Pure.pure ())
 (next:∀ k F H s o (Q:Option Value→Shared→Prop),Rel0 D F H s→Has H g→s.heap.get? it=some o→J k o→k<n→
  (∀ v h' t o',er v=val k→J (k+1) o'→h'.get? it=some o'→(∀ b,b≠it→h'.get? b=s.heap.get? b)→Q (some v) { s with heap:=h',toks:=t})→wpAny (model PR D.w) A (pyNext (.ref it)) Q (fun _ _=>False) s)
 (stop:∀ F H s o (Q:Option Value→Shared→Prop),Rel0 D F H s→Has H g→s.heap.get? it=some o→J n o→
  (∀ h' t,(∀ b o,b≠it→s.heap.get? b=some o→h'.get? b=some o)→Q none { s with heap:=h',toks:=t})→wpAny (model PR D.w) A (pyNext (.ref it)) Q (fun _ _=>False) s)
 (self:∀ k s o (Q:Value→Shared→Prop),s.heap.get? it=some o→J k o→Q (.ref it) s→wpAny (model PR D.w) A (pyIter (.ref it)) Q (fun _ _=>False) s):
 Turns D A target n (fun k=> .inl (val k)) g it [it] (fun k h=> ∃ o,h.get? it=some o∧J k o) (fun _ k h=> ∃ o,h.get? it=some o∧J k o) where
 frame:=fun k h h'=>ar fun o ho j hk=>⟨o,hk it (List.mem_singleton.mpr rfl) o ho,j⟩
 live:=fun k h=>ar fun o ho j b hb=>⟨o,by rw [List.mem_singleton.mp hb];exact ho⟩
 next:=fun k F H s Q R G hh=>ar fun o ho j hk hq=>next k F H s o Q R G ho j hk fun v h' t o' ev j' ho' hb=>
  hq v _ H (R.hid hh fun b ob hn e=>(hb b fun q=>hn (List.mem_singleton.mpr q)).trans e) hh ⟨o',ho',j'⟩ ⟨ev,rfl⟩
 go:=fun v k F H s Q R hh j hq=>by rw [ht];exact wpAny_pure (hq s R j)
 stop:=fun F H s Q R G hh=>ar fun o ho j hq=>stop F H s o Q R G ho j fun h' t hb=>hq _ (R.hid hh fun b ob hn e=>hb b ob (fun q=>hn (List.mem_singleton.mpr q)) e) fun b ob hn e=>hb b ob (fun q=>hn (List.mem_singleton.mpr q)) e
 self:=fun k F H s Q R=>ar fun o ho j hq=>self k s o Q ho j hq
noncomputable def Src(D:Wd)(A:Around)(x:Value)(target:Expr)(n:Nat)(itm:Nat→Value ⊕ AO)(g:List (Addr×AO)):Prop:=
 ∀ F H s (Q:Value→Shared→Prop),Rel0 D F H s→Has H g→
  (∀ it fp J Jo s',Rel0 D F H s'→Hid F H fp→J 0 s'.heap→Turns D A target n itm g it fp J Jo→Q (.ref it) s')→wpAny (model PR D.w) A (pyIter x) Q (fun _ _=>False) s
theorem Rel0.fresh1(R:Rel0 D F H s){a:Addr}(hg:s.heap.objs.size≤a):Hid F H [a]:=fun b hb=>by
 rw [List.mem_singleton.mp hb];exact R.fresh (Heap.get?_none_of_le hg)
theorem Rel0.listOf{l:Addr}{vs:List Value}(R:Rel0 D F H s)(h:H l=some (.list vs)):∃ its:Array Value,s.heap.IsList l its∧its.toList.map er=vs:=by
 refine bz ((R.obj _ _ h).2) fun o ho its n h4_ e=>?_;obtain rfl:=h4_
 exact⟨its,⟨_,ho,rfl,n,rfl⟩,e⟩
theorem Rel0.tupleOf{l:Addr}{vs:List Value}(R:Rel0 D F H s)(h:H l=some (.tuple vs)):∃ its:Array Value,s.heap.IsTuple l its∧its.toList.map er=vs:=by
 refine bz ((R.obj _ _ h).2) fun o ho its n h4_ e=>?_;obtain rfl:=h4_
 exact⟨its,⟨_,ho,rfl,n,rfl⟩,e⟩
theorem Rel.listOf{l:Addr}{vs:List Value}(R:Rel D L F σ s)(h:σ.H l=some (.list vs)):∃ its:Array Value,s.heap.IsList l its∧its.toList.map er=vs:=R.rel.listOf h
theorem Rel.listAt{l:Addr}{vs:List Value}(R:Rel D L F σ s)(h:σ.H l=some (.list vs)):∃ (its:Array Value) (n:Nat),s.heap.get? l=some { cls:= .type "list",dict:=none,data:= .seq its n,slots:= #[]} ∧its.toList.map er=vs:=by
 refine bz (R.obj h) fun o ho its n h4_ e=>?_;obtain rfl:=h4_
 exact⟨its,n,ho,e⟩
theorem Rel.tupleOf{l:Addr}{vs:List Value}(R:Rel D L F σ s)(h:σ.H l=some (.tuple vs)):∃ its:Array Value,s.heap.IsTuple l its∧its.toList.map er=vs:=R.rel.tupleOf h
theorem bj{its:Array Value}{vs:List Value}(e:its.toList.map er=vs){k:Nat}(hk:k<vs.length):∃ x,its[k]?=some x∧er x=vs.getD k .none:=by
 subst e
 rw [List.length_map]at hk
 refine⟨its.toList[k],by rw [← Array.getElem?_toList];exact List.getElem?_eq_getElem hk,?_⟩
 rw [List.getD_eq_getElem?_getD,List.getElem?_map,List.getElem?_eq_getElem hk];rfl
theorem cT{its:Array Value}{vs:List Value}(e:its.toList.map er=vs){k:Nat}(hk:vs.length≤k):its[k]?=none:=by
 subst e
 rw [List.length_map]at hk
 exact Array.getElem?_eq_none (by simpa using hk)
theorem nZ{l:Addr}{vs:List Value}{target:Expr}(hh:A.handled=none)(ht:∀ it v,letOwnedTupleGo target it v=Pure.pure ():=by intro _ _;rfl):
 Src D A (.ref l) target vs.length (fun k=> .inl (vs.getD k .none)) [(l,.list vs)]:=by
 intro F H s Q R G hq
 refine ai (R.listOf (G _ (.head _))) fun its hl e=>?_
 refine wpAny_pyIter_list hl (hq _ [s.heap.objs.size] _ _ _ (R.ext (t:=s.toks) fun b o e=>Heap.get?_push_of_some _ e) (R.fresh1 (Nat.le_refl _)) ?_
  (Turns.one (J:=fun k o=>o.cls= .type "list_iterator" ∧o.data= .fields #[.ref l,.int k 0]) ht ?_ ?_ ?_))
 ·exact⟨_,Heap.get?_push_size _ rfl,rfl,rfl⟩
 ·intro k F H s o Q R G ho J hk hq
  refine ai (R.listOf (G _ (.head _))) fun its hl e=>?_
  refine ai (bj e hk) fun x hx ex=>?_
  exact wpAny_pyNext_list_item ⟨o,ho,J⟩ hl hx fun h'=>ar fun o' ho' j' hs=>hq x h' s.toks o' ex j' ho' hs.2
 ·intro F H s o Q R G ho J hq
  refine ai (R.listOf (G _ (.head _))) fun its hl e=>?_
  exact wpAny_pyNext_list_end hh ⟨o,ho,J⟩ hl (cT e (Nat.le_refl _)) fun h' hs=>hq h' s.toks fun b o hb e=>hs b o hb e
 ·intro k s o Q ho J hq
  exact wpAny_pyIter_listiter ⟨o,ho,J⟩ hq
theorem mA{l:Addr}{vs:List Value}{target:Expr}(hh:A.handled=none)(ht:∀ it v,letOwnedTupleGo target it v=Pure.pure ():=by intro _ _;rfl):
 Src D A (.ref l) target vs.length (fun k=> .inl (vs.getD k .none)) [(l,.tuple vs)]:=by
 intro F H s Q R G hq
 refine ai (R.tupleOf (G _ (.head _))) fun its hl e=>?_
 refine wpAny_pyIter_tuple hl (hq _ [s.heap.objs.size] _ _ _ (R.ext (t:=s.toks) fun b o e=>Heap.get?_push_of_some _ e) (R.fresh1 (Nat.le_refl _)) ?_
  (Turns.one (J:=fun k o=>o.cls= .type "tuple_iterator" ∧o.data= .fields #[.ref l,.int k 0]) ht ?_ ?_ ?_))
 ·exact⟨_,Heap.get?_push_size _ rfl,rfl,rfl⟩
 ·intro k F H s o Q R G ho J hk hq
  refine ai (R.tupleOf (G _ (.head _))) fun its hl e=>?_
  refine ai (bj e hk) fun x hx ex=>?_
  exact wpAny_pyNext_tuple_item ⟨o,ho,J⟩ hl hx fun h'=>ar fun o' ho' j' hs=>hq x h' s.toks o' ex j' ho' hs.2
 ·intro F H s o Q R G ho J hq
  refine ai (R.tupleOf (G _ (.head _))) fun its hl e=>?_
  exact wpAny_pyNext_tuple_end hh ⟨o,ho,J⟩ hl (cT e (Nat.le_refl _)) fun h' hs=>hq h' s.toks fun b o hb e=>hs b o hb e
 ·intro k s o Q ho J hq
  exact wpAny_pyIter_tupleiter ⟨o,ho,J⟩ hq
noncomputable def It(D:Wd)(A:Around)(L:Addr)(env:Env)(target e:Expr)(Q:Nat→(Nat→Value ⊕ AO)→List (Addr×AO)→St→Prop)(σ:St):Prop:=
 ∀ F s,Rel D L F σ s→wpAny (model PR D.w) A (eval e env) (fun x s₁=>wpAny (model PR D.w) A (pyIter x) (fun v s₂=> ∃ n itm g it fp J Jo σ',v= .ref it∧Rel D L F σ' s₂∧Hid F (upd σ'.H L (.ns σ'.loc)) fp∧J 0 s₂.heap∧
  Turns D A target n itm g it fp J Jo∧Has σ'.H g∧Q n itm g σ') (fun _ _=>False) s₁) (fun _ _=>False) s
theorem aa{o:AO}{L:Addr}(h:H L=none):Ext H (upd H L o):=fun b ob e=>by rw [af fun q=>by rw [q,h]at e;cases e];exact e
theorem It.of{target e:Expr}{Q:Nat→(Nat→Value ⊕ AO)→List (Addr×AO)→St→Prop}
 (h:WE D A L (eval e env) (fun x σ₁=> ∃ n itm g,(∀ v,er v=x→Src D A v target n itm g)∧Has σ₁.H g∧Q n itm g σ₁) σ):It D A L env target e Q σ:=fun F s R=>
 wpAny_mono (h F s R) (fun x s₁=>hO fun σ₁ R₁ n itm g hsrc hg q=>hsrc x rfl F _ s₁ _ R₁.push0 (hg.ext (aa R₁.HL)) fun it fp J Jo s' R' hh j T=>
  ⟨n,itm,g,it,fp,J,Jo,σ₁,rfl,by have:=Rel.pop0 R' (L:=L) (m:=σ₁.loc) (ah ..);rwa [bf R₁.HL]at this,hh,j,T,hg,q⟩) fun _ _ x=>x
theorem It.list{target e:Expr}{Q:Nat→(Nat→Value ⊕ AO)→List (Addr×AO)→St→Prop}(hh:A.handled=none)
 (h:WE D A L (eval e env) (fun x σ₁=> ∃ l vs,x= .ref l∧σ₁.H l=some (.list vs)∧Q vs.length (fun k=> .inl (vs.getD k .none)) [(l,.list vs)] σ₁) σ)
 (ht:∀ it v,letOwnedTupleGo target it v=Pure.pure ():=by intro _ _;rfl):It D A L env target e Q σ:=
 It.of (W.mono h fun x σ₁=>cV fun l vs e hl q=>⟨_,_,_,fun v hv=>by rw [e]at hv;rw [al hv];exact nZ hh ht,Has.one hl,q⟩)
theorem It.tuple{target e:Expr}{Q:Nat→(Nat→Value ⊕ AO)→List (Addr×AO)→St→Prop}(hh:A.handled=none)
 (h:WE D A L (eval e env) (fun x σ₁=> ∃ l vs,x= .ref l∧σ₁.H l=some (.tuple vs)∧Q vs.length (fun k=> .inl (vs.getD k .none)) [(l,.tuple vs)] σ₁) σ)
 (ht:∀ it v,letOwnedTupleGo target it v=Pure.pure ():=by intro _ _;rfl):It D A L env target e Q σ:=
 It.of (W.mono h fun x σ₁=>cV fun l vs e hl q=>⟨_,_,_,fun v hv=>by rw [e]at hv;rw [al hv];exact mA hh ht,Has.one hl,q⟩)
noncomputable def nY(N:St→Prop)(Q:Flow→St→Prop):Flow→St→Prop:=fun f σ=>match f with
 | .next=>N σ
 | .cont=>N σ
 | .brk=>Q .next σ
 | .ret v=>Q (.ret v) σ
theorem Rel.drawn{H':AH}{i:Value ⊕ AO}{v:Value}(hL:σ.H L=none)(R:Rel0 D F H' s)(x:gw i v (upd σ.H L (.ns σ.loc)) H'){K:Value→St→Prop}(q:mW i K σ):∃ σ',Rel D L F σ' s∧upd σ'.H L (.ns σ'.loc)=H'∧K v σ':=by
 cases i with
 | inl y=>obtain⟨e,rfl⟩:=x;exact⟨σ,by have:=Rel.pop0 R (L:=L) (ah ..);rwa [bf hL]at this,rfl,q v e⟩
 | inr ao=>
  refine aR x fun a h1_ hn h3_=>?_;clear x;obtain rfl:=h1_;obtain rfl:=h3_
  have ne:a≠L:=fun e=>by rw [e,ah]at hn;cases hn
  rw [af ne]at hn
  refine⟨_,?_,kH ne,q a hn⟩
  have:=Rel.pop0 R (L:=L) (m:=σ.loc) (by rw [af ne.symm,ah])
  rwa [kH ne.symm,bf (by rw [af ne.symm];exact hL)]at this
theorem Rel.hideL(R:Rel D L F σ s)(hh:Hid F (upd σ.H L (.ns σ.loc)) fp):Rel D L (dt F fp s.heap) σ s:=by
 have:=Rel.pop0 (R.push0.hideL hh) (L:=L) (ah ..)
 rwa [bf R.HL]at this
theorem Rel.unhideL{h:Heap}(R:Rel D L (dt F fp h) σ s)(hb:∀ b o,D.h₀.get? b=some o→F b=some o)(hF:∀ b∈fp,F b=none)(live:∀ b∈fp,∃ o,h.get? b=some o):
 Rel D L F σ s∧Hid F (upd σ.H L (.ns σ.loc)) fp∧ ∀ b∈fp,∀ o,h.get? b=some o→s.heap.get? b=some o:=by
 refine aE (R.push0.unhideL hb hF live) fun R' hh k=>?_
 refine⟨?_,hh,k⟩
 have:=Rel.pop0 R' (L:=L) (ah ..)
 rwa [bf R.HL]at this
noncomputable abbrev pI(D:Wd)(A:Around)(L:Addr)(env:Env)(body:List Stmt)(N:St→Prop)(Q:Flow→St→Prop):Unit→St→Prop:=fun _ σ=>WB D A L env body (nY N Q) σ
noncomputable abbrev v9(D:Wd)(A:Around)(L:Addr)(env:Env)(target:Expr)(body:List Stmt)(N:St→Prop)(Q:Flow→St→Prop):Value→St→Prop:=fun v σ=>W D A L (PySem.assign target env v) (pI D A L env body N Q) σ
noncomputable abbrev xm(D:Wd)(A:Around)(L:Addr)(env:Env)(target:Expr)(body orelse:List Stmt)(Q:Flow→St→Prop):Nat→(Nat→Value ⊕ AO)→List (Addr×AO)→St→Prop:=fun n itm g σ₁=> ∃ I:Nat→St→Prop,I 0 σ₁∧(∀ k σ,I k σ→Has σ.H g)∧
 (∀ k σ,k<n→I k σ→mW (itm k) (v9 D A L env target body (I (k+1)) Q) σ)∧(∀ σ,I n σ→WB D A L env orelse Q σ)
theorem S.for_{target iter:Expr}{body orelse:List Stmt}{pos:Pos}{Q:Flow→St→Prop}
 (h:It D A L env target iter (xm D A L env target body orelse Q) σ)
 (hs:∀ x,foldedSetIterable iter env x=Pure.pure x:=by intro _;rfl):WS D A L env (.For target iter body orelse pos) Q σ:=fun F s R=>by
 refine wpAny_For (wpAny_mono (h F s R) (fun x s₁ h₁=>wpAny_mono h₁ (fun v s₂=>aH fun n itm g it fp J Jo σ₁ e R₂ hh j T hg t_=>cI t_ fun I h0 hIG hturn hend=>?_) fun _ _ x=>x) fun _ _ x=>x) hs
 subst e
 refine codeAny_mono (R:=fun r s'=> ∃ f,r= .ok f∧ ∃ σ',Rel D L F σ' s'∧Q f σ') ?_ fun r s'=>ar fun f e q=>by subst e;exact q
 have base:=R₂.rel.base
 have hF:∀ b∈fp,F b=none:=fun b hb=>(hh b hb).1
 let Jv:Nat→Shared→Prop:=fun m s=> ∃ k σ,m+k=n∧Rel D L F σ s∧Hid F (upd σ.H L (.ns σ.loc)) fp∧J k s.heap∧I k σ
 refine codeAny_forLoop_any Jv (fun m s=>nw fun k σ hm R hh j hI=>?_) n ⟨0,σ₁,by exact rp,R₂,hh,j,h0⟩
 have hG:Has (upd σ.H L (.ns σ.loc)) g:=(hIG k σ hI).ext (aa R.HL)
 rcases Nat.lt_or_ge k n with hk | hk
 ·refine wpAny_mono (T.next k F _ s (fun r s₁=> ∃ v,r=some v∧ ∃ H',Rel0 D F H' s₁∧Hid F H' fp∧Jo v (k+1) s₁.heap∧gw (itm k) v (upd σ.H L (.ns σ.loc)) H') R.push0 hG hh j hk fun v s' H' R' hh' j' x=>⟨v,rfl,H',R',hh',j',x⟩) (fun r s₁=>cX fun v e H' R' hh' j' x=>?_) fun _ _ x=>x.elim
  subst e
  refine wpAny_mono (T.go v (k+1) F H' s₁ _ R' hh' j' fun s' R'' j''=>?_) (fun _ s' x=>x) fun _ _ x=>x.elim
  refine aR (Rel.drawn R.HL R'' x (hturn k σ hk hI)) fun σ' R₃ eH q=>?_
  have hh₃:Hid F (upd σ'.H L (.ns σ'.loc)) fp:=eH▸hh'
  refine wpAny_mono (q _ _ (R₃.hideL hh₃)) (fun _ s₃=>ar fun σ₄ R₄ h₄=>wpAny_mono (h₄ _ _ R₄) (fun f s₅=>ar fun σ₅ R₅ h₅=>?_) fun _ _ x=>x.elim) fun _ _ x=>x.elim
  refine aE (R₅.unhideL base hF (T.live _ _ j'')) fun R₆ hh₆ kp=>?_
  have j₆:=T.frame _ _ _ j'' kp
  cases f with
  | next=>exact⟨m-1,by exact qd hm hk,k+1,σ₅,by exact qc hm hk,R₆,hh₆,j₆,h₅⟩
  | cont=>exact⟨m-1,by exact qd hm hk,k+1,σ₅,by exact qc hm hk,R₆,hh₆,j₆,h₅⟩
  | brk=>exact⟨_,rfl,σ₅,R₆,h₅⟩
  | ret v=>exact⟨_,rfl,σ₅,R₆,h₅⟩
 ·obtain rfl:k=n:=by exact ro hm hk
  refine wpAny_mono (T.stop F _ s (fun r s₁=>r=none∧Rel D L F σ s₁) R.push0 hG hh j fun s' R' _=>⟨rfl,by have:=Rel.pop0 R' (L:=L) (ah ..);rwa [bf R.HL]at this⟩) (fun r s₁=>gD fun e R'=>?_) fun _ _ x=>x.elim
  subst e
  exact wpAny_mono (hend σ hI F _ R') (fun f s₄ q=>⟨f,rfl,q⟩) fun _ _ x=>x.elim
theorem S.forList{target iter:Expr}{body orelse:List Stmt}{pos:Pos}{Q:Flow→St→Prop}(l:Addr)(vs:List Value)(I:Nat→St→Prop)(hh:A.handled=none)
 (h:WE D A L (eval iter env) (fun x σ₁=>x= .ref l∧I 0 σ₁) σ) (hI:∀ k σ,I k σ→σ.H l=some (.list vs))
 (turn:∀ k σ v,k<vs.length→I k σ→er v=vs.getD k .none→W D A L (PySem.assign target env v) (pI D A L env body (I (k+1)) Q) σ)
 (hend:∀ σ,I vs.length σ→WB D A L env orelse Q σ)
 (hs:∀ x,foldedSetIterable iter env x=Pure.pure x:=by intro _;rfl) (ht:∀ it v,letOwnedTupleGo target it v=Pure.pure ():=by intro _ _;rfl):
 WS D A L env (.For target iter body orelse pos) Q σ:=
 S.for_ (It.list hh (W.mono h fun x σ₁=>gD fun e h0=>⟨l,vs,e,hI 0 _ h0,I,h0,fun k σ h=>Has.one (hI k σ h),fun k σ hk h v hv=>turn k σ v hk h hv,hend⟩) ht) hs
theorem S.forTuple{target iter:Expr}{body orelse:List Stmt}{pos:Pos}{Q:Flow→St→Prop}(l:Addr)(vs:List Value)(I:Nat→St→Prop)(hh:A.handled=none)
 (h:WE D A L (eval iter env) (fun x σ₁=>x= .ref l∧I 0 σ₁) σ) (hI:∀ k σ,I k σ→σ.H l=some (.tuple vs))
 (turn:∀ k σ v,k<vs.length→I k σ→er v=vs.getD k .none→W D A L (PySem.assign target env v) (pI D A L env body (I (k+1)) Q) σ)
 (hend:∀ σ,I vs.length σ→WB D A L env orelse Q σ)
 (hs:∀ x,foldedSetIterable iter env x=Pure.pure x:=by intro _;rfl) (ht:∀ it v,letOwnedTupleGo target it v=Pure.pure ():=by intro _ _;rfl):
 WS D A L env (.For target iter body orelse pos) Q σ:=
 S.for_ (It.tuple hh (W.mono h fun x σ₁=>gD fun e h0=>⟨l,vs,e,hI 0 _ h0,I,h0,fun k σ h=>Has.one (hI k σ h),fun k σ hk h v hv=>turn k σ v hk h hv,hend⟩) ht) hs
end
noncomputable abbrev vg(D:Wd)(F:Frz)(Q:Value→AH→Prop):Result→Shared→Prop:=fun r s=> ∃ v H,r= .ok (.ret v)∧Rel0 D F H s∧Q (er v) H
noncomputable def Cd(D:Wd)(A:Around)(c:Code)(Q:Value→AH→Prop)(H:AH):Prop:=
 ∀ F s,Rel0 D F H s→codeAny (model PR D.w) A c (vg D F Q) s
section
variable {D:Wd}{A:Around}{L:Addr}{α β:Type}{σ:St}{env:Env}{F:Frz}{s:Shared}
theorem Cd.mono{c:Code}{Q Q':Value→AH→Prop}{H:AH}(h:Cd D A c Q H)(k:∀ v H',Q v H'→Q' v H'):Cd D A c Q' H:=fun F s R=>
 codeAny_mono (h F s R) fun r s'=>cV fun v H' e R' q=>⟨v,H',e,R',k _ _ q⟩
noncomputable def nT(L:Addr)(σ:St)(Q:Value→St→Prop):Value→AH→Prop:=fun v H=>H L=some (.ns σ.loc)∧Q v ⟨σ.loc,del H L⟩
theorem W.call{f:Value}{args:List Value}{kw:List (Str×Value)}{Q:Value→St→Prop}(h:Cd D A (.call f ⟨args,kw⟩) (nT L σ Q) (upd σ.H L (.ns σ.loc))):
 WE D A L (PySem.call f args kw) Q σ:=fun F s R=>
 wpAny_call (codeAny_mono (h F s R.push0) fun r s'=>cG fun v H' e R' hL q=>by subst e;exact⟨_,Rel.pop0 R' hL,q⟩)
end
end Mine
end
section
open PySem PySem.W PyProof.Rows PySem.Calls
namespace Mine
section
variable {D:Wd}{A:Around}{L:Addr}{α β:Type}{σ:St}{env:Env}{F:Frz}{s:Shared}
theorem Rel0.ge(R:Rel0 D F H s):∀ a,s.heap.objs.size≤a→H a=none:=fun a h=>by
 cases q:H a with
 | none=>rfl
 | some o=>exact absurd (R.obj a o q).2.lt (Nat.not_lt.mpr h)
theorem Rel0.geF(R:Rel0 D F H s):∀ a,s.heap.objs.size≤a→F a=none:=fun a h=>by
 cases q:F a with
 | none=>rfl
 | some o=>exact absurd (Heap.lt_size (R.frz a o q)) (Nat.not_lt.mpr h)
noncomputable def ru:Flow→Value
 | .ret v=>v
 | _=> .none
theorem Cd.fn{f:Addr}{oc:Value}{od:Option Addr}{fd:FuncData}{osl:Array (Option Value)}{body:List Stmt}{args:Args}{binds:List (Str×Value)}{Q:Value→AH→Prop}{H:AH}{n:Nat}
 (hf:∀ P,(K0 P).lookup f=some ⟨oc,od,.func fd,osl⟩) (hbody:fd.body= .stmts body) (hcd:∀ P,codeIn (K0 P) fd.code fd.qualname=true)
 (hbind:bindArgs fd args=Pure.pure binds) (hA:Ok A (n+1)) (hcell:∀ x∈fd.scope.names,x.2≠ .cell) (hloc:∀ x∈binds,fd.scope.names.lookup x.1=some .local)
 (h:∀ L',(∀ a,L'≤a→H a=none)→Ok (A.deeper (callEnv fd L' f)) n→W D (A.deeper (callEnv fd L' f)) L' (execs body (callEnv fd L' f)) (fun fl σ'=>Q (er (ru fl)) σ'.H) ⟨fun x=>(binds.reverse.lookup x).map er,H⟩)
 (hco:fd.scope.isCoroutine=false:=by rfl) (hgen:fd.scope.isGenerator=false:=by rfl) (hk:fd.scope.kind= .function:=by rfl):Cd D A (.call (.ref f) args) Q H:=fun F s R=>by
 refine codeAny_call_def (fd:=fd) (body:=body) (binds:=binds) (by have:=hA.depth;show A.depth<1000;exact zq7 this) (R.K _ _ (hf _)) rfl R.sta.nolimit (codeRec_of R.K (hcd _)) hbody (BindsTo.of_eq hbind) hcell hloc (fun h₁ hns hk₁=>?_) hco hgen hk
 have R₁:Rel D s.heap.objs.size F ⟨fun x=>(binds.reverse.lookup x).map er,H⟩ { s with heap:=h₁,toks:=s.toks+binds.length}:=
  ⟨R.ext hk₁,R.geF _ (Nat.le_refl _),R.ge _ (Nat.le_refl _),At.of_ns hns fun _=>rfl,R.big⟩
 refine wpAny_mono (h _ R.ge (hA.deeper _) F _ R₁) (fun fl s'=>ar fun σ' R' q=>⟨_,_,?_,R'.rel,q⟩) fun _ _ x=>x.elim
 cases fl<;> rfl
noncomputable def fc(H:AH)(n:Nat)(cm:Str→Option Value):List (Str×NameKind)→AH
 | []=>H
 | (name,kind)::r=>if kind== .cell then fc (upd H n (.cell ((cm name).map er))) (n+1) cm r else fc H n cm r
theorem dN{cm:Str→Option Value}:∀ (names:List (Str×NameKind)) (H:AH) (n:Nat) (a:Addr) (o:AO),fc H n cm names a=some o→
 H a=some o∨ ∃ name,(name,a)∈cellsFrom n names []∧n≤a∧o= .cell ((cm name).map er):=by
 have key:∀ (names:List (Str×NameKind)) (n:Nat) (acc:List (Str×Addr)) (p:Str×Addr),p∈cellsFrom n names []→p∈cellsFrom n names acc:=by
  intro names
  have gen:∀ (names:List (Str×NameKind)) (n:Nat) (a1 a2:List (Str×Addr)),(∀ p∈a1,p∈a2)→ ∀ p∈cellsFrom n names a1,p∈cellsFrom n names a2:=by
   intro names
   induction names with
   | nil=>intro n a1 a2 h p hp;exact h p hp
   | cons x r ih=>
    obtain⟨nm,kd⟩:=x
    intro n a1 a2 h p hp
    unfold cellsFrom at hp ⊢
    split at hp
    ·rename_i q;rw [if_pos q]
     exact ih _ _ _ (fun p hp=>by rcases List.mem_cons.mp hp with e | e;exact e▸List.mem_cons_self;exact List.mem_cons_of_mem _ (h p e)) p hp
    ·rename_i q;rw [if_neg q];exact ih _ _ _ h p hp
  intro n acc p hp
  exact gen names n [] acc (fun _ h=>nomatch h) p hp
 have mem:∀ (names:List (Str×NameKind)) (n:Nat) (acc:List (Str×Addr)) (p:Str×Addr),p∈acc→p∈cellsFrom n names acc:=by
  intro names
  induction names with
  | nil=>intro n acc p h;exact h
  | cons x r ih=>
   obtain⟨nm,kd⟩:=x
   intro n acc p h
   unfold cellsFrom
   split
   ·exact ih _ _ p (List.mem_cons_of_mem _ h)
   ·exact ih _ _ p h
 intro names
 induction names with
 | nil=>intro H n a o h;exact .inl h
 | cons x r ih=>
  obtain⟨nm,kd⟩:=x
  intro H n a o h
  unfold fc at h
  unfold cellsFrom
  split at h
  ·rename_i q
   rw [if_pos q]
   rcases ih _ _ a o h with h | ⟨name,hm,hle,e⟩
   ·by_cases e:a=n
    ·subst e;rw [ah]at h;cases h
     exact .inr ⟨nm,mem _ _ _ _ List.mem_cons_self,Nat.le_refl _,rfl⟩
    ·rw [af e]at h;exact .inl h
   ·exact .inr ⟨name,key _ _ _ _ hm,by exact zq8 hle,e⟩
  ·rename_i q
   rw [if_neg q]
   exact ih _ _ a o h
theorem cu:∀ (names:List (Str×NameKind)) (n:Nat) (acc:List (Str×Addr)),(cellsFrom n names acc).map (·.1)=((names.filter fun x=>x.2== .cell).map (·.1)).reverse++acc.map (·.1)
 | [],_,_=>rfl
 | (nm,kd)::r,n,acc=>by
  unfold cellsFrom
  by_cases q:(kd==NameKind.cell)=true
  ·rw [if_pos q,cu r,List.filter_cons_of_pos (by exact q)]
   simp
  ·rw [if_neg q,cu r,List.filter_cons_of_neg (by exact q)]
theorem eB{α:Type}:∀ {l:List (Str×α)} {p:Str×α},(l.map (·.1)).Nodup→p∈l→l.lookup p.1=some p.2
 | x::r,p,hn,hp=>by
  rw [List.map_cons,List.nodup_cons]at hn
  rcases List.mem_cons.mp hp with e | hp
  ·subst e;simp [List.lookup]
  ·have ne:(p.1==x.1)=false:=by
    cases q:p.1==x.1 with
    | false=>rfl
    | true=>exact absurd (by rw [← beq_iff_eq.mp q];exact List.mem_map_of_mem hp) hn.1
   rw [List.lookup,ne]
   exact eB hn.2 hp
theorem Cd.fnC{f:Addr}{oc:Value}{od:Option Addr}{fd:FuncData}{osl:Array (Option Value)}{body:List Stmt}{vals:List Value}{binds:List (Str×Value)}{Q:Value→AH→Prop}{H:AH}{n:Nat}
 (hf:∀ P,(K0 P).lookup f=some ⟨oc,od,.func fd,osl⟩) (hbody:fd.body= .stmts body) (hcd:∀ P,codeIn (K0 P) fd.code fd.qualname=true)
 (hbind:bindArgs fd ⟨vals,[]⟩=Pure.pure binds) (hA:Ok A (n+1)) (hclo:fd.closure= [])
 (hkind:∀ k,∀ x∈binds,fd.scope.names.lookup x.1=some .local∨(fd.scope.names.lookup x.1=some .cell∧((cellsFrom (k+1) fd.scope.names []).lookup x.1).isSome=true))
 (hnd:((fd.scope.names.filter fun x=>x.2== .cell).map (·.1)).Nodup)
 (h:∀ L',(∀ a,L'≤a→H a=none)→Ok (A.deeper (callEnvC fd L' f)) n→W D (A.deeper (callEnvC fd L' f)) L' (execs body (callEnvC fd L' f)) (fun fl σ'=>Q (er (ru fl)) σ'.H)
  ⟨fun x=>(bindL (callEnvC fd L' f).kindOf binds (fun _=>none) x).map er,fc H (L'+1) (bindC (callEnvC fd L' f).kindOf binds fun _=>none) fd.scope.names⟩)
 (hco:fd.scope.isCoroutine=false:=by rfl) (hgen:fd.scope.isGenerator=false:=by rfl) (hk:fd.scope.kind= .function:=by rfl):Cd D A (.call (.ref f) ⟨vals,[]⟩) Q H:=fun F s R=>by
 refine codeAny_call_cells (fd:=fd) (body:=body) (binds:=binds) (by have:=hA.depth;show A.depth<1000;exact zq7 this) (R.K _ _ (hf _)) rfl R.sta.nolimit (codeRec_of R.K (hcd _)) hbody hbind hclo (hkind _) (fun s₁ x=>?_) hco hgen hk
 refine jC x.toInCall.same fun h₁ tk h2_=>?_;obtain rfl:=h2_
 have hcs:(callEnvC fd s.heap.objs.size f).cells=cellsFrom (s.heap.objs.size+1) fd.scope.names []:=rfl
 have R₁:Rel D s.heap.objs.size F ⟨fun x=>(bindL (callEnvC fd s.heap.objs.size f).kindOf binds (fun _=>none) x).map er,fc H (s.heap.objs.size+1) (bindC (callEnvC fd s.heap.objs.size f).kindOf binds fun _=>none) fd.scope.names⟩ { s with heap:=h₁,toks:=tk}:=by
  refine⟨⟨R.base,fun b o e=>x.toInCall.keep b o (R.frz b o e),fun a ao e=>?_,R.os,R.gens,fun a ao e=>?_⟩,R.geF _ (Nat.le_refl _),?_,At.of_ns x.toInCall.ns fun _=>rfl,R.big⟩
  ·rcases dN _ _ _ _ _ e with e | ⟨name,hm,hle,e⟩
   ·exact⟨(R.obj a ao e).1,(R.obj a ao e).2.keeps x.toInCall.keep⟩
   ·subst e
    refine⟨R.geF a (by exact zq8 hle),?_⟩
    have hl:(cellsFrom (s.heap.objs.size+1) fd.scope.names []).lookup name=some a:=
     eB (p:=(name,a)) (by rw [cu,List.map_nil,List.append_nil];exact List.pairwise_reverse.mpr (hnd.imp fun h=>Ne.symm h)) hm
    refine ai (x.cell name a hl) fun o ho hd=>?_
    exact⟨o,ho,_,hd,rfl⟩
  ·rcases dN _ _ _ _ _ e with e | ⟨name,hm,hle,e⟩
   ·exact R.hi a ao e
   ·exact Nat.lt_of_lt_of_le R.big (Nat.le_trans (Nat.le_succ _) hle)
  ·show fc H _ _ _ _=none
   cases q:fc H (s.heap.objs.size+1) (bindC (callEnvC fd s.heap.objs.size f).kindOf binds fun _=>none) fd.scope.names s.heap.objs.size with
   | none=>rfl
   | some o=>
    rcases dN _ _ _ _ _ q with e | ⟨name,hm,hle,e⟩
    ·rw [R.ge _ (Nat.le_refl _)]at e;cases e
    ·exact(zq9 hle).elim
 refine wpAny_mono (h _ R.ge (hA.deeper _) F _ R₁) (fun fl s'=>ar fun σ' R' q=>⟨_,_,?_,R'.rel,q⟩) fun _ _ x=>x.elim
 cases fl<;> rfl
end
end Mine
end
section
open PySem PySem.W PyProof.Rows PySem.Calls
namespace Mine
section
variable {D:Wd}{A:Around}{L:Addr}{α β:Type}{σ:St}{env:Env}{F:Frz}{s:Shared}
theorem done{v:Value}{x:Value}{t:Nat}{Q:Value→St→Prop}(R:Rel D L F σ s)(h:Q x σ)(e:er v=x:=by rfl):∃ σ',Rel D L F σ' { s with toks:=t} ∧Q (er v) σ':=⟨σ,R.tok t,e▸h⟩
theorem bJ{v:Value}{x:Value}{Q:Value→St→Prop}(R:Rel D L F σ s)(h:Q x σ)(e:er v=x:=by rfl):∃ σ',Rel D L F σ' s∧Q (er v) σ':=⟨σ,R,e▸h⟩
variable {a b:Int}{Q:Value→St→Prop}
theorem O.addII(h:Q (.int (a+b) 0) σ):W2 D A L (binaryOp .Add) (.int a 0) (.int b 0) Q σ:=fun va vb ea eb F s R=>by
 obtain⟨t,rfl⟩:=aB ea;obtain⟨u,rfl⟩:=aB eb
 exact PyProof.Rows.add_int (done R h)
theorem O.subII(h:Q (.int (a-b) 0) σ):W2 D A L (binaryOp .Sub) (.int a 0) (.int b 0) Q σ:=fun va vb ea eb F s R=>by
 obtain⟨t,rfl⟩:=aB ea;obtain⟨u,rfl⟩:=aB eb
 exact PyProof.Rows.sub_int (done R h)
theorem O.mulII(hm:IntMulOk a b)(h:Q (.int (a*b) 0) σ):W2 D A L (binaryOp .Mult) (.int a 0) (.int b 0) Q σ:=fun va vb ea eb F s R=>by
 obtain⟨t,rfl⟩:=aB ea;obtain⟨u,rfl⟩:=aB eb
 exact PyProof.Rows.mul_int (done R h) hm
theorem O.modII(hb:b≠0)(h:Q (.int (a.fmod b) 0) σ):W2 D A L (binaryOp .Mod) (.int a 0) (.int b 0) Q σ:=fun va vb ea eb F s R=>by
 obtain⟨t,rfl⟩:=aB ea;obtain⟨u,rfl⟩:=aB eb
 exact PyProof.Rows.mod_int' hb (done R h)
theorem O.divII(hb:b≠0)(h:Q (.int (a.fdiv b) 0) σ)(hp:Builtin.divisionGoesByPylong a b=false):W2 D A L (binaryOp .FloorDiv) (.int a 0) (.int b 0) Q σ:=fun va vb ea eb F s R=>by
 obtain⟨t,rfl⟩:=aB ea;obtain⟨u,rfl⟩:=aB eb
 exact PyProof.Rows.floordiv_int hb (done R h) (.inl hp)
theorem O.iaddII(h:Q (.int (a+b) 0) σ):W2 D A L (inplaceOp .Add) (.int a 0) (.int b 0) Q σ:=fun va vb ea eb F s R=>by
 obtain⟨t,rfl⟩:=aB ea;obtain⟨u,rfl⟩:=aB eb
 exact PyProof.Rows.iadd_int (done R h)
theorem O.eqII(h:Q (.bool (a==b)) σ):W2 D A L (compareOp .Eq) (.int a 0) (.int b 0) Q σ:=fun va vb ea eb F s R=>by
 obtain⟨t,rfl⟩:=aB ea;obtain⟨u,rfl⟩:=aB eb
 exact PyProof.Rows.eq_int (bJ R h)
theorem O.neII(h:Q (.bool (a !=b)) σ):W2 D A L (compareOp .NotEq) (.int a 0) (.int b 0) Q σ:=fun va vb ea eb F s R=>by
 obtain⟨t,rfl⟩:=aB ea;obtain⟨u,rfl⟩:=aB eb
 exact PyProof.Rows.ne_int (bJ R h)
theorem O.ltII(h:Q (.bool (decide (a<b))) σ):W2 D A L (compareOp .Lt) (.int a 0) (.int b 0) Q σ:=fun va vb ea eb F s R=>by
 obtain⟨t,rfl⟩:=aB ea;obtain⟨u,rfl⟩:=aB eb
 exact PyProof.Rows.lt_int (bJ R h)
end
end Mine
end
section
open PySem PySem.W PyProof.Rows PySem.Calls PySem.SeqAt
namespace Mine
noncomputable def TyV(σ:St)(v:Value)(T:String):Prop:=match v with
 | .str .. =>T= "str"
 | .bytes .. =>T= "bytes"
 | .ref a=> ∃ ao,σ.H a=some ao∧(match ao with
  | .list _=>T= "list"
  | .tuple _=>T= "tuple"
  | .dict _ _=>T= "dict"
  | .raw o=>o.cls= .type T∧o.dict=none
  | .sat P=> ∀ w o,P w o→o.cls= .type T∧o.dict=none
  | _=>False)
 | _=>False
section
variable {D:Wd}{A:Around}{L:Addr}{α β:Type}{σ:St}{env:Env}{Φ:Frz}{s:Shared}
theorem TyV.dict{v v':Value}{T:String}(R:Rel D L Φ σ s)(e:er v'=v)(h:TyV σ v T):s.TypeIs v' T∧ ∀ a,v'= .ref a→ ∃ ob,s.heap.get? a=some ob∧ob.dict=none:=by
 subst e
 cases v' with
 | str x t=>cases h;exact⟨typeIs_str s x t,fun a e=>nomatch e⟩
 | bytes x t=>cases h;exact⟨rfl,fun a e=>nomatch e⟩
 | ref a=>
  refine ai h fun ao ha h=>?_
  refine ai (R.obj ha) fun o ho x=>?_
  cases ao with
  | list vs=>refine b6 x fun its n h2_ _=>?_;clear x;obtain rfl:=h2_;cases h;exact⟨⟨_,ho,rfl⟩,fun b e=>by cases e;exact⟨_,ho,rfl⟩⟩
  | tuple vs=>refine b6 x fun its n h2_ _=>?_;clear x;obtain rfl:=h2_;cases h;exact⟨⟨_,ho,rfl⟩,fun b e=>by cases e;exact⟨_,ho,rfl⟩⟩
  | dict es ep=>obtain⟨kvs,es',⟨hx,_⟩,_⟩:=x;cases h;exact⟨⟨_,ho,hx.1⟩,fun b e=>by cases e;exact⟨_,ho,hx.2.1⟩⟩
  | inst C dx sl=>exact h.elim
  | fld m=>exact h.elim
  | raw o'=>cases x;exact⟨⟨_,ho,h.1⟩,fun b e=>by cases e;exact⟨_,ho,h.2⟩⟩
  | sat P=>exact⟨⟨_,ho,(h _ _ x).1⟩,fun b e=>by cases e;exact⟨_,ho,(h _ _ x).2⟩⟩
  | ns _=>exact h.elim
  | cell _=>exact h.elim
 | _=>exact h.elim
noncomputable def Cb(D:Wd)(A:Around)(L:Addr)(id:String)(vs:List Value)(Q:Value→St→Prop)(σ:St):Prop:=
 ∀ vs',vs'.map er=vs→WE D A L (PySem.call (.builtin id) vs') Q σ
theorem map_cons{vs:List Value}{v:Value}{r:List Value}(h:vs.map er=v::r):∃ v' r',vs=v'::r'∧er v'=v∧r'.map er=r:=by
 cases vs with
 | nil=>cases h
 | cons a b=>rw [List.map_cons,List.cons.injEq]at h;exact⟨a,b,rfl,h.1,h.2⟩
theorem map_nil{vs:List Value}(h:vs.map er= []):vs= []:=by cases vs with | nil=>rfl | cons=>cases h
@[elab_as_elim] theorem d7 {P:List Value→Prop}{l:List Value}{a:Value}(e:l.map er= [a])(k:∀ v,er v=a→P [v]):P l:=by
 obtain⟨v,r,rfl,e1,f⟩:=map_cons e;obtain rfl:=map_nil f;exact k v e1
@[elab_as_elim] theorem eA {P:List Value→Prop}{l:List Value}{a b:Value}(e:l.map er= [a,b])(k:∀ v,er v=a→ ∀ w,er w=b→P [v,w]):P l:=by
 obtain⟨v,r,rfl,e1,f⟩:=map_cons e;refine d7 f fun w e2=>k v e1 w e2
@[elab_as_elim] theorem vX {P:List Value→Prop}{l:List Value}{a b c:Value}(e:l.map er= [a,b,c])(k:∀ v,er v=a→ ∀ w,er w=b→ ∀ x,er x=c→P [v,w,x]):P l:=by
 obtain⟨v,r,rfl,e1,f⟩:=map_cons e;refine eA f fun w e2 x e3=>k v e1 w e2 x e3
@[elab_as_elim] theorem aU {P:Value→Prop}{v:Value}{x:Str}{t:Tok}(e:er v= .str x t)(k:∀ t,P (.str x t)):P v:=by obtain⟨t,rfl⟩:=au e;exact k t
@[elab_as_elim] theorem fQ {P:Value→Prop}{v:Value}{x:Int}{t:Tok}(e:er v= .int x t)(k:∀ t,P (.int x t)):P v:=by obtain⟨t,rfl⟩:=aB e;exact k t
@[elab_as_elim] theorem j7 {P:Value→Prop}{v:Value}{x:Array UInt8}{t:Tok}(e:er v= .bytes x t)(k:∀ t,P (.bytes x t)):P v:=by obtain⟨t,rfl⟩:=bE e;exact k t
@[elab_as_elim] theorem aV {P:Value→Prop}{v:Value}{a:Addr}(e:er v= .ref a)(k:P (.ref a)):P v:=by obtain rfl:=al e;exact k
@[elab_as_elim] theorem iD {P:Value→Prop}{v:Value}{a:String}(e:er v= .type a)(k:P (.type a)):P v:=by obtain rfl:=cE e;exact k
noncomputable abbrev qS(D:Wd)(A:Around)(L:Addr)(id:String)(ov:Value)(Q:Value→St→Prop):List Value→St→Prop:=fun vs σ=>Cb D A L id (ov::vs) Q σ
noncomputable abbrev vz(D:Wd)(A:Around)(L:Addr)(env:Env)(pos:Pos)(args:List Expr)(T id:String)(Q:Value→St→Prop):Value→St→Prop:=fun ov σ=>TyV σ ov T∧WI D A L env pos args (qS D A L id ov Q) σ
theorem E.meth{o:Expr}{name:Str}{apos pos:Pos}{args:List Expr}{T id:String}{Q:Value→St→Prop}(pa:PlainAttrs T)(slot:Slot T name id)(hty:typeOf (.builtin id)=Pure.pure (.type "method_descriptor"))
 (h:WE D A L (eval o env) (vz D A L env pos args T id Q) σ)
 (hbase:attributeBase o name env (eval o env)=eval o env:=by rfl)
 (hfew:((backTo pos (starEach args env)).all (fun x=> !x.1) && (backToKw pos (keywordEach [] env)).all (fun x=>x.1.isSome) && decide (args.length+([]:List Keyword).length+(if ([]:List Keyword).isEmpty then 0 else 1)<30))=true:=by rfl)
 (hline:(apos.endLine==pos.line)=true:=by rfl) (hplain:(backTo pos (starEach args env)).any (·.1)=false:=by rfl):WE D A L (eval (.Call (.Attribute o name apos) args [] pos) env) Q σ:=fun Φ s R=>by
 refine wpAny_Call_method_late hbase hfew hline rfl (wpAny_mono (h Φ s R) (fun ov s₁=>aK fun σ₁ R₁ hT h₁=>?_) fun _ _ x=>x)
 obtain⟨hT',hd⟩:=TyV.dict R₁ rfl hT
 refine⟨T,id,pa,slot,hty,hT',hd,Calls.callWith_builtin hplain ?_⟩
 have fin:∀ vs s₂,(∃ σ₂,Rel D L Φ σ₂ s₂∧Cb D A L id (er ov::vs.map er) Q σ₂)→wpAny (model PR D.w) A (PySem.call (.builtin id) (ov::vs)) (fun v s'=> ∃ σ',Rel D L Φ σ' s'∧Q (er v) σ') (fun _ _=>False) s₂:=
  fun vs s₂=>ar fun σ₂ R₂ h₂=>h₂ (ov::vs) rfl Φ s₂ R₂
 generalize ht:backTo pos (starEach args env)=trees at *
 cases trees with
 | nil=>
  refine evalArgs_nil3 ?_
  have h₁':W D A L (spliced (backTo pos (starEach args env))) (fun vs σ'=>Cb D A L id (er ov::vs.map er) Q σ') σ₁:=h₁
  rw [ht]at h₁'
  exact wpAny_bind (m:=spliced []) (f:=fun vs=>PySem.call (.builtin id) (ov::vs)) (wpAny_mono (h₁' Φ s₁ R₁) (fun vs s₂ q=>fin vs s₂ q) fun _ _ x=>x)
 | cons x r=>
  obtain⟨st,t⟩:=x
  have hst:st=false:=by
   simp only [List.any_cons,Bool.or_eq_false_iff]at hplain
   exact hplain.1
  subst hst
  refine Calls.evalArgs_plain ?_
  have h₁':W D A L (spliced (backTo pos (starEach args env))) (fun vs σ'=>Cb D A L id (er ov::vs.map er) Q σ') σ₁:=h₁
  rw [ht]at h₁'
  exact wpAny_mono (h₁' Φ s₁ R₁) (fun vs s₂ q=>fin vs s₂ q) fun _ _ x=>x
noncomputable abbrev kFn(D:Wd)(A:Around)(L:Addr)(f:Addr)(Q:Value→St→Prop):List Value→St→Prop:=fun vs σ=> ∀ vs',vs'.map er=vs→σ.H L=Option.none→Cd D A (.call (.ref f) ⟨vs',[]⟩) (nT L σ Q) (upd σ.H L (.ns σ.loc))
theorem E.callFn{x:Str}{p pos:Pos}{args:List Expr}{f:Addr}{Q:Value→St→Prop}(hx:∀ P,nsIn (K0 P) mainGlobals x=some (some (.ref f)))(hkeep:∀ P,keepIn (K0 P) (.ref f)=true)
 (h:WI D A L env pos args (kFn D A L f Q) σ)
 (hplain:(backTo pos (starEach args env)).any (·.1)=false:=by rfl) (hg:env.globals=mainGlobals:=by rfl) (hk:env.scope.kind= .function:=by rfl) (hl:env.kindOf x=some .globalImplicit:=by rfl) (hdb:(x==("__debug__" :Str))=false:=by decide):
 WE D A L (eval (.Call (.Name x p) args [] pos) env) Q σ:=fun Φ s R=>by
 rw [show eval (.Call (.Name x p) args [] pos) env=(do callWith pos (← eval (.Name x p) env) [] (backTo pos (starEach args env)) [])from rfl]
 refine wpAny_bind (wpAny_mono (E.glob (Q:=fun v σ'=>v= .ref f∧σ'=σ) hx ⟨rfl,rfl⟩ hg hk hl hdb Φ s R) (fun v s₁=>aK fun σ₁ R₁ ev eσ=>?_) fun _ _ x=>x)
 rw [al ev]
 have R₁:Rel D L Φ σ s₁:=eσ▸R₁
 have fin:∀ vs s₂,(∃ σ₂,Rel D L Φ σ₂ s₂∧ ∀ vs',vs'.map er=vs.map er→σ₂.H L=Option.none→Cd D A (.call (.ref f) ⟨vs',[]⟩) (nT L σ₂ Q) (upd σ₂.H L (.ns σ₂.loc)))→wpAny (model PR D.w) A (PySem.call (.ref f) vs) (fun v s'=> ∃ σ',Rel D L Φ σ' s'∧Q (er v) σ') (fun _ _=>False) s₂:=
  fun vs s₂=>ar fun σ₂ R₂ h₂=>W.call (h₂ vs rfl R₂.HL) Φ s₂ R₂
 generalize ht:backTo pos (starEach args env)=trees at *
 have h₁':W D A L (spliced (backTo pos (starEach args env))) (fun vs σ'=> ∀ vs',vs'.map er=vs.map er→σ'.H L=Option.none→Cd D A (.call (.ref f) ⟨vs',[]⟩) (nT L σ' Q) (upd σ'.H L (.ns σ'.loc))) σ:=h
 rw [ht]at h₁'
 refine callWith_of (P:=fun h=>(K0 D.w.params).In h) (by rw [hplain];rfl) (keeps_K (hkeep _)) ?_
 cases trees with
 | nil=>
  refine evalArgs_nil3 ?_
  exact⟨R₁.K,wpAny_bind (m:=spliced []) (f:=fun vs=>PySem.call (.ref f) vs) (wpAny_mono (h₁' Φ s₁ R₁) (fun vs s₂ q=>fin vs s₂ q) fun _ _ x=>x)⟩
 | cons x r=>
  obtain⟨st,t⟩:=x
  have hst:st=false:=by
   simp only [List.any_cons,Bool.or_eq_false_iff]at hplain
   exact hplain.1
  subst hst
  refine Calls.evalArgs_plain ?_
  exact wpAny_mono (h₁' Φ s₁ R₁) (fun vs s₂ q=>⟨let⟨_,R₂,_⟩:=q;R₂.K,fin vs s₂ q⟩) fun _ _ x=>x
theorem Cd.val{c:Code}{x:Value}{H:AH}{m:Str→Option Value}{Q:Value→St→Prop}(hn:H L=Option.none)(h:Cd D A c (fun r H'=>Ext (upd H L (.ns m)) H'∧r=x) (upd H L (.ns m)))
 (k:∀ H',Ext H H'→Q x ⟨m,H'⟩):Cd D A c (nT L ⟨m,H⟩ Q) (upd H L (.ns m)):=h.mono fun r H'=>gD fun hx e=>by
 subst e
 exact⟨hx _ _ (ah ..),k _ (Ext.del (fun a o e=>hx a o (by rw [af (fun q=>by rw [q,hn]at e;cases e)];exact e)) hn)⟩
theorem Cd.new{c:Code}{ao:AO}{H:AH}{m:Str→Option Value}{Q:Value→St→Prop}(hn:H L=Option.none)(h:Cd D A c (fun r H'=>Ext (upd H L (.ns m)) H'∧ ∃ a,r= .ref a∧upd H L (.ns m) a=Option.none∧H' a=some ao) (upd H L (.ns m)))
 (k:∀ a H',Ext H H'→H a=Option.none→H' a=some ao→Q (.ref a) ⟨m,H'⟩):Cd D A c (nT L ⟨m,H⟩ Q) (upd H L (.ns m)):=h.mono fun r H'=>pM fun hx a e ha hao=>by
 subst e
 have ne:a≠L:=fun q=>by rw [q,ah]at ha;cases ha
 exact⟨hx _ _ (ah ..),k a _ (Ext.del (fun a o e=>hx a o (by rw [af (fun q=>by rw [q,hn]at e;cases e)];exact e)) hn) (by rw [af ne]at ha;exact ha) (by rw [ay ne];exact hao)⟩
theorem aM{its:Array Value}{vs:List Value}(e:its.toList.map er=vs):its.size=vs.length:=by rw [← e,List.length_map,Array.length_toList]
theorem M.append{l:Addr}{vs:List Value}{x:Value}{Q:Value→St→Prop}(hl:σ.H l=some (.list vs))(hsz:vs.length≤sizeLine)(h:Q Value.none { σ with H:=upd σ.H l (.list (vs++ [x]))}):
 Cb D A L "list.append" [.ref l,x] Q σ:=fun vs' e Φ s R=>by
 obtain⟨v1,r1,rfl,e1,e⟩:=map_cons e
 obtain⟨v2,r2,rfl,e2,e⟩:=map_cons e
 rw [map_nil e,al e1]
 refine b6 (R.listAt hl) fun its n ho ei=>?_
 have hsz':its.size≤sizeLine:=by rw [aM ei];exact hsz
 refine call_meets F.slot_list_append ⟨_,ho,rfl⟩ F.entry_list_append (F.args_list_append_2 _ _) (AutoListH.list_append_list_val_0 l its n v2 hsz') ⟨ho,?_⟩
 refine⟨_,R.update (ao:= .list (vs++ [x])) (t:=s.toks) hl (fun b o hb e=>(Heap.get?_update_other _ _ (Ne.symm hb)).trans e) ⟨_,Heap.get?_update_self _ ho rfl,its.push v2,n+1,?_,?_⟩,h⟩
 ·simp [Obj.mapSeq]
 ·rw [Array.toList_push,List.map_append,ei,List.map_cons,e2];rfl
theorem M.popLast{l:Addr}{vs:List Value}{x:Value}{Q:Value→St→Prop}(hl:σ.H l=some (.list (vs++ [x])))(hsz:vs.length+1≤sizeLine)(h:Q x { σ with H:=upd σ.H l (.list vs)}):
 Cb D A L "list.pop" [.ref l] Q σ:=fun vs' e Φ s R=>by
 obtain⟨v1,r1,rfl,e1,e⟩:=map_cons e
 rw [map_nil e,al e1]
 refine b6 (R.listAt hl) fun its n ho ei=>?_
 have hs:its.size=vs.length+1:=by rw [aM ei,List.length_append];rfl
 obtain⟨y,hy,ey⟩:∃ y,its[its.size-1]?=some y∧er y=x:=by
  have hlt:its.size-1<its.size:=by exact vO hs
  refine⟨its[its.size-1],by simp [hlt],?_⟩
  have h1:(its.toList.map er)[its.size-1]?=some x:=by rw [ei,hs];simp
  rw [List.getElem?_map,Array.getElem?_toList,Array.getElem?_eq_getElem hlt]at h1
  exact Option.some.inj h1
 refine call_meets F.slot_list_pop ⟨_,ho,rfl⟩ F.entry_list_pop (F.args_list_pop_1 _) (MeetsSeq.list_pop_last l its n y hy (by exact wD hsz hs)) ⟨ho,?_⟩
 refine⟨_,R.update (ao:= .list vs) (t:=s.toks) hl (fun b o hb e=>(Heap.get?_update_other _ _ (Ne.symm hb)).trans e) ⟨_,Heap.get?_update_self _ ho rfl,its.pop,n+1,?_,?_⟩,by show Q (er y) _;rw [ey];exact h⟩
 ·have e1:its.eraseIdxIfInBounds (its.size-1)=its.pop:=by
   apply Array.toList_inj.mp
   rw [Array.eraseIdxIfInBounds,dif_pos (by exact vO hs),Array.toList_eraseIdx,Array.toList_pop,List.eraseIdx_eq_dropLast]
   rw [Array.length_toList];exact wC hs
  have:(its.pop.size==its.size)=false:=by simp;exact vN hs
  simp [Obj.mapSeq,e1,this];exact vN hs
 ·rw [Array.toList_pop,List.map_dropLast,ei,List.dropLast_concat]
theorem M.clear{l:Addr}{vs:List Value}{Q:Value→St→Prop}(hl:σ.H l=some (.list vs))(hsz:vs.length≤sizeLine)(h:Q Value.none { σ with H:=upd σ.H l (.list [])}):
 Cb D A L "list.clear" [.ref l] Q σ:=fun vs' e Φ s R=>by
 obtain⟨v1,r1,rfl,e1,e⟩:=map_cons e
 rw [map_nil e,al e1]
 refine b6 (R.listAt hl) fun its n ho ei=>?_
 have hsz':its.size≤sizeLine:=by rw [aM ei];exact hsz
 refine call_meets F.slot_list_clear ⟨_,ho,rfl⟩ F.entry_list_clear (F.args_list_clear_1 _) (AutoSeq1.list_clear_list_0 l its n hsz') ⟨ho,?_⟩
 refine⟨_,R.update (ao:= .list []) (t:=s.toks) hl (fun b o hb e=>(Heap.get?_update_other _ _ (Ne.symm hb)).trans e) ⟨_,Heap.get?_update_self _ ho rfl,#[],_,rfl,rfl⟩,h⟩
end
end Mine
end
section
open PySem PySem.W PyProof.Rows PySem.Calls PySem.SeqAt
namespace Mine
noncomputable def ag(xs:List Str):List Value:=xs.map fun x=> .str x 0
theorem bR{xs:List Str}{k:Nat}(h:k<xs.length):(ag xs).getD k .none= .str xs[k] 0:=by simp [ag,List.getD,h]
@[simp] theorem ae (xs:List Str):(ag xs).length=xs.length:=by simp [ag]
theorem bk(xs ys:List Str):ag xs++ag ys=ag (xs++ys):=by simp [ag]
section
variable {D:Wd}{A:Around}{L:Addr}{α β:Type}{σ:St}{env:Env}{Φ:Frz}{s:Shared}
noncomputable abbrev vq(D:Wd)(A:Around)(L:Addr)(T:String)(o:Value)(Q:Value→St→Prop):Value→St→Prop:=fun i σ=>TyV σ o T∧W2 D A L getItem o i Q σ
noncomputable abbrev xi(D:Wd)(A:Around)(L:Addr)(env:Env)(slice:Expr)(T:String)(Q:Value→St→Prop):Value→St→Prop:=fun o σ=>WE D A L (eval slice env) (vq D A L T o Q) σ
theorem E.sub{value slice:Expr}{pos:Pos}{T id:String}{Q:Value→St→Prop}(hlk:typeLookup (.type T) "__getitem__" =Pure.pure (some (.builtin id)))
 (h:WE D A L (eval value env) (xi D A L env slice T Q) σ)
 (hsl:∀ o i,subscripted slice false o i=operate [o,i] (getItem o i):=by intro _ _;rfl):WE D A L (eval (.Subscript value slice pos) env) Q σ:=fun Φ s R=>by
 rw [eval_Subscript]
 refine wpAny_bind (wpAny_mono (h Φ s R) (fun o s₁=>ar fun σ₁ R₁ h₁=>wpAny_bind (wpAny_holding (wpAny_mono (h₁ Φ s₁ R₁) (fun i s₂=>aK fun σ₂ R₂ hT h₂=>wpAny_bind (wpAny_standAt ?_)) fun _ _ x=>x))) fun _ _ x=>x)
 obtain⟨hT',_⟩:=TyV.dict R₂ rfl hT
 refine wpAny_bind ?_
 rw [getitemInPython_of_ne hT'.not_modules]
 refine wpAny_bind (wpAny_specialOf hT' hlk ?_)
 have fin:wpAny (model PR D.w) A (operate [o,i] (getItem o i)) (fun r s₃=>wpAny (model PR D.w) A (letTemporaryGo value o r>>=fun _=>Pure.pure r) (fun v s'=> ∃ σ',Rel D L Φ σ' s'∧(fun v σ'=>Q (er v) σ') v σ') (fun _ _=>False) s₃) (fun _ _=>False) s₂:=
  wpAny_operating (wpAny_mono (h₂ o i rfl rfl Φ s₂ R₂) (fun r s₃ q=>wpAny_bind (wpAny_letTemporaryGo (wpAny_pure q))) fun _ _ x=>x)
 refine wpAny_pure ?_
 rw [hsl]
 exact wpAny_bind fin
theorem O.itemList{l:Addr}{vs:List Value}{k:Nat}{Q:Value→St→Prop}(hl:σ.H l=some (.list vs))(hk:k<vs.length)(hz:k<2 ^ 63)(h:Q (vs.getD k .none) σ):W2 D A L getItem (.ref l) (.int k 0) Q σ:=fun va vb ea eb Φ s R=>by
 rw [al ea];obtain⟨t,rfl⟩:=aB eb
 refine ai (R.listOf hl) fun its hi e=>?_
 refine ai (bj e hk) fun x hx ex=>?_
 exact wpAny_getItem_list hi (by exact m6) (by exact uU hz) (by simpa using hx) (bJ R h ex)
theorem O.itemLast{l:Addr}{vs:List Value}{x:Value}{Q:Value→St→Prop}(hl:σ.H l=some (.list (vs++ [x])))(h:Q x σ):W2 D A L getItem (.ref l) (.int (-1) 0) Q σ:=fun va vb ea eb Φ s R=>by
 rw [al ea];obtain⟨t,rfl⟩:=aB eb
 refine ai (R.listOf hl) fun its hi e=>?_
 have hs:=aM e
 rw [List.length_append,List.length_singleton]at hs
 refine ai (bj (k:=vs.length) e (by simp)) fun y hy ey=>?_
 refine wpAny_getItem_list_neg hi (by exact uT) (by exact uS hs) (by exact uR) (by rw [← hy];congr 1;exact uQ hs) (bJ R h (ey.trans ?_))
 simp [List.getD]
theorem O.itemTuple{l:Addr}{vs:List Value}{k:Nat}{Q:Value→St→Prop}(hl:σ.H l=some (.tuple vs))(hk:k<vs.length)(hz:k<2 ^ 62)(h:Q (vs.getD k .none) σ):W2 D A L getItem (.ref l) (.int k 0) Q σ:=fun va vb ea eb Φ s R=>by
 rw [al ea];obtain⟨t,rfl⟩:=aB eb
 refine bz (R.obj hl) fun o ho its n h4_ e=>?_;obtain rfl:=h4_
 refine ai (bj e hk) fun x hx ex=>?_
 have hs:=aM e
 exact P.getItem_tuple ho (by exact uP) (by exact uO hz) (k:=k) (by rw [seqIndex_of (by exact m6) (by exact uN hk hs)];simp) hx (bJ R h ex)
theorem O.itemStr{x:Str}{k:Nat}{c:Nat}{Q:Value→St→Prop}(hc:x.cps[k]?=some c)(hz:k<2 ^ 62)(h:Q (.str ⟨#[c]⟩ 0) σ):W2 D A L getItem (.str x 0) (.int k 0) Q σ:=fun va vb ea eb Φ s R=>by
 obtain⟨u,rfl⟩:=au ea;obtain⟨t,rfl⟩:=aB eb
 have hk:k<x.cps.size:=(Array.getElem?_eq_some_iff.mp hc).1
 refine P.getItem_str (by simp;exact uM hz) ?_ (done R h)
 have hk':(k:Int)<(x.length:Nat):=by show(k:Int)<(x.cps.size:Nat);exact uL hk
 rw [seqIndex_of (by exact m6) hk'];simpa using hc
inductive Bd (D:Wd) (A:Around) (L:Addr) (env:Env):Option Expr→(Option Nat→St→Prop)→St→Prop
 | none {Q σ}:Q Option.none σ→Bd D A L env Option.none Q σ
 | some {e Q σ}:WE D A L (eval e env) (fun v σ'=> ∃ k:Nat,v= .int k 0∧Q (Option.some k) σ') σ→Bd D A L env (Option.some e) Q σ
theorem Bd.run{b:Option Expr}{Q:Option Nat→St→Prop}(h:Bd D A L env b Q σ)(R:Rel D L Φ σ s):wpAny (model PR D.w) A (evalPart b env) (fun v s'=> ∃ k σ',Rel D L Φ σ' s'∧Q k σ'∧IsPart v (k.map fun(n:Nat)=>(n:Int))∧ ∃ l:Option (Int×Tok),v=partValue l∧l.map (·.1)=k.map fun(n:Nat)=>(n:Int)) (fun _ _=>False) s:=by
 cases h with
 | none q=>rw [evalPart_none];exact wpAny_pure ⟨_,_,R,q,.none,Option.none,rfl,rfl⟩
 | some q=>
  rw [evalPart_some]
  refine wpAny_mono (q Φ s R) (fun v s'=>ko fun σ' R' k e q'=>?_) fun _ _ x=>x
  obtain⟨t,rfl⟩:=aB e
  exact⟨Option.some k,σ',R',q',.int _ _,Option.some (k,t),rfl,rfl⟩
noncomputable def cut{α:Type}(xs:List α)(a b:Option Nat):List α:=(xs.take (b.getD xs.length)).drop (a.getD 0)
theorem ir(items:Array Value)(a b:Option Nat)(ha:a.getD 0≤items.size)(hb:b.getD items.size≤items.size)(hab:a.getD 0≤b.getD items.size):
 slicePick items (a.map fun(n:Nat)=>(n:Int)) (b.map fun(n:Nat)=>(n:Int)) Option.none=(cut items.toList a b).toArray:=by
 have key:slicePick items (Option.some ((a.getD 0:Nat):Int)) (Option.some ((b.getD items.size:Nat):Int)) Option.none=((items.toList.drop (a.getD 0)).take (b.getD items.size-a.getD 0)).toArray:=slicePick_run items _ _ hb hab
 have e:slicePick items (a.map fun(n:Nat)=>(n:Int)) (b.map fun(n:Nat)=>(n:Int)) Option.none=slicePick items (Option.some ((a.getD 0:Nat):Int)) (Option.some ((b.getD items.size:Nat):Int)) Option.none:=by
  unfold slicePick
  congr 2
  have h1:sliceBounds (a.map fun(n:Nat)=>(n:Int)) (b.map fun(n:Nat)=>(n:Int)) Option.none items.size=sliceBounds (Option.some ((a.getD 0:Nat):Int)) (Option.some ((b.getD items.size:Nat):Int)) Option.none items.size:=by
   unfold sliceBounds
   cases a<;> cases b<;> simp <;> (first | exact uK | exact uJ | exact uI)
  rw [h1]
 rw [e,key]
 unfold cut
 rw [List.drop_take,Array.length_toList]
theorem pR{α β:Type}(f:α→β)(xs:List α)(a b:Option Nat):(cut xs a b).map f=cut (xs.map f) a b:=by
 unfold cut;rw [List.map_drop,List.map_take,List.length_map]
theorem E.sliceList{value:Expr}{lo up:Option Expr}{p pos:Pos}{Q:Value→St→Prop}
 (h:WE D A L (eval value env) (fun o σ₁=>Bd D A L env lo (fun a σ₂=>Bd D A L env up (fun b σ₃=> ∃ l vs,o= .ref l∧σ₃.H l=some (.list vs)∧vs.length≤sizeLine∧
  a.getD 0≤vs.length∧b.getD vs.length≤vs.length∧a.getD 0≤b.getD vs.length∧New Q σ₃ (.list (cut vs a b))) σ₂) σ₁) σ)
 (ht:∀ o r,letTemporaryGo value o r=Pure.pure ():=by intro _ _;rfl):WE D A L (eval (.Subscript value (.Slice lo up Option.none p) pos) env) Q σ:=fun Φ s R=>by
 refine wpAny_Subscript_list_slice (wpAny_mono (h Φ s R) (fun o s₁=>ar fun σ₁ R₁ h₁=>wpAny_mono (h₁.run R₁) (fun vl s₂=>cG fun a σ₂ R₂ h₂ pl _=>wpAny_mono (h₂.run R₂) (fun vu s₃=>cG fun b σ₃ R₃ h₃ pu _=>?_) fun _ _ x=>x) fun _ _ x=>x) fun _ _ x=>x) ht
 refine ky h₃ fun l vs eo hl hsz c1 c2 c3 hn=>?_;clear h₃
 refine ai (R₃.listOf hl) fun its hi e=>?_
 have hs:=aM e
 refine⟨l,its,_,_,al eo,hi,by exact qE hs hsz,pl,pu,?_⟩
 rw [ir its a b (by exact uH c3 hs c2) (by rw [hs];exact c2) (by rw [hs];exact c3)]
 have R₄:Rel D L _ σ₃ { s₃ with heap:=s₃.heap.push { cls:= .type "slice",data:= .fields #[vl,vu,.none]}}:=R₃.ext (t:=s₃.toks) fun _ _ e=>Heap.get?_push_of_some _ e
 have:=R₄.push (ao:= .list (cut vs a b)) { cls:= .type "list",data:= .seq (cut its.toList a b).toArray} rfl ⟨_,_,rfl,by simp only [pR,e]⟩ hn
 simp only [Heap.size_push]at this
 exact this
theorem T.trList{l:Addr}{vs:List Value}{Q:Bool→St→Prop}(hl:σ.H l=some (.list vs))(hz:vs.length<2 ^ 62)(h:Q (!vs.isEmpty) σ):W1 D A L truthy (.ref l) Q σ:=fun va ea Φ s R=>by
 rw [al ea]
 refine ai (R.listOf hl) fun its hi e=>?_
 have hs:=aM e
 refine wpAny_truthy_list hi (by exact rk hs hz) ⟨σ,R.tok _,?_⟩
 have:its.isEmpty=vs.isEmpty:=by
  rw [Array.isEmpty,hs];cases vs<;> simp
 rw [this];exact h
theorem T.trBool{b:Bool}{Q:Bool→St→Prop}(h:Q b σ):W1 D A L truthy (.bool b) Q σ:=fun va ea Φ s R=>by
 rw [eR ea];exact wpAny_truthy_bool ⟨σ,R,h⟩
variable {x y:Str}{Q:Value→St→Prop}
theorem O.eqSS(h:Q (.bool (x==y)) σ):W2 D A L (compareOp .Eq) (.str x 0) (.str y 0) Q σ:=fun va vb ea eb Φ s R=>by
 obtain⟨t,rfl⟩:=au ea;obtain⟨u,rfl⟩:=au eb
 exact PyProof.Rows.eq_str (bJ R h)
theorem O.neSS(h:Q (.bool (x !=y)) σ):W2 D A L (compareOp .NotEq) (.str x 0) (.str y 0) Q σ:=fun va vb ea eb Φ s R=>by
 obtain⟨t,rfl⟩:=au ea;obtain⟨u,rfl⟩:=au eb
 exact PyProof.Rows.ne_str (bJ R h)
theorem O.addSS(hz:x.length+y.length≤sizeLine)(h:Q (.str (x++y) 0) σ):W2 D A L (binaryOp .Add) (.str x 0) (.str y 0) Q σ:=fun va vb ea eb Φ s R=>by
 obtain⟨t,rfl⟩:=au ea;obtain⟨u,rfl⟩:=au eb
 exact PyProof.Rows.add_str (fun _ _=>done R h) hz
theorem O.iaddSS(hz:x.length+y.length≤sizeLine)(h:Q (.str (x++y) 0) σ):W2 D A L (inplaceOp .Add) (.str x 0) (.str y 0) Q σ:=fun va vb ea eb Φ s R=>by
 obtain⟨t,rfl⟩:=au ea;obtain⟨u,rfl⟩:=au eb
 exact PyProof.Rows.iadd_str (fun _ _=>done R h) hz
theorem M.startswith(h:Q (.bool (Txt.startswith x y)) σ):Cb D A L "str.startswith" [.str x 0,.str y 0] Q σ:=fun vs' e Φ s R=>by
 refine eA e fun v1 e1 v2 e2=>?_;refine aU e1 fun t=>?_;refine aU e2 fun u=>?_
 exact SC.startswith (bJ R h)
theorem M.endswith(h:Q (.bool (Txt.endswith x y)) σ):Cb D A L "str.endswith" [.str x 0,.str y 0] Q σ:=fun vs' e Φ s R=>by
 refine eA e fun v1 e1 v2 e2=>?_;refine aU e1 fun t=>?_;refine aU e2 fun u=>?_
 exact SC.endswith (bJ R h)
theorem M.rfind(h:Q (.int (Txt.rfind x y) 0) σ):Cb D A L "str.rfind" [.str x 0,.str y 0] Q σ:=fun vs' e Φ s R=>by
 refine eA e fun v1 e1 v2 e2=>?_;refine aU e1 fun t=>?_;refine aU e2 fun u=>?_
 exact SC.rfind (done R h)
theorem M.rstrip(hz:x.length≤sizeLine)(h:Q (.str (Txt.rstripChars x y) 0) σ):Cb D A L "str.rstrip" [.str x 0,.str y 0] Q σ:=fun vs' e Φ s R=>by
 refine eA e fun v1 e1 v2 e2=>?_;refine aU e1 fun t=>?_;refine aU e2 fun u=>?_
 exact SC.rstripChars (fun _ _=>done R h) hz
theorem M.index{i:Nat}{rest:List Nat}(ho:Builtin.Str.occurrences x y 0 x.length 1=i::rest)(h:Q (.int i 0) σ):Cb D A L "str.index" [.str x 0,.str y 0] Q σ:=fun vs' e Φ s R=>by
 refine eA e fun v1 e1 v2 e2=>?_;refine aU e1 fun t=>?_;refine aU e2 fun u=>?_
 exact SC.index ho (done R h)
theorem pz{vs:List Value}{xs:List Str}(e:vs.map er=ag xs):∃ l:List (Str×Tok),vs=strValues l∧l.map (·.1)=xs:=by
 induction vs generalizing xs with
 | nil=>cases xs with | nil=>exact⟨[],rfl,rfl⟩ | cons=>simp [ag]at e
 | cons v r ih=>
  cases xs with
  | nil=>simp [ag]at e
  | cons x xs=>
   simp only [ag,List.map_cons,List.cons.injEq]at e
   obtain⟨t,rfl⟩:=au e.1
   refine ai (ih e.2) fun l h1_ e2=>?_;obtain rfl:=h1_
   exact⟨(x,t)::l,rfl,by rw [List.map_cons,e2]⟩
theorem je(l:List (Str×Tok)):(strValues l).map er=ag (l.map (·.1)):=by
 simp [strValues,ag,er]
theorem M.join{l:Addr}{xs:List Str}(hl:σ.H l=some (.list (ag xs)))(hok:JoinOk x xs=true)(h:Q (.str (Txt.join x xs) 0) σ):Cb D A L "str.join" [.str x 0,.ref l] Q σ:=fun vs' e Φ s R=>by
 refine eA e fun v1 e1 v2 e2=>?_;refine aU e1 fun t=>?_;refine aV e2 ?_
 refine ai (R.listOf hl) fun its hi ei=>?_
 refine ai (pz ei) fun p hp hx=>?_
 have:its=(strValues p).toArray:=by rw [← hp]
 subst this
 exact SC.join hi hx hok (fun _ _=>done R h)
open PySem.Builtin PySem.Builtin.Str in
theorem M.split(hy:(y.length==0)=false)(hsz:x.length≤sizeLine)(hsz2:(Txt.split x y).length≤sizeLine)(h:New Q σ (.list (ag (Txt.split x y)))):Cb D A L "str.split" [.str x 0,.str y 0] Q σ:=fun vs' e Φ s R=>by
 refine eA e fun v1 e1 v2 e2=>?_;refine aU e1 fun t=>?_;refine aU e2 fun u=>?_
 have self:Txt.split x y= [x]→ ∃ σ',Rel D L Φ σ' { s with heap:=s.heap.push { cls:= .type "list",data:= .seq #[.str x t]}} ∧Q (.ref s.heap.objs.size) σ':=fun q=>
  R.push (ao:= .list (ag (Txt.split x y))) _ rfl ⟨_,_,rfl,by rw [q];rfl⟩ h
 cases h1:(decide (x.length<y.length) || decide (strKind x<strKind y))
 ·cases hf:(occurrences x y 0 x.length (x.length+1)).isEmpty
  ·have q:Txt.split x y=partsBetween x (occurrences x y 0 x.length (x.length+1)) y.length:=(if_neg (ne_true_of_eq_false h1)).trans (if_neg (ne_true_of_eq_false hf))
   refine call_meets F.slot_str_split (typeIs_str _ _ _) F.entry_str_split (F.args_str_split_2 _ _) (meets_str_split_sep x y t u h1 hy hf hsz (by rw [← q];exact hsz2)) ?_
   show wants _ _ _ { s with toks:=_,heap:=s.heap.push { cls:= .type "list",data:= .seq (strsFrom s.toks (partsBetween x (occurrences x y 0 x.length (x.length+1)) y.length)).toArray}}
   rw [strsFrom_eq]
   refine ai (R.push (ao:= .list (ag (Txt.split x y))) { cls:= .type "list",data:= .seq (strValues (numbered s.toks (partsBetween x (occurrences x y 0 x.length (x.length+1)) y.length))).toArray} rfl ⟨_,_,rfl,by
    show(strValues (numbered s.toks _)).map er=_
    rw [je,numbered_texts,q]⟩ h) fun σ' R' q'=>?_
   exact⟨σ',R'.tok _,q'⟩
  ·exact call_meets F.slot_str_split (typeIs_str _ _ _) F.entry_str_split (F.args_str_split_2 _ _) (meets_str_split_not_found x y t u h1 hy hf) (self ((if_neg (ne_true_of_eq_false h1)).trans (if_pos hf)))
 ·exact call_meets F.slot_str_split (typeIs_str _ _ _) F.entry_str_split (F.args_str_split_2 _ _) (meets_str_split_cannot_occur x y t u h1) (self (if_pos h1))
end
end Mine
end
section
open PySem PySem.W PyProof.Rows PySem.Calls PySem.SeqAt
namespace Mine
theorem dm(kvs:List (Str×Value))(k:Str):valueAt (kvs.map fun p=>(p.1,er p.2)) k=(valueAt kvs k).map er:=by
 unfold valueAt
 induction kvs with
 | nil=>rfl
 | cons p r ih=>
  rw [List.map_cons,List.find?_cons,List.find?_cons]
  by_cases e:p.1=k
  ·simp [e]
  ·simpa [e] using ih
theorem m9(kvs:List (Str×Value))(k:Str)(v:Value):(stored kvs k v).map (fun p=>(p.1,er p.2))=stored (kvs.map fun p=>(p.1,er p.2)) k (er v):=by
 unfold stored
 rw [List.any_map]
 have:((fun kv:Str×Value=>decide (kv.1=k))∘fun p:Str×Value=>(p.1,er p.2))=fun kv=>decide (kv.1=k):=rfl
 rw [this]
 split
 ·rw [List.map_map,List.map_map]
  congr 1
  funext p
  show((if p.1=k then(p.1,v)else p).1,er (if p.1=k then(p.1,v)else p).2)=(if p.1=k then(p.1,er v)else(p.1,er p.2))
  split<;> rfl
 ·rw [List.map_append];rfl
section
variable {D:Wd}{A:Around}{L:Addr}{α β:Type}{σ:St}{env:Env}{Φ:Frz}{s:Shared}{d:Addr}{es:List (Str×Value)}{ep:Nat}{k:Str}
theorem Rel0.dictAt{H:AH}(R:Rel0 D Φ H s)(h:H d=some (.dict es ep)):∃ kvs,s.heap.DictAt (strKind PR D.w) d kvs ep∧kvs.map (fun p=>(p.1,er p.2))=es:=by
 refine bz ((R.obj _ _ h).2) fun o ho kvs es' hx e=>?_
 exact⟨kvs,⟨o,es',ho,hx⟩,e⟩
theorem Rel.dictAt(R:Rel D L Φ σ s)(h:σ.H d=some (.dict es ep)):∃ kvs,s.heap.DictAt (strKind PR D.w) d kvs ep∧kvs.map (fun p=>(p.1,er p.2))=es:=R.rel.dictAt h
theorem Rel0.noMod{H:AH}{ao:AO}(R:Rel0 D Φ H s)(h:H d=some ao):(d==sysModules)=false:=by
 have:=R.hi _ _ h
 exact beq_eq_false_iff_ne.mpr fun q=>by rw [q]at this;exact absurd this (by decide)
theorem Rel.noMod{ao:AO}(R:Rel D L Φ σ s)(h:σ.H d=some ao):(d==sysModules)=false:=R.rel.noMod h
theorem At.dict_of{h:Heap}{kvs:List (Str×Value)}{w:World}(x:h.DictOf (strKind PR w) d kvs):∃ ep,At w h d (.dict (kvs.map fun p=>(p.1,er p.2)) ep):=
 let⟨ep,o,es',ho,hx⟩:=x.dictAt;⟨ep,o,ho,kvs,es',hx,rfl⟩
theorem E.dictEmpty{pos:Pos}{Q:Value→St→Prop}(h:New Q σ (.dict [] 0)):WE D A L (eval (.Dict [] [] pos) env) Q σ:=fun Φ s R=>
 wpAny_Dict_empty (R.push (ao:= .dict [] 0) { cls:= .type "dict",data:= .dict #[]} rfl ⟨[],#[],⟨⟨rfl,rfl,rfl⟩,rfl,fun _ he=>by simp at he,Pairs.nil,List.nodup_nil⟩,rfl⟩ h)
variable {Q:Value→St→Prop}
theorem O.itemDict{v:Value}(hd:σ.H d=some (.dict es ep))(hv:valueAt es k=some v)(h:Q v σ):W2 D A L getItem (.ref d) (.str k 0) Q σ:=fun va vb ea eb Φ s R=>by
 rw [al ea];obtain⟨t,rfl⟩:=au eb
 refine ai (R.dictAt hd) fun kvs hm h2_=>?_;obtain rfl:=h2_
 rw [dm]at hv
 refine ai (aP hv) fun v' hv' e=>?_
 exact wpAny_getItem_of (strKind_is _ _ k t) hm.dictOf.mapOf hv' (done R h e)
theorem O.inDict(hd:σ.H d=some (.dict es ep))(h:Q (.bool (valueAt es k).isSome) σ):W2 D A L (compareOp .In) (.str k 0) (.ref d) Q σ:=fun va vb ea eb Φ s R=>by
 rw [al eb];obtain⟨t,rfl⟩:=au ea
 refine ai (R.dictAt hd) fun kvs hm h2_=>?_;obtain rfl:=h2_
 rw [dm,Option.isSome_map]at h
 exact wpAny_in_of (strKind_is _ _ k t) (R.noMod hd) hm.dictOf.mapOf (done R h)
theorem M.dictGet(hd:σ.H d=some (.dict es ep))(h:Q ((valueAt es k).getD Value.none) σ):Cb D A L "dict.get" [.ref d,.str k 0] Q σ:=fun vs' e Φ s R=>by
 refine eA e fun v1 e1 v2 e2=>?_;refine aV e1 ?_;refine aU e2 fun t=>?_
 refine ai (R.dictAt hd) fun kvs hm h2_=>?_;obtain rfl:=h2_
 refine call_meetsIn F.slot_dict_get hm.dictOf.typeIs F.entry_dict_get (F.args_dict_get_2 _ _) (meets_dict_get (PySem.strKind PR D.w) d (strKind_is _ _ k t) (R.noMod hd)) ⟨_,hm.dictOf.mapOf,?_⟩
 refine done (x:=(valueAt (kvs.map fun p=>(p.1,er p.2)) k).getD Value.none) R h ?_
 rw [dm]
 cases valueAt kvs k<;> rfl
theorem W.setDict{v va vb vv:Value}{Q:Unit→St→Prop}(ea:er va= .ref d)(eb:er vb= .str k 0)(ev:er vv=v)(hd:σ.H d=some (.dict es ep))(hsz:es.length≤sizeLine)
 (h:∀ ep',Q () { σ with H:=upd σ.H d (.dict (stored es k v) ep')}):W D A L (setItem va vb vv) Q σ:=fun Φ s R=>by
 rw [al ea];obtain⟨t,rfl⟩:=au eb;subst ev
 refine ai (R.dictAt hd) fun kvs hm h2_=>?_;obtain rfl:=h2_
 refine wpAny_setItem_pairs (strKind_is _ _ k t) hm.dictOf (fun h' hd' hs'=>?_) (by simpa using hsz)
 obtain⟨ep',x⟩:=At.dict_of hd'
 rw [m9]at x
 exact⟨_,R.update hd (fun b o hb e=>(hs'.2 b hb).trans e) x,h ep'⟩
theorem S.assignSub{o i value:Expr}{p pos:Pos}{Q:Flow→St→Prop}
 (h:WE D A L (eval value env) (fun v σ₁=>WE D A L (eval o env) (fun ov σ₂=>WE D A L (eval i env) (fun iv σ₃=>
  ∀ v' ov' iv',er v'=v→er ov'=ov→er iv'=iv→W D A L (setItem ov' iv' v') (fun _ σ₄=>Q .next σ₄) σ₃) σ₂) σ₁) σ)
 (hs:swapsWith value (some (.Subscript o i p)) pos.line env=Pure.pure false:=by rfl):WS D A L env (.Assign [.Subscript o i p] value pos) Q σ:=fun Φ s R=>
 wpAny_Assign_Subscript (wpAny_mono (h Φ s R) (fun v s₁=>ar fun σ₁ R₁ h₁=>wpAny_mono (h₁ Φ s₁ R₁) (fun ov s₂=>ar fun σ₂ R₂ h₂=>wpAny_mono (h₂ Φ s₂ R₂) (fun iv s₃=>ar fun σ₃ R₃ h₃=>
  h₃ v ov iv rfl rfl rfl Φ s₃ R₃) fun _ _ x=>x) fun _ _ x=>x) fun _ _ x=>x) hs
theorem oa{target:Expr}(hh:A.handled=Option.none)(ht:∀ it v,letOwnedTupleGo target it v=Pure.pure ():=by intro _ _;rfl):
 Src D A (.ref d) target es.length (fun k=> .inl (.str ((es.map (·.1)).getD k default) 0)) [(d,.dict es ep)]:=by
 intro F H s Q R G hq
 refine ai (R.dictAt (G _ (.head _))) fun kvs hm ekv=>?_
 have hlen:kvs.length=es.length:=by rw [← ekv,List.length_map]
 refine wpAny_pyIter_dict (R.noMod (G _ (.head _))) hm (hq _ [s.heap.objs.size] _ _ _ (R.ext (t:=s.toks) fun b o e=>Heap.get?_push_of_some _ e) (R.fresh1 (Nat.le_refl _)) ?_
  (Turns.one (J:=fun k o=>o.cls= .type "dict_keyiterator" ∧o.data= .fields #[.ref d,.int k 0,.int es.length 0,.int ep 0]) ht ?_ ?_ ?_))
 ·exact⟨_,Heap.get?_push_size _ rfl,rfl,by rw [hlen];rfl⟩
 ·intro k F H s o Q R G ho J hk hq
  refine ai (R.dictAt (G _ (.head _))) fun kvs hm ekv=>?_
  have hlen:kvs.length=es.length:=by rw [← ekv,List.length_map]
  have hi:s.heap.IsKeyIter _ d k kvs.length ep:=⟨o,ho,J.1,by rw [J.2,hlen]⟩
  have h:k<kvs.length:=by exact qb hk hlen
  refine wpAny_pyNext_dict_item hi hm (k:=kvs[k].1) (v:=kvs[k].2) (List.getElem?_eq_getElem h) fun key h' hkey hi' hs=>?_
  refine aR hi' fun o' ho' j1 j2=>?_;clear hi'
  refine hq key h' s.toks o' ?_ ⟨j1,by rw [j2,hlen]⟩ ho' hs.2
  obtain⟨u,rfl⟩:=Value.isStrOf_shape (show Value.isStrOf _ key=true from hkey)
  subst ekv
  simp [er,List.getD,h]
 ·intro F H s o Q R G ho J hq
  refine ai (R.dictAt (G _ (.head _))) fun kvs hm ekv=>?_
  have hlen:kvs.length=es.length:=by rw [← ekv,List.length_map]
  exact wpAny_pyNext_dict_end hh ⟨o,ho,J.1,by rw [J.2,hlen]⟩ hm (List.getElem?_eq_none (by exact vQ hlen)) fun h' hs=>hq h' s.toks fun b o hb e=>hs b o hb e
 ·intro k s o Q ho J hq
  exact wpAny_pyIter_keyiter ⟨o,ho,J⟩ hq
noncomputable def cA(d:Addr):Obj:={ cls:= .type "dict_values",data:= .fields #[.ref d]}
theorem M.values(hd:σ.H d=some (.dict es ep))(h:New Q σ (.raw (cA d))):Cb D A L "dict.values" [.ref d] Q σ:=fun vs' e Φ s R=>by
 refine d7 e fun v1 e1=>?_;refine aV e1 ?_
 refine ai (R.dictAt hd) fun kvs hm h2_=>?_;obtain rfl:=h2_
 exact call_meetsIn F.slot_dict_values hm.dictOf.typeIs F.entry_dict_values (F.args_dict_values_1 _) (meets_dict_values (PySem.strKind PR D.w) d (R.noMod hd)) ⟨⟨_,hm.dictOf⟩,R.push (ao:= .raw (cA d)) _ rfl rfl h⟩
theorem lG{v:Addr}{target:Expr}(hh:A.handled=Option.none)(ht:∀ it v,letOwnedTupleGo target it v=Pure.pure ():=by intro _ _;rfl):
 Src D A (.ref v) target es.length (fun k=> .inl ((es.map (·.2)).getD k .none)) [(d,.dict es ep),(v,.raw (cA d))]:=by
 intro F H s Q R G hq
 refine ai (R.dictAt (G _ (.head _))) fun kvs hm ekv=>?_
 have hlen:kvs.length=es.length:=by rw [← ekv,List.length_map]
 refine ai ((R.obj _ _ (G _ (.tail _ (.head _)))).2) fun o ho h2_=>?_;obtain rfl:=h2_
 refine wpAny_pyIter_values ⟨_,ho,rfl,rfl⟩ hm (hq _ [s.heap.objs.size] _ _ _ (R.ext (t:=s.toks) fun b o e=>Heap.get?_push_of_some _ e) (R.fresh1 (Nat.le_refl _)) ?_
  (Turns.one (J:=fun k o=>o.cls= .type "dict_valueiterator" ∧o.data= .fields #[.ref d,.int k 0,.int es.length 0,.int ep 0]) ht ?_ ?_ ?_))
 ·exact⟨_,Heap.get?_push_size _ rfl,rfl,by rw [hlen];rfl⟩
 ·intro k F H s o Q R G ho J hk hq
  refine ai (R.dictAt (G _ (.head _))) fun kvs hm ekv=>?_
  have hlen:kvs.length=es.length:=by rw [← ekv,List.length_map]
  have h:k<kvs.length:=by exact qb hk hlen
  refine wpAny_pyNext_values_item ⟨o,ho,J.1,by rw [J.2,hlen]⟩ hm (k:=kvs[k].1) (v:=kvs[k].2) (List.getElem?_eq_getElem h) fun h' hi' hs=>?_
  refine aR hi' fun o' ho' j1 j2=>?_;clear hi'
  refine hq _ h' s.toks o' ?_ ⟨j1,by rw [j2,hlen]⟩ ho' hs.2
  subst ekv
  simp [List.getD,h]
 ·intro F H s o Q R G ho J hq
  refine ai (R.dictAt (G _ (.head _))) fun kvs hm ekv=>?_
  have hlen:kvs.length=es.length:=by rw [← ekv,List.length_map]
  exact wpAny_pyNext_values_end hh ⟨o,ho,J.1,by rw [J.2,hlen]⟩ hm (List.getElem?_eq_none (by exact vQ hlen)) fun h' hs=>hq h' s.toks fun b o hb e=>hs b o hb e
 ·intro k s o Q ho J hq
  exact wpAny_pyIter_valiter ⟨o,ho,J⟩ hq
end
end Mine
end
section
open PySem PySem.W PyProof.Rows PySem.Calls PySem.SeqAt
namespace Mine
noncomputable abbrev im(env:Env)(ifs:List Expr):Sem Bool:=forIn ifs true fun c r=>if r=true then do let ok ← isTrue c env (eval c env);Pure.pure (ForInStep.yield ok)else Pure.pure (ForInStep.yield r)
section
variable {w:World}{A:Around}{R:Result→Shared→Prop}{s:Shared}
theorem vm{elt target iter:Expr}{ifs:List Expr}{scope:Scope}{pos:Pos}{it acc:Value}{env:Env}(I:Nat→Shared→Prop)
 (turn:∀ n s,I n s→wpAny (model PR w) A (pyNext it) (fun r s₁=>match r with
  | none=>R (.ok .next) s₁
  | some v=>wpAny (model PR w) A (letOwnedTupleGo target it v) (fun _ s₁'=>wpAny (model PR w) A (PySem.assign target env v) (fun _ s₂=>wpAny (model PR w) A (im env ifs) (fun ok s₃=>
   if ok=true then wpAny (model PR w) A (eval elt env) (fun x s₄=>
    wpAny (model PR w) A (PySem.call (.builtin "list.append") [acc,x]) (fun _ s₅=> ∃ m,m<n∧I m s₅) (fun _ _=>False) s₄) (fun _ _=>False) s₃
   else ∃ m,m<n∧I m s₃) (fun _ _=>False) s₂) (fun _ _=>False) s₁') (fun _ _=>False) s₁) (fun _ _=>False) s)
 (n:Nat) (h:I n s):codeAny (model PR w) A (.compLoop (.ListComp elt [⟨target,iter,ifs,0⟩] scope pos) 0 it acc env) R s:=by
 refine codeAny_loop rfl I (fun n s hI=>?_) n h
 show wpAny _ A ((compTurn (.ListComp elt [⟨target,iter,ifs,0⟩] scope pos) 0 it acc env).onRaise (fun x=>do noteFrame x env;theTreesLotGoes x)) _ _ s
 refine wpAny_noted ?_
 rw [compTurn_list]
 refine wpAny_bind (wpAny_standAt (wpAny_bind (wpAny_mono (turn n s hI) (fun r s₁ h₁=>?_) fun _ _ h'=>h'.elim)))
 cases r with
 | none=>exact wpAny_pure h₁
 | some v=>
  refine wpAny_bind (wpAny_mono h₁ (fun _ s₁' h₁'=>wpAny_bind (wpAny_mono h₁' (fun _ s₂ h₂=>wpAny_bind (wpAny_mono h₂ (fun ok s₃ h₃=>?_) fun _ _ h'=>h'.elim)) fun _ _ h'=>h'.elim)) fun _ _ h'=>h'.elim)
  cases ok with
  | false=>exact wpAny_pure ⟨rfl,h₃⟩
  | true=>exact wpAny_bind (wpAny_bind (wpAny_mono h₃ (fun x s₄ h₄=>wpAny_bind (wpAny_mono h₄ (fun _ s₅ h₅=>wpAny_pure (wpAny_pure ⟨rfl,h₅⟩)) fun _ _ h'=>h'.elim)) fun _ _ h'=>h'.elim))
theorem vn{kx vx target iter:Expr}{scope:Scope}{pos:Pos}{it:Value}{d:Addr}{env:Env}(I:Nat→Shared→Prop)
 (turn:∀ n s,I n s→wpAny (model PR w) A (pyNext it) (fun r s₁=>match r with
  | none=>R (.ok .next) s₁
  | some v=>wpAny (model PR w) A (letOwnedTupleGo target it v) (fun _ s₁'=>wpAny (model PR w) A (PySem.assign target env v) (fun _ s₂=>
   wpAny (model PR w) A (eval kx env) (fun kv s₃=>wpAny (model PR w) A (eval vx env) (fun vv s₄=>
    wpAny (model PR w) A (dictSet d kv vv) (fun _ s₅=> ∃ m,m<n∧I m s₅) (fun _ _=>False) s₄) (fun _ _=>False) s₃) (fun _ _=>False) s₂) (fun _ _=>False) s₁') (fun _ _=>False) s₁) (fun _ _=>False) s)
 (n:Nat) (h:I n s):codeAny (model PR w) A (.compLoop (.DictComp kx vx [⟨target,iter,[],0⟩] scope pos) 0 it (.ref d) env) R s:=by
 refine codeAny_loop rfl I (fun n s hI=>?_) n h
 show wpAny _ A ((compTurn (.DictComp kx vx [⟨target,iter,[],0⟩] scope pos) 0 it (.ref d) env).onRaise (fun x=>do noteFrame x env;theTreesLotGoes x)) _ _ s
 refine wpAny_noted ?_
 rw [compTurn_dict]
 refine wpAny_bind (wpAny_standAt (wpAny_bind (wpAny_mono (turn n s hI) (fun r s₁ h₁=>?_) fun _ _ h'=>h'.elim)))
 cases r with
 | none=>exact wpAny_pure h₁
 | some v=>
  refine wpAny_bind (wpAny_mono h₁ (fun _ s₁' h₁'=>wpAny_bind (wpAny_mono h₁' (fun _ s₂ h₂=>wpAny_bind (wpAny_tests_nil ?_)) fun _ _ h'=>h'.elim)) fun _ _ h'=>h'.elim)
  exact wpAny_bind (wpAny_bind (wpAny_mono h₂ (fun kv s₃ h₃=>wpAny_bind (wpAny_holding (wpAny_mono h₃ (fun vv s₄ h₄=>wpAny_bind (wpAny_standAt (wpAny_holding (wpAny_mono h₄ (fun _ s₅ h₅=>wpAny_pure ⟨rfl,h₅⟩) fun _ _ h'=>h'.elim)))) fun _ _ h'=>h'.elim))) fun _ _ h'=>h'.elim))
end
section
variable {D:Wd}{A:Around}{L:Addr}{α β:Type}{σ:St}{env:Env}{F:Frz}{H:AH}{s:Shared}{fp:List Addr}
noncomputable abbrev nO(D:Wd)(A:Around)(C:Addr)(cenv:Env)(ifs:List Expr)(Q:Bool→St→Prop)(σ:St):Prop:=W D A C (im cenv ifs) Q σ
theorem W.testsNil{Q:Bool→St→Prop}(h:Q true σ):nO D A L env [] Q σ:=fun _ _ R=>wpAny_tests_nil ⟨σ,R,h⟩
theorem W.testsOne{c:Expr}{Q:Bool→St→Prop}(h:WT D A L env c Q σ):nO D A L env [c] Q σ:=fun F s R=>wpAny_tests_one (h F s R)
theorem iC{H H':AH}(x:Ext H H')(L:Addr):Ext (del H L) (del H' L):=fun b o e=>by
 by_cases q:b=L
 ·rw [q,b7]at e;cases e
 ·rw [ay q]at e ⊢;exact x b o e
theorem Rel0.adopt(R:Rel0 D F H s){a:Addr}{ao:AO}(x:At D.w s.heap a ao)(hF:F a=none)(h3:3<a):Rel0 D F (upd H a ao) s:=
 ⟨R.base,R.frz,fun b bo e=>by
  by_cases q:b=a
  ·subst q;rw [ah]at e;cases e;exact⟨hF,x⟩
  ·rw [af q]at e;exact R.obj b bo e,R.os,R.gens,fun b bo e=>by
  by_cases q:b=a
  ·rw [q];exact h3
  ·rw [af q]at e;exact R.hi b bo e⟩
structure InComp (D:Wd) (F:Frz) (C acc:Addr) (fp:List Addr) (m:Str→Option Value) (H:AH) (s:Shared):Prop where
 rel:Rel D C F ⟨m,H⟩ s
 hid:Hid F (upd H C (.ns m)) (acc::fp)
theorem Rel.compStart{o:Obj}{h₁:Heap}{tk:Nat}(R:Rel D L F σ s)(hh:Hid F (upd σ.H L (.ns σ.loc)) fp)(hfp:∀ b∈fp,∃ ob,s.heap.get? b=some ob)(hf:o.isFreed=false){m:Str→Option Value}(hns:h₁.Ns (s.heap.push o).objs.size m)
 (hsb:Heap.SameBut (s.heap.push o).objs.size ((s.heap.push o).push { cls:= .type "dict",data:= .dict #[]}) h₁):
 InComp D F (s.heap.push o).objs.size s.heap.objs.size fp (fun x=>(m x).map er) (upd σ.H L (.ns σ.loc)) { s with heap:=h₁,toks:=tk} ∧h₁.get? s.heap.objs.size=some o∧
  (∀ b ob,s.heap.get? b=some ob→h₁.get? b=some ob):=by
 have hC:(s.heap.push o).objs.size=s.heap.objs.size+1:=Heap.size_push ..
 have ne:s.heap.objs.size≠(s.heap.push o).objs.size:=by rw [hC];exact Nat.ne_of_lt (Nat.lt_succ_self _)
 have keep:∀ b ob,s.heap.get? b=some ob→h₁.get? b=some ob:=fun b ob e=>(hsb.2 b (by rw [hC];exact Nat.ne_of_lt (Nat.lt_succ_of_lt (Heap.lt_size e)))).trans (Heap.get?_push_of_some _ (Heap.get?_push_of_some _ e))
 have R0:=R.push0.ext (t:=tk) keep
 have big:=R.rel.big
 refine⟨⟨⟨R0,R.push0.geF _ (by rw [hC];exact Nat.le_succ _),R.push0.ge _ (by rw [hC];exact Nat.le_succ _),At.of_ns hns fun _=>rfl,by rw [hC];exact Nat.lt_succ_of_lt big⟩,fun b hb=>?_⟩,(hsb.2 _ ne).trans (Heap.get?_push_of_some _ (Heap.get?_push_size _ hf)),keep⟩
 rcases List.mem_cons.mp hb with q | q
 ·subst q;exact⟨R.push0.geF _ (Nat.le_refl _),by rw [af ne];exact R.push0.ge _ (Nat.le_refl _)⟩
 ·refine⟨(hh b q).1,?_⟩
  obtain⟨ob,e⟩:=hfp b q
  rw [af (by rw [hC];exact Nat.ne_of_lt (Nat.lt_succ_of_lt (Heap.lt_size e)))];exact(hh b q).2
theorem InComp.turn{C acc:Addr}{m:Str→Option Value}(x:InComp D F C acc fp m H s):Rel D C (dt F (acc::fp) s.heap) ⟨m,H⟩ s:=x.rel.hideL x.hid
theorem InComp.back{C acc:Addr}{σ:St}{h:Heap}(R:Rel D C (dt F (acc::fp) h) σ s)(hb:∀ b o,D.h₀.get? b=some o→F b=some o)(hF:∀ b∈acc::fp,F b=none)(live:∀ b∈acc::fp,∃ o,h.get? b=some o):
 InComp D F C acc fp σ.loc σ.H s∧ ∀ b∈acc::fp,∀ o,h.get? b=some o→s.heap.get? b=some o:=by
 refine aE (R.unhideL hb hF live) fun R' hh k=>?_
 exact⟨⟨R',hh⟩,k⟩
theorem InComp.fin{C acc:Addr}{m ml:Str→Option Value}{h':Heap}{ao:AO}{tk:Nat}(x:InComp D F C acc fp m H s)(hs:Heap.SameBut C s.heap h')(hL:H L=some (.ns ml))(ha:At D.w h' acc ao)(h3:3<acc):
 Rel D L F ⟨ml,upd (del H L) acc ao⟩ { s with heap:=h',toks:=tk} ∧del H L acc=none∧acc≠L:=by
 have hacc:acc≠L:=fun q=>by
  have:=(x.hid acc (.head _)).2
  by_cases r:acc=C
  ·rw [r,ah]at this;cases this
  ·rw [af r,q,hL]at this;cases this
 have hC:Hid F H [C]:=fun b hb=>by rw [List.mem_singleton.mp hb];exact⟨x.rel.FL,x.rel.HL⟩
 have R0:Rel0 D F H { s with heap:=h',toks:=tk}:=x.rel.rel.hid hC fun b o hn e=>(hs.2 b fun q=>hn (List.mem_singleton.mpr q)).trans e
 have hn:del H L acc=none:=by
  rw [ay hacc]
  have:=(x.hid acc (.head _)).2
  by_cases r:acc=C
  ·rw [r,ah]at this;cases this
  ·rwa [af r]at this
 refine⟨?_,hn,hacc⟩
 have R1:=R0.adopt (a:=acc) (ao:=ao) ha (x.hid acc (.head _)).1 h3
 have:=Rel.pop0 R1 (L:=L) (m:=ml) (by rw [af hacc.symm];exact hL)
 have e:del (upd H acc ao) L=upd (del H L) acc ao:=funext fun b=>by
  by_cases q:b=L
  ·subst q;rw [b7,af hacc.symm,b7]
  ·rw [ay q]
   by_cases r:b=acc
   ·rw [r,ah,ah]
   ·rw [af r,af r,ay q]
 rwa [e]at this
noncomputable def iy(n:Nat)(p:Nat→Bool):List Nat:=(List.range n).filter p
theorem jh(n:Nat)(p:Nat→Bool):iy (n+1) p=iy n p++(if p n then [n]else []):=by
 unfold iy;rw [List.range_succ,List.filter_append];cases h:p n<;> simp [h]
theorem p5(n:Nat)(p:Nat→Bool):(iy n p).length≤n:=Nat.le_trans (List.length_filter_le ..) (by rw [List.length_range];exact Nat.le_refl n)
noncomputable def jK(Y:Nat→Value→AH→Prop):Prop:=∀ k v H H',Y k v H→Ext H H'→Y k v H'
noncomputable def eG(D:Wd)(A:Around)(L:Addr)(cenv:Addr→Env)(target:Expr)(ifs:List Expr)(elt:Expr)(n:Nat)(itm:Nat→Value ⊕ AO)(p:Nat→Bool)(Y:Nat→Value→AH→Prop)(H₁:AH):Prop:=
 ∀ C k m H',k<n→H' C=none→Ext H₁ H'→mW (itm k) (fun v σ=>W D A C (PySem.assign target (cenv C) v) (fun _ σ₂=>nO D A C (cenv C) ifs (fun ok σ₃=>ok=p k∧
  if ok then WE D A C (eval elt (cenv C)) (fun y σ₄=>Ext H' σ₄.H∧Y k y (del σ₄.H L)) σ₃ else Ext H' σ₃.H) σ₂) σ) ⟨m,H'⟩
theorem lx{elt target iter:Expr}{ifs:List Expr}{scope:Scope}{cl:List (Str×Addr)}{pos:Pos}{σ₁:St}{n:Nat}{itm:Nat→Value ⊕ AO}{g:List (Addr×AO)}{it:Addr}{J:Nat→Heap→Prop}{Jo:Value→Nat→Heap→Prop}
 {p:Nat→Bool} {Y:Nat→Value→AH→Prop} {RR:Value→Addr→Result→Shared→Prop} (hcell:∀ y∈scope.names,y.2≠ .cell) (hkind:scope.kind= .function)
 (R:Rel D L F σ₁ s) (hh:Hid F (upd σ₁.H L (.ns σ₁.loc)) fp) (hJ:J 0 s.heap) (T:Turns D A target n itm g it fp J Jo) (hg:Has σ₁.H g) (hn:n≤sizeLine) (hY:jK Y)
 (turn:eG D A L (fun C=>compEnvC scope cl C env) target ifs elt n itm p Y (upd σ₁.H L (.ns σ₁.loc)))
 (hRR:∀ C acc m H' s',InComp D F C acc fp m H' s'→Ext (upd σ₁.H L (.ns σ₁.loc)) H'→(∃ its n',s'.heap.get? acc=some { cls:= .type "list",dict:=Option.none,data:= .seq its n',slots:= #[]} ∧Paired (fun k v=>Y k v (del H' L)) (iy n p) (its.toList.map er))→3<acc→
  RR (.ref acc) C (.ok .next) s'):
 wpAny (model PR D.w) A (newList []) (fun acc s₃=>wpAny (model PR D.w) A (newFunctionEnv scope env.globals cl [] env.qual Option.none .none (some env)) (fun cenv s₄=>
  codeAny (model PR D.w) A (.compStart (.ListComp elt [⟨target,iter,ifs,0⟩] scope pos) 0 (.ref it) acc { cenv with scope:=relabel scope env}) (RR acc cenv.locals) s₄) (fun _ _=>False) s₃) (fun _ _=>False) s:=by
 refine wpAny_newObj_type (wpAny_newFunctionEnv hcell (by intro y hy;simp at hy) (fun h₁ hns₁ hsb₁=>?_) hkind)
 refine aE (R.compStart (tk:=s.toks+([]:List (Str×Value)).length) hh (T.live 0 _ hJ) (by rfl) hns₁ hsb₁) fun x₀ hacc₀ keep₀=>?_
 have base:=R.rel.base
 have h3:3<s.heap.objs.size:=R.rel.big
 have J₀:J 0 h₁:=T.frame 0 _ _ hJ fun b _ o e=>keep₀ b o e
 have hF:∀ b∈s.heap.objs.size::fp,F b=none:=fun b hb=>(x₀.hid b hb).1
 generalize hc:(s.heap.push { cls:= .type "list",data:= .seq ([]:List Value).toArray}).objs.size=C at *
 have loop:codeAny (model PR D.w) A (.compLoop (.ListComp elt [⟨target,iter,ifs,0⟩] scope pos) 0 (.ref it) (.ref s.heap.objs.size) (compEnvC scope cl C env)) (RR (.ref s.heap.objs.size) C) { s with heap:=h₁,toks:=s.toks+([]:List (Str×Value)).length}:=by
  let Jv:Nat→Shared→Prop:=fun j s'=> ∃ k m H' its n',j+k=n∧InComp D F C s.heap.objs.size fp m H' s'∧Ext (upd σ₁.H L (.ns σ₁.loc)) H'∧J k s'.heap∧s'.heap.get? s.heap.objs.size=some { cls:= .type "list",dict:=Option.none,data:= .seq its n',slots:= #[]} ∧
   Paired (fun k v=>Y k v (del H' L)) (iy k p) (its.toList.map er)
  refine vm Jv (fun j s'=>cF fun k m H' its n' hjk x hext hj hacc hp=>?_) n ⟨0,_,_,_,_,by exact rp,x₀,Ext.refl _,J₀,hacc₀,.nil⟩
  have hG:Has (upd H' C (.ns m)) g:=(hg.ext (aa R.HL)).ext (hext.trans (aa x.rel.HL))
  have hhid:Hid F (upd H' C (.ns m)) fp:=fun b hb=>x.hid b (.tail _ hb)
  have accfp:s.heap.objs.size∉fp:=fun q=>by obtain⟨o,e⟩:=T.live 0 _ hJ _ q;exact absurd (Heap.lt_size e) (Nat.lt_irrefl _)
  have lenp:its.size=(iy k p).length:=by rw [hp.length,List.length_map,Array.length_toList]
  have szp:its.size≤sizeLine:=by have:=p5 k p;exact wX hjk lenp hn this
  rcases Nat.lt_or_ge k n with hk | hk
  ·
   have hA:Hid F (upd H' C (.ns m)) [s.heap.objs.size]:=fun b hb=>x.hid b (by rw [List.mem_singleton.mp hb];exact .head _)
   have R1:=x.rel.push0.hideL hA
   have hF1:∀ b∈fp,dt F [s.heap.objs.size] s'.heap b=none:=fun b hb=>by
    unfold dt;rw [if_neg fun q=>accfp (by rw [← List.mem_singleton.mp q];exact hb)];exact(x.hid b (.tail _ hb)).1
   have hh1:Hid (dt F [s.heap.objs.size] s'.heap) (upd H' C (.ns m)) fp:=fun b hb=>⟨hF1 b hb,(hhid b hb).2⟩
   have live1:∀ b∈ [s.heap.objs.size],∃ o,s'.heap.get? b=some o:=fun b hb=>by rw [List.mem_singleton.mp hb];exact⟨_,hacc⟩
   refine wpAny_mono (T.next k _ _ s' (fun r s₁=> ∃ v,r=some v∧ ∃ H₂,Rel0 D (dt F [s.heap.objs.size] s'.heap) H₂ s₁∧Hid (dt F [s.heap.objs.size] s'.heap) H₂ fp∧Jo v (k+1) s₁.heap∧gw (itm k) v (upd H' C (.ns m)) H₂) R1 hG hh1 hj hk fun v s₁ H₂ R' hh' j' x=>⟨v,rfl,H₂,R',hh',j',x⟩) (fun r s₁=>cX fun v e H₂ R₂ hh₂ j₂ ix=>?_) fun _ _ x=>x.elim
   subst e
   refine wpAny_mono (T.go v (k+1) _ H₂ s₁ _ R₂ hh₂ j₂ fun s₂ R₃ j₃=>?_) (fun _ s₂ z=>z) fun _ _ x=>x.elim
   refine aE (R₃.unhideL base (fun b hb=>(hA b hb).1) live1) fun R₄ hA₄ kA=>?_
   have hacc₄:=kA _ (.head _) _ hacc
   refine aR (Rel.drawn x.rel.HL R₄ ix (turn C k m H' hk x.rel.HL hext)) fun σ' R₅ eH q=>?_
   have hh₅:Hid F (upd σ'.H C (.ns σ'.loc)) (s.heap.objs.size::fp):=fun b hb=>by
    rw [eH]
    rcases List.mem_cons.mp hb with z | z
    ·rw [z];exact hA₄ _ (.head _)
    ·exact⟨hF b hb,(hh₂ b z).2⟩
   have live₅:∀ b∈s.heap.objs.size::fp,∃ o,s₂.heap.get? b=some o:=fun b hb=>by
    rcases List.mem_cons.mp hb with z | z
    ·rw [z];exact⟨_,hacc₄⟩
    ·exact T.live _ _ j₃ b z
   refine wpAny_mono (q _ _ (R₅.hideL hh₅)) (fun _ s₃=>ar fun σ₃ R₆ h₆=>wpAny_mono (h₆ _ _ R₆) (fun ok s₄=>aK fun σ₄ R₇ hok h₇=>?_) fun _ _ x=>x.elim) fun _ _ x=>x.elim
   cases ok with
   | false=>
    obtain⟨x₇,k₇⟩:=InComp.back R₇ base hF live₅
    refine⟨j-1,by exact qd hjk hk,k+1,σ₄.loc,σ₄.H,its,n',by exact qc hjk hk,x₇,hext.trans h₇,T.frame _ _ _ j₃ fun b hb=>k₇ b (.tail _ hb),k₇ _ (.head _) _ hacc₄,?_⟩
    rw [jh,← hok]
    simpa using PySem.Paired.mono (fun a b y=>hY _ _ _ _ y (iC h₇ L)) hp
   | true=>
    refine wpAny_mono (h₇ _ _ R₇) (fun y s₅=>aK fun σ₅ R₈ e₈ y₈=>?_) fun _ _ x=>x.elim
    obtain⟨x₈,k₈⟩:=InComp.back R₈ base hF live₅
    have hacc₈:=k₈ _ (.head _) _ hacc₄
    refine call_meets PySem.F.slot_list_append ⟨_,hacc₈,rfl⟩ PySem.F.entry_list_append (PySem.F.args_list_append_2 _ _) (AutoListH.list_append_list_val_0 s.heap.objs.size its n' y szp) ⟨hacc₈,?_⟩
    have other:∀ b,b≠s.heap.objs.size→({ s₅ with heap:=s₅.heap.update s.heap.objs.size (Obj.mapSeq fun xs=>xs.push y)}:Shared).heap.get? b=s₅.heap.get? b:=fun b hb=>Heap.get?_update_other _ _ (Ne.symm hb)
    refine⟨j-1,by exact qd hjk hk,k+1,σ₅.loc,σ₅.H,its.push y,n'+1,by exact qc hjk hk,⟨?_,x₈.hid⟩,hext.trans e₈,T.frame _ _ _ j₃ fun b hb o e=>(other b fun z=>accfp (z▸hb)).trans (k₈ b (.tail _ hb) o e),?_,?_⟩
    ·have hA8:Hid F (upd σ₅.H C (.ns σ₅.loc)) [s.heap.objs.size]:=fun b hb=>x₈.hid b (by rw [List.mem_singleton.mp hb];exact .head _)
     have:=Rel.pop0 ((x₈.rel.push0).hid (t:=s₅.toks) hA8 fun b o hn e=>(other b fun z=>hn (List.mem_singleton.mpr z)).trans e) (L:=C) (ah ..)
     rwa [bf x₈.rel.HL]at this
    ·exact(Heap.get?_update_self _ hacc₈ rfl).trans (by simp [Obj.mapSeq])
    ·rw [jh,← hok,Array.toList_push,List.map_append]
     exact(PySem.Paired.mono (fun a b y=>hY _ _ _ _ y (iC e₈ L)) hp).snoc y₈
  ·obtain rfl:k=n:=by exact ro hjk hk
   have hA:Hid F (upd H' C (.ns m)) [s.heap.objs.size]:=fun b hb=>x.hid b (by rw [List.mem_singleton.mp hb];exact .head _)
   have R1:=x.rel.push0.hideL hA
   have hh1:Hid (dt F [s.heap.objs.size] s'.heap) (upd H' C (.ns m)) fp:=fun b hb=>⟨by
    unfold dt;rw [if_neg fun q=>accfp (by rw [← List.mem_singleton.mp q];exact hb)];exact(x.hid b (.tail _ hb)).1,(hhid b hb).2⟩
   have live1:∀ b∈ [s.heap.objs.size],∃ o,s'.heap.get? b=some o:=fun b hb=>by rw [List.mem_singleton.mp hb];exact⟨_,hacc⟩
   refine wpAny_mono (T.stop _ _ s' (fun r s₁=>r=Option.none∧Rel0 D (dt F [s.heap.objs.size] s'.heap) (upd H' C (.ns m)) s₁) R1 hG hh1 hj fun s₁ R' _=>⟨rfl,R'⟩) (fun r s₁=>gD fun e R₂=>?_) fun _ _ x=>x.elim
   subst e
   refine aE (R₂.unhideL base (fun b hb=>(hA b hb).1) live1) fun R₄ hA₄ kA=>?_
   refine hRR C _ m H' s₁ ⟨by have:=Rel.pop0 R₄ (L:=C) (ah ..);rwa [bf x.rel.HL]at this,x.hid⟩ hext ⟨its,n',kA _ (.head _) _ hacc,hp⟩ h3
 exact codeAny_compStart_list loop (wpAny_mono (T.self 0 _ _ _ (fun v s'=>v= .ref it∧s'= { s with heap:=h₁,toks:=s.toks+([]:List (Str×Value)).length}) x₀.rel.rel J₀ ⟨rfl,rfl⟩) (fun v s'=>gD fun e1 e2=>by subst e1 e2;exact loop) fun _ _ x=>x.elim)
theorem E.listComp{elt target iter:Expr}{ifs:List Expr}{scope:Scope}{cl:List (Str×Addr)}{pos:Pos}{Q:Value→St→Prop}
 (hclos:closureFor scope env=Pure.pure cl)
 (h:It D A L env target iter (fun n itm g σ₁=>n≤sizeLine∧ ∃ (p:Nat→Bool) (Y:Nat→Value→AH→Prop),jK Y∧
  eG D A L (fun C=>compEnvC scope cl C env) target ifs elt n itm p Y (upd σ₁.H L (.ns σ₁.loc))∧
  ∀ a H' ys,Ext σ₁.H H'→σ₁.H a=Option.none→H' a=some (.list ys)→Paired (fun k v=>Y k v H') (iy n p) ys→Q (.ref a) ⟨σ₁.loc,H'⟩) σ)
 (hcell:∀ y∈scope.names,y.2≠ .cell:=by decide) (hkind:scope.kind= .function:=by rfl) (hnames:∀ x∈scope.names,x.2= .local→scope.names.lookup x.1=some .local:=by decide)
 (hs:∀ x,foldedSetIterable iter env x=Pure.pure x:=by intro _;rfl):
 WE D A L (eval (.ListComp elt [⟨target,iter,ifs,0⟩] scope pos) env) Q σ:=fun F s R=>by
 rw [eval_ListComp]
 refine wpAny_comprehension_free (use:=Option.none) rfl hs hclos hkind hnames (wpAny_mono (h F s R) (fun xv s₁ h₁=>wpAny_mono h₁ (fun v s₂=>aH fun n itm g it fp J Jo σ₁ e R₂ hh j T hg t_=>iN t_ fun hn p Y hY turn fin=>?_) fun _ _ e=>e) fun _ _ e=>e)
 subst e
 refine lx (RR:=fun acc C=>compPost (model PR D.w) A _ Option.none _ acc C) hcell hkind R₂ hh j T hg hn hY turn fun C acc m H' s' x hext=>oZ fun its n' hacc hp h3=>?_
 refine ai x.rel.nsOf fun mc hnc hm=>?_
 refine⟨mc,hnc,fun h' hs'=>?_⟩
 have neC:acc≠C:=fun q=>by have:=(x.hid acc (.head _)).2;rw [q,ah]at this;cases this
 have hL:H' L=some (.ns σ₁.loc):=hext _ _ (ah ..)
 refine aE (x.fin (L:=L) (tk:=s'.toks) (ao:= .list (its.toList.map er)) hs' hL ⟨_,(hs'.2 acc neC).trans hacc,_,_,rfl,rfl⟩ h3) fun R₃ hn₃ neL=>?_
 have ext₁:Ext σ₁.H (del H' L):=fun b o e=>by
  have ne:b≠L:=fun q=>by rw [q,R₂.HL]at e;cases e
  rw [ay ne];exact hext b o (by rw [af ne];exact e)
 refine⟨_,R₃,fin acc _ _ (ext₁.trans (aa hn₃)) (az (fun b o e=>ext₁ b o e) hn₃) (ah ..) (PySem.Paired.mono (fun a b y=>hY _ _ _ _ y (aa hn₃)) hp)⟩
end
end Mine
end
section
open PySem PySem.W PyProof.Rows PySem.Calls PySem.SeqAt
namespace Mine
section
variable {D:Wd}{A:Around}{L:Addr}{α β:Type}{σ:St}{env:Env}{F:Frz}{H:AH}{s:Shared}{fp:List Addr}
theorem Rel.dropC{m:Str→Option Value}{C:Addr}{h':Heap}{tk:Nat}(R:Rel D L F ⟨m,H⟩ s)(hne:C≠L)(hF:F C=none)(hs:Heap.SameBut C s.heap h'):Rel D L F ⟨m,del H C⟩ { s with heap:=h',toks:=tk}:=by
 have R0:Rel0 D F (del H C) s:=R.rel.mono fun a o e=>by
  by_cases q:a=C
  ·rw [q,b7]at e;cases e
  ·rwa [ay q]at e
 refine⟨R0.hid (fp:= [C]) (fun b hb=>by rw [List.mem_singleton.mp hb];exact⟨hF,b7 _ _⟩) fun b o hn e=>(hs.2 b fun q=>hn (List.mem_singleton.mpr q)).trans e,R.FL,?_,R.ns.keepAt fun o e=>(hs.2 L hne.symm).trans e,R.hiL⟩
 show del H C L=none
 rw [ay hne.symm];exact R.HL
theorem S.assignListComp{x:Str}{px spos:Pos}{elt target iter:Expr}{ifs:List Expr}{scope:Scope}{cl:List (Str×Addr)}{pos:Pos}{Q:Flow→St→Prop}
 (hclos:closureFor scope env=Pure.pure cl)
 (h:It D A L env target iter (fun n itm g σ₁=>n≤sizeLine∧ ∃ (p:Nat→Bool) (Y:Nat→Value→AH→Prop),jK Y∧
  eG D A L (fun C=>compEnvC scope cl C env) target ifs elt n itm p Y (upd σ₁.H L (.ns σ₁.loc))∧
  ∀ a H' ys,Ext σ₁.H H'→σ₁.H a=Option.none→H' a=some (.list ys)→Paired (fun k v=>Y k v H') (iy n p) ys→Q .next ⟨ca σ₁.loc x (.ref a),H'⟩) σ)
 (hsw:swapsWith (.ListComp elt [⟨target,iter,ifs,0⟩] scope pos) (some (.Name x px)) spos.line env=Pure.pure true:=by rfl)
 (hL:env.locals=L:=by rfl) (hk:env.scope.kind= .function:=by rfl) (hl:env.kindOf x=some .local:=by rfl)
 (hcell:∀ y∈scope.names,y.2≠ .cell:=by decide) (hkind:scope.kind= .function:=by rfl) (hnames:∀ x∈scope.names,x.2= .local→scope.names.lookup x.1=some .local:=by decide)
 (hs:∀ x,foldedSetIterable iter env x=Pure.pure x:=by intro _;rfl):
 WS D A L env (.Assign [.Name x px] (.ListComp elt [⟨target,iter,ifs,0⟩] scope pos) spos) Q σ:=fun F s R=>by
 rw [exec_Assign_Name_used _ _ _ _ hsw]
 refine wpAny_bind (wpAny_standAt (wpAny_bind ?_))
 rw [arm_evalThenUse_ListComp]
 refine wpAny_bind ?_
 refine wpAny_comprehension_free (use:=some (PySem.assign (.Name x px) env)) rfl hs hclos hkind hnames (wpAny_mono (h F s R) (fun xv s₁ h₁=>wpAny_mono h₁ (fun v s₂=>aH fun n itm g it fp J Jo σ₁ e R₂ hh j T hg t_=>iN t_ fun hn p Y hY turn fin=>?_) fun _ _ e=>e) fun _ _ e=>e)
 subst e
 refine lx (RR:=fun acc C=>compPost (model PR D.w) A _ (some (PySem.assign (.Name x px) env)) _ acc C) hcell hkind R₂ hh j T hg hn hY turn fun C acc m H' s' x hext=>oZ fun its n' hacc hp h3=>?_
 have hLn:H' L=some (.ns σ₁.loc):=hext _ _ (ah ..)
 have hCL:C≠L:=fun q=>by have:=x.rel.HL;rw [q]at this;exact nomatch hLn.symm.trans this
 have neC:acc≠C:=fun q=>by have:=(x.hid acc (.head _)).2;rw [q,ah]at this;cases this
 have hna:H' acc=none:=by have:=(x.hid acc (.head _)).2;rwa [af neC]at this
 have neL:acc≠L:=fun q=>by rw [q,hLn]at hna;cases hna
 have R3:=Rel.pop0 (x.rel.push0.adopt (a:=acc) (ao:= .list (its.toList.map er)) ⟨_,hacc,_,_,rfl,rfl⟩ (x.hid acc (.head _)).1 h3) (L:=L) (m:=σ₁.loc) (by rw [af neL.symm,af hCL.symm];exact hLn)
 refine wpAny_mono (W.assignLocal (D:=D) (A:=A) (v:= .ref acc) (Q:=fun _ σ'=>σ'=⟨ca σ₁.loc _ (.ref acc),del (upd (upd H' C (.ns m)) acc (.list (its.toList.map er))) L⟩) rfl hL hk hl F _ R3) (fun _ s''=>ar fun σ'' R4 e4=>?_) fun _ _ x=>x.elim
 subst e4
 have hC4:del (upd (upd H' C (.ns m)) acc (.list (its.toList.map er))) L C=some (.ns m):=by rw [ay hCL,af neC.symm,ah]
 refine cZ (R4.obj hC4) fun oc hoc es ep hd hsk hm=>?_
 refine⟨nsFind es,⟨oc,es,ep,hoc,hd,hsk,fun _=>rfl⟩,fun h' hs'=>?_⟩
 have R5:=R4.dropC (tk:=s''.toks) hCL x.rel.FL hs'
 have ext₁:Ext σ₁.H (del H' L):=fun b o e=>by
  have ne:b≠L:=fun q=>by rw [q,R₂.HL]at e;cases e
  rw [ay ne];exact hext b o (by rw [af ne];exact e)
 have hn₃:del H' L acc=none:=by rw [ay neL];exact hna
 have eH:del (del (upd (upd H' C (.ns m)) acc (.list (its.toList.map er))) L) C=upd (del H' L) acc (.list (its.toList.map er)):=funext fun b=>by
  have hHC:H' C=none:=x.rel.HL
  by_cases q:b=C
  ·subst q;rw [b7,af neC.symm,ay hCL,hHC]
  ·rw [ay q]
   by_cases r:b=L
   ·subst r;rw [b7,af neL.symm,b7]
   ·rw [ay r]
    by_cases z:b=acc
    ·rw [z,ah,ah]
    ·rw [af z,af q,af z,ay r]
 rw [eH]at R5
 refine wpAny_pure (wpAny_pure ⟨_,R5,?_⟩)
 exact fin acc _ _ (ext₁.trans (aa hn₃)) (az (fun b o e=>ext₁ b o e) hn₃) (ah ..) (PySem.Paired.mono (fun a b y=>hY _ _ _ _ y (aa hn₃)) hp)
noncomputable def lB(D:Wd)(A:Around)(L:Addr)(cenv:Addr→Env)(target kx vx:Expr)(n:Nat)(itm:Nat→Value ⊕ AO)(key:Nat→Str)(Y:Nat→Value→AH→Prop)(H₁:AH):Prop:=
 ∀ C k m H',k<n→H' C=none→Ext H₁ H'→mW (itm k) (fun v σ=>W D A C (PySem.assign target (cenv C) v) (fun _ σ₂=>WE D A C (eval kx (cenv C)) (fun kv σ₃=>kv= .str (key k) 0∧
  WE D A C (eval vx (cenv C)) (fun y σ₄=>Ext H' σ₄.H∧Y k y (del σ₄.H L)) σ₃) σ₂) σ) ⟨m,H'⟩
theorem dn(kvs:List (Str×Value))(k:Str)(v:Value)(h:k∉kvs.map (·.1)):stored kvs k v=kvs++ [(k,v)]:=by
 unfold stored
 rw [if_neg]
 intro q
 refine ai (List.any_eq_true.mp q) fun p hp e=>?_
 exact h (List.mem_map.mpr ⟨p,hp,of_decide_eq_true e⟩)
theorem oC{kx vx target iter:Expr}{scope:Scope}{cl:List (Str×Addr)}{pos:Pos}{σ₁:St}{n:Nat}{itm:Nat→Value ⊕ AO}{g:List (Addr×AO)}{it:Addr}{J:Nat→Heap→Prop}{Jo:Value→Nat→Heap→Prop}
 {key:Nat→Str} {Y:Nat→Value→AH→Prop} {RR:Value→Addr→Result→Shared→Prop} (hcell:∀ y∈scope.names,y.2≠ .cell) (hkind:scope.kind= .function)
 (R:Rel D L F σ₁ s) (hh:Hid F (upd σ₁.H L (.ns σ₁.loc)) fp) (hJ:J 0 s.heap) (T:Turns D A target n itm g it fp J Jo) (hg:Has σ₁.H g) (hn:n≤sizeLine) (hY:jK Y) (hnd:((List.range n).map key).Nodup)
 (turn:lB D A L (fun C=>compEnvC scope cl C env) target kx vx n itm key Y (upd σ₁.H L (.ns σ₁.loc)))
 (hRR:∀ C acc m H' s',InComp D F C acc fp m H' s'→Ext (upd σ₁.H L (.ns σ₁.loc)) H'→(∃ kvs,s'.heap.DictOf (PySem.strKind PR D.w) acc kvs∧kvs.map (·.1)=(List.range n).map key∧Paired (fun k v=>Y k v (del H' L)) (List.range n) (kvs.map fun p=>er p.2))→3<acc→
  RR (.ref acc) C (.ok .next) s'):
 wpAny (model PR D.w) A newDict (fun acc s₃=>wpAny (model PR D.w) A (newFunctionEnv scope env.globals cl [] env.qual Option.none .none (some env)) (fun cenv s₄=>
  codeAny (model PR D.w) A (.compStart (.DictComp kx vx [⟨target,iter,[],0⟩] scope pos) 0 (.ref it) acc { cenv with scope:=relabel scope env}) (RR acc cenv.locals) s₄) (fun _ _=>False) s₃) (fun _ _=>False) s:=by
 refine wpAny_newObj_type (wpAny_newFunctionEnv hcell (by intro y hy;simp at hy) (fun h₁ hns₁ hsb₁=>?_) hkind)
 refine aE (R.compStart (tk:=s.toks+([]:List (Str×Value)).length) hh (T.live 0 _ hJ) (by rfl) hns₁ hsb₁) fun x₀ hacc₀ keep₀=>?_
 have base:=R.rel.base
 have h3:3<s.heap.objs.size:=R.rel.big
 have J₀:J 0 h₁:=T.frame 0 _ _ hJ fun b _ o e=>keep₀ b o e
 have hF:∀ b∈s.heap.objs.size::fp,F b=none:=fun b hb=>(x₀.hid b hb).1
 have hD₀:h₁.DictOf (PySem.strKind PR D.w) s.heap.objs.size []:=⟨_,#[],0,hacc₀,⟨rfl,rfl,rfl⟩,rfl,fun _ he=>by simp at he,Pairs.nil,List.nodup_nil⟩
 generalize hc:(s.heap.push { cls:= .type "dict",data:= .dict #[]}).objs.size=C at *
 have loop:codeAny (model PR D.w) A (.compLoop (.DictComp kx vx [⟨target,iter,[],0⟩] scope pos) 0 (.ref it) (.ref s.heap.objs.size) (compEnvC scope cl C env)) (RR (.ref s.heap.objs.size) C) { s with heap:=h₁,toks:=s.toks+([]:List (Str×Value)).length}:=by
  let Jv:Nat→Shared→Prop:=fun j s'=> ∃ k m H' kvs,j+k=n∧InComp D F C s.heap.objs.size fp m H' s'∧Ext (upd σ₁.H L (.ns σ₁.loc)) H'∧J k s'.heap∧s'.heap.DictOf (PySem.strKind PR D.w) s.heap.objs.size kvs∧
   kvs.map (·.1)=(List.range k).map key∧Paired (fun k v=>Y k v (del H' L)) (List.range k) (kvs.map fun p=>er p.2)
  refine vn Jv (fun j s'=>iH fun k m H' kvs hjk x hext hj hacc hkk hp=>?_) n ⟨0,_,_,[],by exact rp,x₀,Ext.refl _,J₀,hD₀,rfl,.nil⟩
  have hG:Has (upd H' C (.ns m)) g:=(hg.ext (aa R.HL)).ext (hext.trans (aa x.rel.HL))
  have hhid:Hid F (upd H' C (.ns m)) fp:=fun b hb=>x.hid b (.tail _ hb)
  have accfp:s.heap.objs.size∉fp:=fun q=>by obtain⟨o,e⟩:=T.live 0 _ hJ _ q;exact absurd (Heap.lt_size e) (Nat.lt_irrefl _)
  have lenp:kvs.length=k:=by have:=congrArg List.length hkk;simpa using this
  have hA:Hid F (upd H' C (.ns m)) [s.heap.objs.size]:=fun b hb=>x.hid b (by rw [List.mem_singleton.mp hb];exact .head _)
  have R1:=x.rel.push0.hideL hA
  have hF1:∀ b∈fp,dt F [s.heap.objs.size] s'.heap b=none:=fun b hb=>by
   unfold dt;rw [if_neg fun q=>accfp (by rw [← List.mem_singleton.mp q];exact hb)];exact(x.hid b (.tail _ hb)).1
  have hh1:Hid (dt F [s.heap.objs.size] s'.heap) (upd H' C (.ns m)) fp:=fun b hb=>⟨hF1 b hb,(hhid b hb).2⟩
  have live1:∀ b∈ [s.heap.objs.size],∃ o,s'.heap.get? b=some o:=fun b hb=>by rw [List.mem_singleton.mp hb];refine fX hacc fun o _ _ ho _=>?_;clear hacc;exact⟨o,ho⟩
  rcases Nat.lt_or_ge k n with hk | hk
  ·refine wpAny_mono (T.next k _ _ s' (fun r s₁=> ∃ v,r=some v∧ ∃ H₂,Rel0 D (dt F [s.heap.objs.size] s'.heap) H₂ s₁∧Hid (dt F [s.heap.objs.size] s'.heap) H₂ fp∧Jo v (k+1) s₁.heap∧gw (itm k) v (upd H' C (.ns m)) H₂) R1 hG hh1 hj hk fun v s₁ H₂ R' hh' j' x=>⟨v,rfl,H₂,R',hh',j',x⟩) (fun r s₁=>cX fun v e H₂ R₂ hh₂ j₂ ix=>?_) fun _ _ x=>x.elim
   subst e
   refine wpAny_mono (T.go v (k+1) _ H₂ s₁ _ R₂ hh₂ j₂ fun s₂ R₃ j₃=>?_) (fun _ s₂ z=>z) fun _ _ x=>x.elim
   refine aE (R₃.unhideL base (fun b hb=>(hA b hb).1) live1) fun R₄ hA₄ kA=>?_
   have hacc₄:s₂.heap.DictOf (PySem.strKind PR D.w) s.heap.objs.size kvs:=hacc.at fun o e=>kA _ (.head _) _ e
   refine aR (Rel.drawn x.rel.HL R₄ ix (turn C k m H' hk x.rel.HL hext)) fun σ' R₅ eH q=>?_
   have hh₅:Hid F (upd σ'.H C (.ns σ'.loc)) (s.heap.objs.size::fp):=fun b hb=>by
    rw [eH]
    rcases List.mem_cons.mp hb with z | z
    ·rw [z];exact hA₄ _ (.head _)
    ·exact⟨hF b hb,(hh₂ b z).2⟩
   have live₅:∀ b∈s.heap.objs.size::fp,∃ o,s₂.heap.get? b=some o:=fun b hb=>by
    rcases List.mem_cons.mp hb with z | z
    ·rw [z];refine fX hacc₄ fun o _ _ ho _=>?_;clear hacc₄;exact⟨o,ho⟩
    ·exact T.live _ _ j₃ b z
   refine wpAny_mono (q _ _ (R₅.hideL hh₅)) (fun _ s₃=>ar fun σ₃ R₆ h₆=>wpAny_mono (h₆ _ _ R₆) (fun kv s₄=>aK fun σ₄ R₇ hkv h₇=>wpAny_mono (h₇ _ _ R₇) (fun y s₅=>aK fun σ₅ R₈ e₈ y₈=>?_) fun _ _ x=>x.elim) fun _ _ x=>x.elim) fun _ _ x=>x.elim
   obtain⟨t,rfl⟩:=au hkv
   obtain⟨x₈,k₈⟩:=InComp.back R₈ base hF live₅
   have hacc₈:s₅.heap.DictOf (PySem.strKind PR D.w) s.heap.objs.size kvs:=hacc₄.at fun o e=>k₈ _ (.head _) _ e
   have hnew:key k∉kvs.map (·.1):=by
    rw [hkk]
    have h1:((List.range (k+1)).map key).Nodup:=hnd.sublist (by
     have:List.range n=List.range (k+1)++(List.range (n-(k+1))).map (fun i=>k+1+i):=by rw [← List.range_add];congr 1;exact wW hk
     rw [this,List.map_append];exact List.sublist_append_left _ _)
    rw [List.range_succ,List.map_append,List.nodup_append]at h1
    exact fun q=>h1.2.2 _ q _ (by simp) rfl
   refine wpAny_dictSet_pairs (strKind_is _ _ (key k) t) hacc₈ (fun h' hd' hs'=>?_) (by exact wV lenp hk hn)
   rw [dn _ _ _ hnew]at hd'
   refine⟨j-1,by exact qd hjk hk,k+1,σ₅.loc,σ₅.H,_,by exact qc hjk hk,⟨?_,x₈.hid⟩,hext.trans e₈,T.frame _ _ _ j₃ fun b hb o e=>(hs'.2 b fun z=>accfp (z▸hb)).trans (k₈ b (.tail _ hb) o e),hd',?_,?_⟩
   ·have hA8:Hid F (upd σ₅.H C (.ns σ₅.loc)) [s.heap.objs.size]:=fun b hb=>x₈.hid b (by rw [List.mem_singleton.mp hb];exact .head _)
    have:=Rel.pop0 ((x₈.rel.push0).hid (t:=s₅.toks+1) hA8 fun b o hn e=>(hs'.2 b fun z=>hn (List.mem_singleton.mpr z)).trans e) (L:=C) (ah ..)
    rwa [bf x₈.rel.HL]at this
   ·rw [List.map_append,hkk,List.range_succ,List.map_append];rfl
   ·rw [List.map_append,List.range_succ]
    exact(PySem.Paired.mono (fun a b y=>hY _ _ _ _ y (iC e₈ L)) hp).snoc y₈
  ·obtain rfl:k=n:=by exact ro hjk hk
   refine wpAny_mono (T.stop _ _ s' (fun r s₁=>r=Option.none∧Rel0 D (dt F [s.heap.objs.size] s'.heap) (upd H' C (.ns m)) s₁) R1 hG hh1 hj fun s₁ R' _=>⟨rfl,R'⟩) (fun r s₁=>gD fun e R₂=>?_) fun _ _ x=>x.elim
   subst e
   refine aE (R₂.unhideL base (fun b hb=>(hA b hb).1) live1) fun R₄ hA₄ kA=>?_
   refine hRR C _ m H' s₁ ⟨by have:=Rel.pop0 R₄ (L:=C) (ah ..);rwa [bf x.rel.HL]at this,x.hid⟩ hext ⟨kvs,hacc.at fun o e=>kA _ (.head _) _ e,hkk,hp⟩ h3
 exact codeAny_compStart_dict loop (wpAny_mono (T.self 0 _ _ _ (fun v s'=>v= .ref it∧s'= { s with heap:=h₁,toks:=s.toks+([]:List (Str×Value)).length}) x₀.rel.rel J₀ ⟨rfl,rfl⟩) (fun v s'=>gD fun e1 e2=>by subst e1 e2;exact loop) fun _ _ x=>x.elim)
theorem E.dictComp{kx vx target iter:Expr}{scope:Scope}{cl:List (Str×Addr)}{pos:Pos}{Q:Value→St→Prop}
 (hclos:closureFor scope env=Pure.pure cl)
 (h:It D A L env target iter (fun n itm g σ₁=>n≤sizeLine∧ ∃ (key:Nat→Str) (Y:Nat→Value→AH→Prop),jK Y∧((List.range n).map key).Nodup∧
  lB D A L (fun C=>compEnvC scope cl C env) target kx vx n itm key Y (upd σ₁.H L (.ns σ₁.loc))∧
  ∀ a H' es ep,Ext σ₁.H H'→σ₁.H a=Option.none→H' a=some (.dict es ep)→es.map (·.1)=(List.range n).map key→Paired (fun k v=>Y k v H') (List.range n) (es.map (·.2))→Q (.ref a) ⟨σ₁.loc,H'⟩) σ)
 (hcell:∀ y∈scope.names,y.2≠ .cell:=by decide) (hkind:scope.kind= .function:=by rfl) (hnames:∀ x∈scope.names,x.2= .local→scope.names.lookup x.1=some .local:=by decide)
 (hs:∀ x,foldedSetIterable iter env x=Pure.pure x:=by intro _;rfl):
 WE D A L (eval (.DictComp kx vx [⟨target,iter,[],0⟩] scope pos) env) Q σ:=fun F s R=>by
 rw [arm_eval_DictComp]
 refine wpAny_comprehension_free (use:=Option.none) rfl hs hclos hkind hnames (wpAny_mono (h F s R) (fun xv s₁ h₁=>wpAny_mono h₁ (fun v s₂=>aH fun n itm g it fp J Jo σ₁ e R₂ hh j T hg t_=>df t_ fun hn key Y hY hnd turn fin=>?_) fun _ _ e=>e) fun _ _ e=>e)
 subst e
 refine oC (RR:=fun acc C=>compPost (model PR D.w) A _ Option.none _ acc C) hcell hkind R₂ hh j T hg hn hY hnd turn fun C acc m H' s' x hext=>aK fun kvs hacc hkk hp h3=>?_
 refine ai x.rel.nsOf fun mc hnc hm=>?_
 refine⟨mc,hnc,fun h' hs'=>?_⟩
 have neC:acc≠C:=fun q=>by have:=(x.hid acc (.head _)).2;rw [q,ah]at this;cases this
 have hL:H' L=some (.ns σ₁.loc):=hext _ _ (ah ..)
 obtain⟨ep,hat⟩:=At.dict_of (hacc.at (h':=h') fun o e=>(hs'.2 acc neC).trans e)
 refine aE (x.fin (L:=L) (tk:=s'.toks) hs' hL hat h3) fun R₃ hn₃ neL=>?_
 have ext₁:Ext σ₁.H (del H' L):=fun b o e=>by
  have ne:b≠L:=fun q=>by rw [q,R₂.HL]at e;cases e
  rw [ay ne];exact hext b o (by rw [af ne];exact e)
 refine⟨_,R₃,fin acc _ _ ep (ext₁.trans (aa hn₃)) (az (fun b o e=>ext₁ b o e) hn₃) (ah ..) (by rw [List.map_map];exact hkk) ?_⟩
 rw [List.map_map]
 exact PySem.Paired.mono (fun a b y=>hY _ _ _ _ y (aa hn₃)) hp
end
end Mine
end
section
open PySem PySem.W PyProof.Rows PySem.Calls PySem.SeqAt
namespace Mine
section
variable {D:Wd}{A:Around}{L:Addr}{α β:Type}{σ:St}{env:Env}{Φ:Frz}{s:Shared}
noncomputable def Ct(D:Wd)(A:Around)(L:Addr)(T:String)(vs:List Value)(Q:Value→St→Prop)(σ:St):Prop:=
 ∀ vs',vs'.map er=vs→WE D A L (PySem.call (.type T) vs') Q σ
theorem bB{f:Value}{R:Value→Shared→Prop}{w:World}{trees:List (Bool×Sem Value)}(hplain:trees.any (·.1)=false)
 (h:wpAny (model PR w) A (spliced trees) (fun vs s₁=>wpAny (model PR w) A (PySem.call f vs) R (fun _ _=>False) s₁) (fun _ _=>False) s):
 wpAny (model PR w) A (evalArgs f true trees []) (fun a s₁=>wpAny (model PR w) A (PySem.call f ([]++a.pos) a.kw) R (fun _ _=>False) s₁) (fun _ _=>False) s:=by
 cases trees with
 | nil=>exact PyProof.Rows.evalArgs_nil3 (wpAny_bind (m:=spliced []) (f:=fun vs=>PySem.call f vs) h)
 | cons x r=>
  obtain⟨st,t⟩:=x
  have hst:st=false:=by
   simp only [List.any_cons,Bool.or_eq_false_iff]at hplain
   exact hplain.1
  subst hst
  exact Calls.evalArgs_plain h
noncomputable abbrev kCb(D:Wd)(A:Around)(L:Addr)(id:String)(Q:Value→St→Prop):List Value→St→Prop:=fun vs σ=>Cb D A L id vs Q σ
noncomputable abbrev kCt(D:Wd)(A:Around)(L:Addr)(T:String)(Q:Value→St→Prop):List Value→St→Prop:=fun vs σ=>Ct D A L T vs Q σ
theorem E.callB{x:Str}{p pos:Pos}{args:List Expr}{id:String}{Q:Value→St→Prop}(hx:∀ P,nsIn (K0 P) mainGlobals x=some Option.none)(hv:bootBuiltins x=some (.builtin id))
 (h:WI D A L env pos args (kCb D A L id Q) σ)
 (hplain:(backTo pos (starEach args env)).any (·.1)=false:=by rfl) (hg:env.globals=mainGlobals:=by rfl) (hb:env.builtins=builtinsNs:=by rfl) (hk:env.scope.kind= .function:=by rfl) (hl:env.kindOf x=some .globalImplicit:=by rfl) (hdb:(x==("__debug__" :Str))=false:=by decide) (hn:x≠ "__name__" :=by decide):
 WE D A L (eval (.Call (.Name x p) args [] pos) env) Q σ:=fun Φ s R=>by
 rw [show eval (.Call (.Name x p) args [] pos) env=(do callWith pos (← eval (.Name x p) env) [] (backTo pos (starEach args env)) [])from rfl]
 refine wpAny_bind (wpAny_mono (E.builtin (Q:=fun v σ'=>v= .builtin id∧σ'=σ) hx hv ⟨rfl,rfl⟩ hg hb hk hl hdb hn Φ s R) (fun v s₁=>aK fun σ₁ R₁ ev eσ=>?_) fun _ _ x=>x)
 rw [ma ev];subst eσ
 exact Calls.callWith_builtin hplain (bB hplain (wpAny_mono (h Φ s₁ R₁) (fun vs s₂=>ar fun σ₂ R₂ h₂=>h₂ vs rfl Φ s₂ R₂) fun _ _ x=>x))
theorem E.callT{x:Str}{p pos:Pos}{args:List Expr}{T:String}{Q:Value→St→Prop}(hx:∀ P,nsIn (K0 P) mainGlobals x=some Option.none)(hv:bootBuiltins x=some (.type T))
 (h:WI D A L env pos args (kCt D A L T Q) σ)
 (hplain:(backTo pos (starEach args env)).any (·.1)=false:=by rfl) (hg:env.globals=mainGlobals:=by rfl) (hb:env.builtins=builtinsNs:=by rfl) (hk:env.scope.kind= .function:=by rfl) (hl:env.kindOf x=some .globalImplicit:=by rfl) (hdb:(x==("__debug__" :Str))=false:=by decide) (hn:x≠ "__name__" :=by decide):
 WE D A L (eval (.Call (.Name x p) args [] pos) env) Q σ:=fun Φ s R=>by
 rw [show eval (.Call (.Name x p) args [] pos) env=(do callWith pos (← eval (.Name x p) env) [] (backTo pos (starEach args env)) [])from rfl]
 refine wpAny_bind (wpAny_mono (E.builtin (Q:=fun v σ'=>v= .type T∧σ'=σ) hx hv ⟨rfl,rfl⟩ hg hb hk hl hdb hn Φ s R) (fun v s₁=>aK fun σ₁ R₁ ev eσ=>?_) fun _ _ x=>x)
 rw [cE ev];subst eσ
 exact PyProof.Rows.callWith_type hplain (bB hplain (wpAny_mono (h Φ s₁ R₁) (fun vs s₂=>ar fun σ₂ R₂ h₂=>h₂ vs rfl Φ s₂ R₂) fun _ _ x=>x))
variable {Q:Value→St→Prop}
theorem F.typeStr{x:Str}(h:Q (.type "str") σ):Ct D A L "type" [.str x 0] Q σ:=fun vs' e Φ s R=>by
 refine d7 e fun v1 e1=>?_;refine aU e1 fun t=>?_
 exact call_type_of (typeIs_str s x t) (by decide) (bJ R h)
theorem F.isBytesStr{x:Str}(h:Q (.bool false) σ):Cb D A L "isinstance" [.str x 0,.type "bytes"] Q σ:=fun vs' e Φ s R=>by
 refine eA e fun v1 e1 v2 e2=>?_;refine aU e1 fun t=>?_;refine iD e2 ?_
 refine call_isinstance (isinstance_false_str (by decide) (by kernel_rfl) (by rw [isSubtype_type];kernel_rfl)) ?_
 exact done R h
theorem F.isBytesBytes{x:Array UInt8}(h:Q (.bool true) σ):Cb D A L "isinstance" [.bytes x 0,.type "bytes"] Q σ:=fun vs' e Φ s R=>by
 refine eA e fun v1 e1 v2 e2=>?_;refine j7 e1 fun t=>?_;refine iD e2 ?_
 exact call_isinstance (isinstance_true (Tx:= "bytes") (by kernel_rfl) (by rw [isSubtype_type];kernel_rfl)) ⟨rfl,bJ R h⟩
end
theorem fP{p:Program}{w:World}{A:Around}{s:Shared}{Q:Fin→Shared→Prop}{E:Value→Shared→Prop}{k:Value}{dep:Int}{tk:Tok}(hk:k= .int dep tk)
 (h:Q (.done (.ret (.bool true))) s):wpAny (model p w) A (Builtin.«issubclass.nested» ⟨[.type "str",.type "str",k],[]⟩) Q E s:=by
 subst hk
 have hm:typeOf (.type "str")=Pure.pure (.type "type"):=by kernel_rfl
 have hs:isSubtype (.type "str") (.type "str")=Pure.pure true:=by rw [isSubtype_type];kernel_rfl
 repeat (any_goals (first | assumption | rw [hs] | wp_step))
theorem ow:builtinKind "issubclass.nested" =Option.none:=by decide+kernel
theorem mH:plainId "issubclass.nested" =true:=by decide+kernel
theorem oP(a b c:Value):argsOk "issubclass.nested" ⟨[a,b,c],[]⟩:=by unfold argsOk;kernel_rfl
theorem lV{p:Program}{w:World}{A:Around}{s:Shared}{R:Result→Shared→Prop}(h:R (.ok (.ret (.bool true))) s):
 codeAny (model p w) A (.call (.builtin "issubclass.nested") ⟨[.type "str",.type "str",.int 1 0],[]⟩) R s:=by
 refine codeAny_call_builtin mH PySem.F.entry_issubclass_nested ?_
 simp only [checkBuiltinCall,ow]
 have ha:=oP (.type "str") (.type "str") (.int 1 0)
 cases hsig:Manifest.signature? "issubclass.nested" with
 | none=>exact wpAny_pure (fP rfl h)
 | some sig=>
  simp only [argsOk,hsig]at ha
  have h2:Bind.checkArgs "issubclass.nested" sig ⟨[.type "str",.type "str",.int 1 0],[]⟩=Pure.pure ():=ha
  show wpAny _ _ (Bind.checkArgs "issubclass.nested" sig ⟨[.type "str",.type "str",.int 1 0],[]⟩) _ _ s
  rw [h2];exact wpAny_pure (fP rfl h)
theorem ke{p:Program}{w:World}{A:Around}{a:Addr}{n:Nat}{s:Shared}{Q:Fin→Shared→Prop}{E:Value→Shared→Prop}(ho:s.heap.get? a=some { cls:= .type "tuple",dict:=Option.none,data:= .seq #[.type "str",.type "bytes"] n,slots:= #[]})
 (h:Q (.done (.ret (.bool true))) s):wpAny (model p w) A (Builtin.«issubclass.nested» ⟨[.type "str",.ref a,rawInt 0],[]⟩) Q E s:=by
 obtain⟨hp,g,d,t,os⟩:=s
 unfold Builtin.«issubclass.nested» rawInt
 dsimp only at ho
 repeat (first | with_reducible refine wpAny_call ?_ | lk)
 refine lV ?_
 repeat lk
 exact h
theorem F.issubStr{D:Wd}{A:Around}{L:Addr}{σ:St}{Q:Value→St→Prop}{a:Addr}(ha:σ.H a=some (.tuple [.type "str",.type "bytes"]))(h:Q (.bool true) σ):Cb D A L "issubclass" [.type "str",.ref a] Q σ:=fun vs' e Φ s R=>by
 refine eA e fun v1 e1 v2 e2=>?_;refine iD e1 ?_;refine aV e2 ?_
 refine bz (R.obj ha) fun o ho its n h4_ ei=>?_;obtain rfl:=h4_
 have hi:its= #[.type "str",.type "bytes"]:=by
  obtain⟨l⟩:=its
  match l,ei with
  | [x,y],ei=>
   simp only [List.map_cons,List.map_nil,List.cons.injEq,and_true]at ei
   rw [cE ei.1,cE ei.2]
  | [],ei=>simp at ei
  | [_],ei=>simp at ei
  | _::_::_::_,ei=>simp at ei
 subst hi
 exact call_issubclass (S:=fun _ R s=>s.heap.get? a=some { cls:= .type "tuple",dict:=Option.none,data:= .seq #[.type "str",.type "bytes"] n,slots:= #[]} ∧R (.ok (.ret (.bool true))) s)
  (fun p w A R s hs=>issubclass_outer (ke hs.1 hs.2)) ⟨ho,bJ R h⟩
end Mine
end
section
open PySem PySem.W PyProof.Rows PySem.Calls PySem.SeqAt
namespace Mine
section
variable {D:Wd}{A:Around}{L:Addr}{α β:Type}{σ:St}{env:Env}{F:Frz}{s:Shared}
theorem Cd.fnD{f:Addr}{oc:Value}{od:Option Addr}{fd:FuncData}{osl:Array (Option Value)}{body:List Stmt}{args:Args}{binds:List (Str×Value)}{Q:Value→AH→Prop}{H:AH}{n:Nat}
 (hf:∀ P,(K0 P).lookup f=some ⟨oc,od,.func fd,osl⟩) (hbody:fd.body= .stmts body) (hcd:∀ P,codeIn (K0 P) fd.code fd.qualname=true)
 (hbind:∀ s,(K0 D.w.params).In s.heap→BindsTo s fd args binds) (hA:Ok A (n+1)) (hcell:∀ x∈fd.scope.names,x.2≠ .cell) (hloc:∀ x∈binds,fd.scope.names.lookup x.1=some .local)
 (h:∀ L',(∀ a,L'≤a→H a=none)→Ok (A.deeper (callEnv fd L' f)) n→W D (A.deeper (callEnv fd L' f)) L' (execs body (callEnv fd L' f)) (fun fl σ'=>Q (er (ru fl)) σ'.H) ⟨fun x=>(binds.reverse.lookup x).map er,H⟩)
 (hco:fd.scope.isCoroutine=false:=by rfl) (hgen:fd.scope.isGenerator=false:=by rfl) (hk:fd.scope.kind= .function:=by rfl):Cd D A (.call (.ref f) args) Q H:=fun F s R=>by
 refine codeAny_call_def (fd:=fd) (body:=body) (binds:=binds) (by have:=hA.depth;show A.depth<1000;exact zq7 this) (R.K _ _ (hf _)) rfl R.sta.nolimit (codeRec_of R.K (hcd _)) hbody (hbind s R.K) hcell hloc (fun h₁ hns hk₁=>?_) hco hgen hk
 have R₁:Rel D s.heap.objs.size F ⟨fun x=>(binds.reverse.lookup x).map er,H⟩ { s with heap:=h₁,toks:=s.toks+binds.length}:=
  ⟨R.ext hk₁,R.geF _ (Nat.le_refl _),R.ge _ (Nat.le_refl _),At.of_ns hns fun _=>rfl,R.big⟩
 refine wpAny_mono (h _ R.ge (hA.deeper _) F _ R₁) (fun fl s'=>ar fun σ' R' q=>⟨_,_,?_,R'.rel,q⟩) fun _ _ x=>x.elim
 cases fl<;> rfl
theorem Cd.fnStar{f:Addr}{oc:Value}{od:Option Addr}{fd:FuncData}{osl:Array (Option Value)}{body:List Stmt}{args:Args}{pre:List (Str×Value)}{nm:Str}{rest:List Value}{Q:Value→AH→Prop}{H:AH}{n:Nat}
 (hf:∀ P,(K0 P).lookup f=some ⟨oc,od,.func fd,osl⟩) (hbody:fd.body= .stmts body) (hcd:∀ P,codeIn (K0 P) fd.code fd.qualname=true)
 (hbind:bindArgs fd args=(newTuple rest>>=fun t=>Pure.pure (pre++ [(nm,t)]))) (hsz:rest.length≤sizeLine) (hA:Ok A (n+1)) (hcell:∀ x∈fd.scope.names,x.2≠ .cell) (hloc:∀ t,∀ x∈pre++ [(nm,t)],fd.scope.names.lookup x.1=some .local)
 (h:∀ t L',H t=none→(∀ a,L'≤a→(upd H t (.tuple (rest.map er))) a=none)→Ok (A.deeper (callEnv fd L' f)) n→
  W D (A.deeper (callEnv fd L' f)) L' (execs body (callEnv fd L' f)) (fun fl σ'=>Q (er (ru fl)) σ'.H) ⟨fun x=>((pre++ [(nm,Value.ref t)]).reverse.lookup x).map er,upd H t (.tuple (rest.map er))⟩)
 (hco:fd.scope.isCoroutine=false:=by rfl) (hgen:fd.scope.isGenerator=false:=by rfl) (hk:fd.scope.kind= .function:=by rfl):Cd D A (.call (.ref f) args) Q H:=fun F s R=>by
 refine codeAny_call_function (by have:=hA.depth;show A.depth<1000;exact zq7 this) (R.K _ _ (hf _)) rfl hco hgen hbody (codeRec_of R.K (hcd _)) ?_
 rw [hbind]
 have hx:At D.w (s.heap.push { cls:= .type "tuple",data:= .seq rest.toArray}) s.heap.objs.size (.tuple (rest.map er)):=⟨_,Heap.get?_push_size _ rfl,_,_,rfl,by simp⟩
 have R₀:=R.alloc (t:=s.toks) (Nat.le_refl _) (fun b o e=>Heap.get?_push_of_some _ e) hx
 refine wpAny_bind (wpAny_newObj_type (wpAny_pure (wpAny_newFunctionEnv hcell (hloc _) (fun h₁ hns hsb=>⟨R₀.sta.nolimit.fresh _ hsb,codeAny_func ?_⟩) hk)) (by show rest.toArray.size≤sizeLine;rw [List.size_toArray];exact hsz))
 have hk₁:∀ b o,(s.heap.push { cls:= .type "tuple",data:= .seq rest.toArray}).get? b=some o→h₁.get? b=some o:=fun b o e=>hsb.extBut b o (Nat.ne_of_lt (Heap.lt_size e)) (Heap.get?_push_of_some _ e)
 have R₁:Rel D (s.heap.push { cls:= .type "tuple",data:= .seq rest.toArray}).objs.size F ⟨fun x=>((pre++ [(nm,Value.ref s.heap.objs.size)]).reverse.lookup x).map er,upd H s.heap.objs.size (.tuple (rest.map er))⟩ { s with heap:=h₁,toks:=s.toks+(pre++ [(nm,Value.ref s.heap.objs.size)]).length}:=
  ⟨R₀.ext hk₁,R₀.geF _ (Nat.le_refl _),R₀.ge _ (Nat.le_refl _),At.of_ns hns fun _=>rfl,R₀.big⟩
 refine wpAny_mono (h _ _ (R.fresh (dy _)).2 R₀.ge (hA.deeper _) F _ R₁) (fun fl s'=>ar fun σ' R' q=>⟨_,_,?_,R'.rel,q⟩) fun _ _ x=>x.elim
 cases fl<;> rfl
end
end Mine
end
section
open PySem PySem.W PyProof.Rows PySem.Calls PySem.SeqAt
namespace Mine
noncomputable def b4(x:Str)(a b:Option Nat):Str:=⟨((x.cps.toList.take (b.getD x.length)).drop (a.getD 0)).toArray⟩
theorem fm(x:Str)(a b:Option Nat):(b4 x a b).length≤x.length:=by
 show(List.toArray _).size≤x.cps.size
 simp
 exact wB
theorem dB(x y:Int):sliceRange x y 1=(List.range (y-x).toNat).map fun(k:Nat)=>(x+(k:Int)).toNat:=by
 unfold sliceRange
 simp only [show ((1:Int)>0)=True from by simp,if_true,Int.one_mul]
 by_cases h:x<y
 ·rw [if_pos h]
  have:(y-x+1-1)/1=y-x:=by rw [Int.ediv_one];exact wA
  rw [this]
 ·rw [if_neg h]
  have:(y-x).toNat=0:=by exact w9 h
  rw [this];rfl
theorem lO{α:Type}(l:List α)(lo hi:Nat)(h2:hi≤l.length):((List.range ((hi:Int)-(lo:Int)).toNat).map fun(k:Nat)=>((lo:Int)+(k:Int)).toNat).filterMap (l[·]?)=(l.take hi).drop lo:=by
 have e:((hi:Int)-(lo:Int)).toNat=hi-lo:=by exact w8
 have e2:(fun k:Nat=>((lo:Int)+(k:Int)).toNat)=fun k=>lo+k:=by funext k;exact w7
 rw [e,e2]
 rcases Nat.lt_or_ge hi lo with h | h
 ·rw [show hi-lo=0 by exact w6 h];simp;exact w5 h
 ·rw [PySem.StrLaws.picks l (hi-lo) lo (by exact w0 h2 h),List.drop_take]
theorem oF(i n:Nat):max (0:Int) (min (if (i:Int)<0 then(i:Int)+(n:Int)else(i:Int)) (n:Int))=((min i n:Nat):Int):=by
 rw [if_neg (by exact zq4)]
 rcases Nat.le_total i n with h | h
 ·rw [Nat.min_eq_left h];exact wz h
 ·rw [Nat.min_eq_right h];exact wy h
open Builtin Builtin.Str in
theorem gX(a b:Option Nat)(n:Nat):strSliceIndices (a.map fun(n:Nat)=>(n:Int)) (b.map fun(n:Nat)=>(n:Int)) 1 n=sliceRange ((min (a.getD 0) n:Nat):Int) ((min (b.getD n) n:Nat):Int) 1:=by
 unfold strSliceIndices
 simp only [show ((1:Int)>0)=True from by simp,if_true]
 cases a with
 | none=>
  cases b with
  | none=>simp
  | some b=>show sliceRange 0 (max (0:Int) (min (if (b:Int)<0 then(b:Int)+(n:Int)else(b:Int)) (n:Int))) 1=_
            rw [oF];simp
 | some a=>
  cases b with
  | none=>show sliceRange (max (0:Int) (min (if (a:Int)<0 then(a:Int)+(n:Int)else(a:Int)) (n:Int))) n 1=_
          rw [oF];simp
  | some b=>show sliceRange (max (0:Int) (min (if (a:Int)<0 then(a:Int)+(n:Int)else(a:Int)) (n:Int))) (max (0:Int) (min (if (b:Int)<0 then(b:Int)+(n:Int)else(b:Int)) (n:Int))) 1=_
            rw [oF,oF];simp
open Builtin Builtin.Str in
theorem oG(x:Str)(a b:Option Nat):(strSliceIndices (a.map fun(n:Nat)=>(n:Int)) (b.map fun(n:Nat)=>(n:Int)) 1 x.length).filterMap (x.cps[·]?)=(b4 x a b).cps.toList:=by
 have hl:x.cps.toList.length=x.length:=by simp [Str.length]
 rw [gX,dB]
 have:=lO x.cps.toList (min (a.getD 0) x.length) (min (b.getD x.length) x.length) (by rw [hl];exact vL)
 rw [show (fun i=>x.cps[i]?)=fun i=>x.cps.toList[i]? from funext fun i=>by simp,this]
 show _=(x.cps.toList.take (b.getD x.length)).drop (a.getD 0)
 rw [← hl,List.take_eq_take_iff.mpr (show min (min (b.getD x.cps.toList.length) x.cps.toList.length) x.cps.toList.length=min (b.getD x.cps.toList.length) x.cps.toList.length by exact wx)]
 rcases Nat.le_total (a.getD 0) x.cps.toList.length with h | h
 ·rw [Nat.min_eq_left h]
 ·have hl':x.length=x.cps.size:=rfl
  rw [Nat.min_eq_right h,List.drop_eq_nil_of_le (by simp;exact vL),List.drop_eq_nil_of_le (by simp at h ⊢;exact wv h)]
open Builtin Builtin.Str in
theorem dC{x:Str}{t:Tok}{a b:Option Nat}{l u:Option (Int×Tok)}(ea:l.map (·.1)=a.map fun(n:Nat)=>(n:Int))(eb:u.map (·.1)=b.map fun(n:Nat)=>(n:Int))(hz:x.length≤sizeLine){Q:Value→Shared→Prop}{s:Shared}
 (h:∀ tk tk',Q (.str (b4 x a b) tk) { s with toks:=tk'}):(sliceMade x t l u Option.none).post Q s:=by
 have hp:slicePicked x l u Option.none=strSliceIndices (a.map fun(n:Nat)=>(n:Int)) (b.map fun(n:Nat)=>(n:Int)) 1 x.length:=by unfold slicePicked;rw [ea,eb];rfl
 have hc:=oG x a b
 unfold sliceMade
 rw [hp]
 split
 ·rename_i q
  simp only [Option.map_none,Option.getD_none,beq_self_eq_true,Bool.true_and,beq_iff_eq]at q
  have full:b4 x a b=x:=by
   have e1:(b4 x a b).cps.toList.length=x.cps.toList.length:=by
    rw [← hc]
    have:∀ i∈strSliceIndices (a.map fun(n:Nat)=>(n:Int)) (b.map fun(n:Nat)=>(n:Int)) 1 x.length,i<x.length:=by
     intro i hi
     rw [gX,dB,List.mem_map]at hi
     refine ai hi fun k hk h2_=>?_;clear hi;obtain rfl:=h2_
     rw [List.mem_range]at hk
     exact wu hk
    rw [List.length_filterMap_eq_countP,List.countP_eq_length.mpr (fun i hi=>by have:=this i hi;have:i<x.cps.size:=this;simp [this]),q];simp [Str.length]
   have e2:(b4 x a b).cps.toList=x.cps.toList:=by
    show(List.toArray _).toList=_
    have hs:List.Sublist ((x.cps.toList.take (b.getD x.length)).drop (a.getD 0)) x.cps.toList:=(List.drop_sublist _ _).trans (List.take_sublist _ _)
    exact hs.eq_of_length (by simpa [b4] using e1)
   obtain⟨c⟩:=x
   have:(b4 ⟨c⟩ a b).cps=c:=Array.toList_inj.mp e2
   cases hh:b4 ⟨c⟩ a b with | mk d=>rw [hh]at this;rw [← this]
  have:=h t s.toks
  rw [full]at this
  exact this
 ·rw [hc]
  have e:(⟨(b4 x a b).cps.toList.toArray⟩:Str)=b4 x a b:=by simp
  rw [e]
  exact⟨Nat.le_trans (fm x a b) hz,h _ _⟩
section
variable {D:Wd}{A:Around}{L:Addr}{α β:Type}{σ:St}{env:Env}{Φ:Frz}{s:Shared}{Q:Value→St→Prop}{x y:Str}
theorem E.sliceStr{value:Expr}{lo up:Option Expr}{p pos:Pos}
 (h:WE D A L (eval value env) (fun o σ₁=>Bd D A L env lo (fun a σ₂=>Bd D A L env up (fun b σ₃=> ∃ x,o= .str x 0∧x.length≤sizeLine∧Q (.str (b4 x a b) 0) σ₃) σ₂) σ₁) σ)
 (ht:∀ o r,letTemporaryGo value o r=Pure.pure ():=by intro _ _;rfl):WE D A L (eval (.Subscript value (.Slice lo up Option.none p) pos) env) Q σ:=fun Φ s R=>by
 refine wpAny_Subscript_str_slice (wpAny_mono (h Φ s R) (fun o s₁=>ar fun σ₁ R₁ h₁=>wpAny_mono (h₁.run R₁) (fun vl s₂=>dz fun a σ₂ R₂ h₂ pl l el ela=>wpAny_mono (h₂.run R₂) (fun vu s₃=>dz fun b σ₃ R₃ h₃ pu u eu eub=>?_) fun _ _ x=>x) fun _ _ x=>x) fun _ _ x=>x) ht
 refine aR h₃ fun x eo hz hq=>?_;clear h₃
 obtain⟨t,rfl⟩:=au eo
 refine⟨x,t,l,u,rfl,el,eu,?_⟩
 have R₄:Rel D L _ σ₃ { s₃ with heap:=s₃.heap.push { cls:= .type "slice",data:= .fields #[vl,vu,.none]}}:=R₃.ext (t:=s₃.toks) fun _ _ e=>Heap.get?_push_of_some _ e
 exact dC ela eub hz fun tk tk'=>done R₄ hq
theorem T.trStr{Q:Bool→St→Prop}(hz:x.length≤sizeLine)(h:Q (decide (x.length≠0)) σ):W1 D A L truthy (.str x 0) Q σ:=fun va ea Φ s R=>by
 obtain⟨t,rfl⟩:=au ea
 have hz':x.length≤2 ^ 40:=Nat.le_trans hz (by decide)
 refine P.truthy_str (by exact vK hz') ⟨σ,R.tok _,?_⟩
 have:((x.length:Int) !=0)=decide (x.length≠0):=by
  by_cases q:x.length=0<;> simp [q]
 rw [this];exact h
theorem T.trInt{n:Int}{Q:Bool→St→Prop}(h:Q (decide (n≠0)) σ):W1 D A L truthy (.int n 0) Q σ:=fun va ea Φ s R=>by
 obtain⟨t,rfl⟩:=aB ea
 refine PyProof.Rows.truthy_int ⟨σ,R,?_⟩
 have:(n !=0)=decide (n≠0):=by by_cases q:n=0<;> simp [q]
 rw [this];exact h
theorem O.mulSS{n:Nat}(hn:x.length*n≤1000000)(h:Q (.str ⟨(List.replicate n x.cps.toList).flatten.toArray⟩ 0) σ)(hb:n≤1000000):W2 D A L (binaryOp .Mult) (.str x 0) (.int n 0) Q σ:=fun va vb ea eb Φ s R=>by
 obtain⟨t,rfl⟩:=au ea;obtain⟨u,rfl⟩:=aB eb
 have lim:(x.length:Int)*n≤1000000:=by have:=Int.ofNat_le.mpr hn;simpa using this
 refine P.mul_str (by
  have h1:¬((n:Int)< -(2 ^ 63:Int)):=by exact wt
  have h2:¬((n:Int)≥2 ^ 63):=by exact wr hb
  rw [decide_eq_false h1,decide_eq_false h2];rfl) (fun h1 h2=>?_) (fun h1 h2=>?_) ?_
 ·have hx:x.length≤1000000:=by
   have:x.length*1≤x.length*n:=Nat.mul_le_mul_left _ (by exact wq h1)
   exact wp this hn
  have:(1000000:Int)≤(2 ^ 63-1)/n:=Int.le_ediv_of_mul_le (by exact wo h1) (by have:(n:Int)≤1000000:=by exact wn hb
                                                                              omega)
  omega
 ·show Builtin.Str.tooLong (x.length*(n:Int).toNat)=false
  rw [Int.toNat_natCast]
  unfold Builtin.Str.tooLong
  have:x.length*n≤sizeLine:=Nat.le_trans hn (by decide)
  simpa using this
 ·have flat:∀ (m:Nat) (c acc:Array Nat),((List.replicate m c).foldl (·++ ·) acc).toList=acc.toList++(List.replicate m c.toList).flatten:=by
   intro m c
   induction m with
   | zero=>intro acc;simp
   | succ m ih=>intro acc;rw [List.replicate_succ,List.foldl_cons,ih];simp [List.replicate_succ]
  have lenEq:x.length=x.cps.size:=rfl
  by_cases h1:(n:Int)<1
  ·have:n=0:=by omega
   subst this
   rw [if_pos h1]
   exact⟨by decide,done R h⟩
  ·rw [if_neg h1]
   by_cases h2:((n:Int)==1 || x.length==0)=true
   ·rw [if_pos h2]
    refine bJ R h ?_
    have:(List.replicate n x.cps.toList).flatten=x.cps.toList:=by
     simp only [Bool.or_eq_true,beq_iff_eq]at h2
     rcases h2 with e | e
     ·have:n=1:=by omega
      rw [this];simp
     ·have:x.cps.toList= []:=List.eq_nil_of_length_eq_zero (by rw [Array.length_toList];exact e)
      rw [this];simp
    rw [this]
    simp [er]
   ·rw [if_neg h2,Int.toNat_natCast]
    have e:(⟨(List.replicate n x.cps).foldl (·++ ·) #[]⟩:Str)=⟨(List.replicate n x.cps.toList).flatten.toArray⟩:=by
     have:=flat n x.cps #[]
     simp only [List.nil_append]at this
     rw [← this]
    rw [e]
    refine⟨?_,done R h⟩
    show(List.toArray _).size≤sizeLine
    have:(List.replicate n x.cps.toList).flatten.length=n*x.length:=by simp [lenEq]
    rw [List.size_toArray,this,Nat.mul_comm]
    exact Nat.le_trans hn (by decide)
theorem F.lenStr(hz:x.length≤sizeLine)(h:Q (.int x.length 0) σ):Cb D A L "len" [.str x 0] Q σ:=fun vs' e Φ s R=>by
 refine d7 e fun v1 e1=>?_;refine aU e1 fun t=>?_
 have hz':x.length≤2 ^ 40:=Nat.le_trans hz (by decide)
 exact P.len_str (by exact vK hz') (done R h)
theorem F.lenList{l:Addr}{vs:List Value}(hl:σ.H l=some (.list vs))(hz:vs.length<2 ^ 62)(h:Q (.int vs.length 0) σ):Cb D A L "len" [.ref l] Q σ:=fun vs' e Φ s R=>by
 refine d7 e fun v1 e1=>?_;refine aV e1 ?_
 refine ai (R.listOf hl) fun its hi ei=>?_
 have hs:=aM ei
 exact Calls.call_len_list hi (by exact rk hs hz) (done R h (by rw [hs];rfl))
end
end Mine
end
section
open PySem PySem.W PyProof.Rows PySem.Calls PySem.SeqAt
namespace Mine
section
variable {D:Wd}{A:Around}{L:Addr}{α β:Type}{σ:St}{env:Env}{Φ:Frz}{s:Shared}{x y:Str}
noncomputable def InOrder(D:Wd)(A:Around)(L:Addr):List (Value→Sem Unit)→List Value→(St→Prop)→St→Prop
 | t::ts,v::vs,Q,σ=> ∀ v',er v'=v→W D A L (t v') (fun _ σ'=>InOrder D A L ts vs Q σ') σ
 | _,_,Q,σ=>Q σ
theorem InOrder.run:∀ {ts:List (Value→Sem Unit)} {vs:List Value} {Q:St→Prop} {σ:St} (h:InOrder D A L ts (vs.map er) Q σ),W D A L (assignInOrder ts vs) (fun _ σ'=>Q σ') σ
 | [],vs,Q,σ,h=>by
  have:assignInOrder [] vs=Pure.pure ():=rfl
  exact W.of_eq this (by cases vs<;> exact h)
 | t::ts,[],Q,σ,h=>W.of_eq rfl h
 | t::ts,v::vs,Q,σ,h=>W.bind (W.holding ((h v rfl).mono fun _ σ' h'=>InOrder.run h'))
theorem jN{t:Addr}{vs:List Value}{n:Nat}{Q:List Value→St→Prop}(hh:A.handled=Option.none)(ht:σ.H t=some (.tuple vs))(hn:vs.length=n)(h:∀ vs',vs'.map er=vs→Q vs' σ):
 W D A L (unpackItems (.ref t) n Option.none) Q σ:=fun Φ s R=>by
 refine ai (R.tupleOf ht) fun its hi e=>?_
 have hs:=aM e
 rw [← hn,← hs]
 refine wpAny_unpackItems_tuple hh hi fun h' he=>⟨σ,?_,h _ e⟩
 have hid:Hid Φ (upd σ.H L (.ns σ.loc)) [s.heap.objs.size]:=R.push0.fresh1 (Nat.le_refl _)
 have:=Rel.pop0 (R.push0.hid (t:=s.toks) hid fun b o hb e=>he b o (fun q=>hb (List.mem_singleton.mpr q)) e) (L:=L) (ah ..)
 rwa [bf R.HL]at this
noncomputable abbrev qR(D:Wd)(A:Around)(L:Addr)(env:Env)(elts:List Expr)(Q:Flow→St→Prop):Value→St→Prop:=fun v σ=> ∃ t vs,v= .ref t∧σ.H t=some (.tuple vs)∧vs.length=(assignEach elts env).length∧InOrder D A L ((assignEach elts env).map (·.2)) vs (fun σ=>Q .next σ) σ
theorem S.assignTup{elts:List Expr}{k:Nat}{tpos:Pos}{value:Expr}{pos:Pos}{Q:Flow→St→Prop}(hh:A.handled=Option.none)
 (h:WE D A L (eval value env) (qR D A L env elts Q) σ)
 (hstar:(assignEach elts env).findIdx? (·.1)=Option.none:=by rfl)
 (hs:swapsWithSole [.Tuple elts k tpos] value pos.line env=Pure.pure false:=by rfl) (hw:swappedStores [.Tuple elts k tpos] value env=Pure.pure Option.none:=by rfl):
 WS D A L env (.Assign [.Tuple elts k tpos] value pos) Q σ:=fun Φ s R=>by
 refine PyProof.Rows.Assign_Tuple (wpAny_mono (h Φ s R) (fun v s₁=>hU fun σ₁ R₁ t vs ev ht hn hi=>?_) fun _ _ x=>x) hs hw
 rw [al ev,arm_assign_Tuple]
 refine wpAny_bind (wpAny_standAt ?_)
 unfold unpack
 rw [hstar]
 refine wpAny_bind (wpAny_holding (wpAny_mono (jN (Q:=fun vs' σ'=>vs'.map er=vs∧σ'=σ₁) hh ht hn (fun vs' e=>⟨e,rfl⟩) Φ s₁ R₁) (fun vs' s₂=>aK fun σ₂ R₂ e eσ=>?_) fun _ _ x=>x))
 subst eσ e
 exact InOrder.run hi Φ s₂ R₂
theorem assignTup{elts:List Expr}{k:Nat}{tpos:Pos}{t:Addr}{vs:List Value}{Q:Unit→St→Prop}(hh:A.handled=Option.none)(ht:σ.H t=some (.tuple vs))(hn:vs.length=(assignEach elts env).length)
 (hi:InOrder D A L ((assignEach elts env).map (·.2)) vs (fun σ₂=>Q () σ₂) σ) (hstar:(assignEach elts env).findIdx? (·.1)=Option.none:=by rfl):W D A L (PySem.assign (.Tuple elts k tpos) env (.ref t)) Q σ:=fun Φ s₁ R₁=>by
 rw [arm_assign_Tuple]
 refine wpAny_bind (wpAny_standAt ?_)
 unfold unpack
 rw [hstar]
 refine wpAny_bind (wpAny_holding (wpAny_mono (jN (Q:=fun vs' σ'=>vs'.map er=vs∧σ'=σ) hh ht hn (fun vs' e=>⟨e,rfl⟩) Φ s₁ R₁) (fun vs' s₂=>aK fun σ₂ R₂ e eσ=>?_) fun _ _ x=>x))
 subst eσ e
 exact InOrder.run hi Φ s₂ R₂
theorem S.assignSwap{elts:List Expr}{k:Nat}{tpos:Pos}{value:Expr}{pos:Pos}{names:List Str}{Q:Flow→St→Prop}(hh:A.handled=Option.none)
 (hw:swappedStores [.Tuple elts k tpos] value env=Pure.pure (some names))
 (h:WE D A L (eval value env) (fun v σ₁=> ∃ t vs,v= .ref t∧σ₁.H t=some (.tuple vs)∧vs.length=names.length∧InOrder D A L (names.reverse.map fun n=>bindName env n) vs.reverse (fun σ₂=>Q .next σ₂) σ₁) σ)
 (hs:swapsWithSole [.Tuple elts k tpos] value pos.line env=Pure.pure false:=by rfl):
 WS D A L env (.Assign [.Tuple elts k tpos] value pos) Q σ:=fun Φ s R=>by
 refine PyProof.Rows.Assign_Tuple_swapped (names:=names) (wpAny_mono (h Φ s R) (fun v s₁=>hU fun σ₁ R₁ t vs ev ht hn hi=>?_) fun _ _ x=>x) hs hw
 rw [al ev]
 refine wpAny_mono (jN (Q:=fun vs' σ'=>vs'.map er=vs∧σ'=σ₁) hh ht hn (fun vs' e=>⟨e,rfl⟩) Φ s₁ R₁) (fun vs' s₂=>aK fun σ₂ R₂ e eσ=>?_) fun _ _ x=>x
 subst eσ e
 exact InOrder.run (vs:=vs'.reverse) (by rw [show vs'.reverse.map er=(vs'.map er).reverse from List.map_reverse ..];exact hi) Φ s₂ R₂
theorem W.bindLocal{x:Str}{v:Value}{Q:Unit→St→Prop}(h:Q () { σ with loc:=ca σ.loc x (er v)})(hL:env.locals=L:=by rfl)(hk:env.scope.kind= .function:=by rfl)
 (hl:env.kindOf x=some .local:=by rfl):W D A L (bindName env x v) Q σ:=fun F s R=>wpAny_bindName (W.storeLocal h hL hk hl F s R)
theorem eg{a:Value}:[a].length≤sizeLine:=by show 1≤sizeLine;decide
theorem bZ{a b:Value}:[a,b].length≤sizeLine:=by show 2≤sizeLine;decide
theorem dR{a b c:Value}:[a,b,c].length≤sizeLine:=by show 3≤sizeLine;decide
theorem B.seq{st:Stmt}{r:List Stmt}{Q:Flow→St→Prop}(P:St→Prop)(h:WS D A L env st (mM P Q) σ)(k:∀ σ',P σ'→WB D A L env r Q σ'):WB D A L env (st::r) Q σ:=
 B.cons (W.mono h fun f σ' q=>by cases f<;> first | exact k σ' q | exact q)
theorem S.tryOk{body orelse:List Stmt}{h₀:ExceptHandler}{hs:List ExceptHandler}{pos:Pos}{Q:Flow→St→Prop}(h:WB D A L env body (mM (fun σ'=>WB D A L env orelse Q σ') Q) σ):
 WS D A L env (.Try body (h₀::hs) orelse [] pos) Q σ:=fun F s R=>
 wpAny_Try_except (wpAny_mono (h F s R) (fun f s₁=>ar fun σ₁ R₁ h₁=>by
  cases f with
  | next=>exact h₁ F s₁ R₁
  | brk=>exact⟨σ₁,R₁,h₁⟩
  | cont=>exact⟨σ₁,R₁,h₁⟩
  | ret v=>exact⟨σ₁,R₁,h₁⟩) fun _ _ x=>x.elim)
theorem E.negInt{i:Int}{k:Nat}{p pos:Pos}{Q:Value→St→Prop}(h:Q (.int (-i) 0) σ):WE D A L (eval (.UnaryOp .USub (.Constant (.int i) k p) pos) env) Q σ:=
 E.unary (E.int fun va ea Φ s R=>by
  obtain⟨t,rfl⟩:=aB ea
  exact PyProof.Rows.neg_int (done R h))
theorem S.iteP{t:Expr}{b o:List Stmt}{pos:Pos}{Q:Flow→St→Prop}(P:Prop) [Decidable P] (h:WT D A L env t (fun c σ'=>c=decide P∧σ'=σ) σ)(ht:P→WB D A L env b Q σ)(hf:¬ P→WB D A L env o Q σ):
 WS D A L env (.If t b o pos) Q σ:=
 S.ite (W.mono h fun c σ'=>gD fun e eσ=>by
  subst e eσ
  by_cases q:P
  ·rw [decide_eq_true q];exact ht q
  ·rw [decide_eq_false q];exact hf q)
noncomputable abbrev vy(Q:Flow→St→Prop):Value→St→Prop:=fun _ σ=>Q .next σ
theorem S.expr{e:Expr}{pos:Pos}{Q:Flow→St→Prop}(h:WE D A L (eval e env) (vy Q) σ)(hi:interactive env=false:=by rfl)(hs:swapsWith e Option.none pos.line env=Pure.pure false:=by rfl):
 WS D A L env (.Expr e pos) Q σ:=fun F s R=>wpAny_Expr_any (wpAny_mono (h F s R) (fun _ s₁=>ar fun σ₁ R₁ q=>⟨σ₁,R₁,q⟩) fun _ _ x=>x) hi hs
theorem S.iteE{t:Expr}{b o:List Stmt}{pos:Pos}{Q:Flow→St→Prop}(P:Prop) [Decidable P] (h:WT D A L env t (fun c σ'=>c=decide P∧σ'.loc=σ.loc∧Ext σ.H σ'.H) σ)
 (ht:P→ ∀ H',Ext σ.H H'→WB D A L env b Q ⟨σ.loc,H'⟩) (hf:¬ P→ ∀ H',Ext σ.H H'→WB D A L env o Q ⟨σ.loc,H'⟩):
 WS D A L env (.If t b o pos) Q σ:=
 S.ite (W.mono h fun c σ'=>pN fun e el ee=>by
  obtain⟨loc',H'⟩:=σ'
  dsimp only at el ee
  subst e el
  by_cases q:P
  ·rw [decide_eq_true q];exact ht q _ ee
  ·rw [decide_eq_false q];exact hf q _ ee)
end
end Mine
end
section
open PySem PySem.W PyProof.Rows PySem.Calls PySem.SeqAt
namespace Mine
theorem bl:∀ {vs:List Value} {xs:List Str},vs.map er=ag xs→StrsAre vs xs
 | [],[],_=> .nil
 | [],_::_,h=>by simp [ag]at h
 | _::_,[],h=>by simp [ag]at h
 | v::vs,x::xs,h=>by
  simp only [ag,List.map_cons,List.cons.injEq]at h
  obtain⟨t,rfl⟩:=au h.1
  exact .cons x t (bl (xs:=xs) h.2)
theorem bu{h:Heap}:∀ {vs:List Value} {xs:List Str},StrsAre vs xs→ReadsAll h vs (xs.map PyData.str) (xs.map fun _=> []).flatten
 | _,_,.nil=> .nil
 | _,_,.cons y t r=> .cons (.str y t) (bu r)
theorem bW:∀ {xs:List Str},(∀ x∈xs,PyData.strOk x=true)→PyData.canLayAll0 (xs.map PyData.str)=true
 | [],_=>rfl
 | x::xs,h=>by
  rw [List.map_cons,PyData.canLayAll0,bW fun y hy=>h y (.tail _ hy),PyData.canLay0,h x (.head _)];rfl
theorem iF:∀ {xs ys:List Str},PyData.eqvAll (xs.map PyData.str) (ys.map PyData.str)=decide (xs=ys)
 | [],[]=>rfl
 | [],_::_=>rfl
 | _::_,[]=>rfl
 | x::xs,y::ys=>by
  rw [List.map_cons,List.map_cons,PyData.eqvAll,iF,PyData.eqv]
  by_cases h:x=y<;> by_cases h2:xs=ys<;> simp [h,h2]
section
variable {D:Wd}{A:Around}{L:Addr}{α β:Type}{σ:St}{env:Env}{F:Frz}{H:AH}{s:Shared}{fp:List Addr}{Q:Value→St→Prop}{xs ys:List Str}{l b:Addr}
theorem O.inStrs{k:Str}(hl:σ.H l=some (.list (ag xs)))(h:Q (.bool (decide (k∈xs))) σ):W2 D A L (compareOp .In) (.str k 0) (.ref l) Q σ:=fun va vb ea eb Φ s R=>by
 obtain⟨t,rfl⟩:=au ea;rw [al eb]
 refine ai (R.listOf hl) fun its hi e=>?_
 refine in_list_strs (vs:=its.toList) hi (bl e) (bJ R h ?_)
 show Value.bool _=_
 rw [Value.bool.injEq,Bool.eq_iff_iff];simp
theorem O.notInStrs{k:Str}(hl:σ.H l=some (.list (ag xs)))(h:Q (.bool (decide (k∉xs))) σ):W2 D A L (compareOp .NotIn) (.str k 0) (.ref l) Q σ:=fun va vb ea eb Φ s R=>by
 obtain⟨t,rfl⟩:=au ea;rw [al eb]
 refine ai (R.listOf hl) fun its hi e=>?_
 refine notin_list_strs (vs:=its.toList) hi (bl e) (bJ R h ?_)
 show Value.bool _=_
 rw [Value.bool.injEq,Bool.eq_iff_iff];simp
 exact⟨fun h q=>h k q rfl,fun h x hx q=>h (q▸hx)⟩
theorem O.neStrs(hx:∀ x∈xs,PyData.strOk x=true)(hy:∀ x∈ys,PyData.strOk x=true)(hA:A.units+64<cLine)(hl:σ.H l=some (.list (ag xs)))(hb:σ.H b=some (.list (ag ys)))(h:Q (.bool (!decide (xs=ys))) σ):W2 D A L (compareOp .NotEq) (.ref l) (.ref b) Q σ:=fun va vb ea eb Φ s R=>by
 rw [al ea,al eb]
 obtain⟨its,⟨o,ho,hc,n,hd⟩,e⟩:=R.listOf hl
 obtain⟨its2,⟨o2,ho2,hc2,n2,hd2⟩,e2⟩:=R.listOf hb
 refine compareNe_reads (.list ho hc hd (bu (bl e))) (.list ho2 hc2 hd2 (bu (bl e2))) (by rw [PyData.canLay0];exact bW hx) (by rw [PyData.canLay0];exact bW hy) (by
  rw [PyData.depth,PyData.depth,depthAll_strs',depthAll_strs'];show A.units+1<cLine;exact vI hA) (bJ R h ?_)
 rw [PyData.eqv,iF];rfl
theorem O.neTups(hx:∀ x∈xs,PyData.strOk x=true)(hy:∀ x∈ys,PyData.strOk x=true)(hA:A.units+64<cLine)(hl:σ.H l=some (.tuple (ag xs)))(hb:σ.H b=some (.tuple (ag ys)))(h:Q (.bool (!decide (xs=ys))) σ):W2 D A L (compareOp .NotEq) (.ref l) (.ref b) Q σ:=fun va vb ea eb Φ s R=>by
 rw [al ea,al eb]
 obtain⟨its,⟨o,ho,hc,n,hd⟩,e⟩:=R.tupleOf hl
 obtain⟨its2,⟨o2,ho2,hc2,n2,hd2⟩,e2⟩:=R.tupleOf hb
 refine compareNe_reads (.tuple ho hc hd (bu (bl e))) (.tuple ho2 hc2 hd2 (bu (bl e2))) (by rw [PyData.canLay0];exact bW hx) (by rw [PyData.canLay0];exact bW hy) (by
  rw [PyData.depth,PyData.depth,depthAll_strs',depthAll_strs'];show A.units+1<cLine;exact vI hA) (bJ R h ?_)
 rw [PyData.eqv,iF];rfl
theorem O.addLists{vs ws:List Value}(hl:σ.H l=some (.list vs))(hb:σ.H b=some (.list ws))(hz:vs.length+ws.length≤sizeLine)(h:New Q σ (.list (vs++ws))):W2 D A L (binaryOp .Add) (.ref l) (.ref b) Q σ:=fun va vb ea eb Φ s R=>by
 rw [al ea,al eb]
 refine b6 (R.listAt hl) fun its n ho e=>?_
 refine b6 (R.listAt hb) fun its2 n2 ho2 e2=>?_
 refine concat_meets ⟨_,ho,rfl⟩ ⟨_,ho2,rfl⟩ noFill_list_add seq_list_add F.slot_list_add F.entry_list_add (F.args_list_add_2 _ _) (AutoSeq1.list___add___list_list_0 l its n b its2 n2 (by rw [aM e,aM e2];exact hz)) ⟨ho,ho2,?_⟩
 exact R.push (ao:= .list (vs++ws)) _ rfl ⟨_,_,rfl,by simp [e,e2]⟩ h
theorem M.indexStrs{k:Str}{j:Nat}(hl:σ.H l=some (.list (ag xs)))(hj:xs[j]?=some k)(hno:∀ m,m<j→xs[m]?≠some k)(hz:xs.length≤1000000)(h:Q (.int j 0) σ):Cb D A L "list.index" [.ref l,.str k 0] Q σ:=fun vs' e Φ s R=>by
 refine eA e fun v1 e1 v2 e2=>?_
 rw [al e1];obtain⟨t,rfl⟩:=au e2
 refine b6 (R.listAt hl) fun its n ho ei=>?_
 have hs:its.size=xs.length:=by rw [aM ei,ae]
 have hjl:j<xs.length:=(List.getElem?_eq_some_iff.mp hj).1
 have at_:∀ m (hm:m<its.size),∃ u,its[m]= .str (xs[m]'(by exact iZ hm hs)) u:=fun m hm=>by
  have:(its.toList.map er)[m]?=(ag xs)[m]?:=by rw [ei]
  rw [List.getElem?_map,Array.getElem?_toList,Array.getElem?_eq_getElem hm]at this
  have h2:(ag xs)[m]?=some (.str (xs[m]'(by exact iZ hm hs)) 0):=by simp [ag,List.getElem?_eq_getElem (show m<xs.length by exact iZ hm hs)]
  rw [h2]at this
  exact au (Option.some.inj this)
 refine call_meets F.slot_list_index ⟨_,ho,rfl⟩ F.entry_list_index (F.args_list_index_2 _ _) (list_indexAt l its n none #[] (.str k t) (fun y=>match y with | .str a _=>a==k | _=>false) j (by exact qb hjl hs) (by exact wd hjl hz) ?_ ?_) ⟨ho,fun y hy=>?_,done R h⟩
 ·obtain⟨u,hu⟩:=at_ j (by exact qb hjl hs)
  rw [hu]
  have:xs[j]=k:=by rw [List.getElem?_eq_getElem hjl]at hj;exact Option.some.inj hj
  simp [this]
 ·intro m hm hmj
  obtain⟨u,hu⟩:=at_ m hm
  rw [hu]
  have:xs[m]'(by exact rv hmj hjl)≠k:=fun q=>hno m hmj (by rw [List.getElem?_eq_getElem (by exact rv hmj hjl),q])
  simp [this]
 ·obtain⟨m,hm,rfl⟩:=Array.mem_iff_getElem.mp hy
  obtain⟨u,hu⟩:=at_ m hm
  rw [hu]
  exact EqAt.str_str _ u k t
theorem F.tupleOfList{vs:List Value}(hl:σ.H l=some (.list vs))(hz:vs.length≤sizeLine)(h:New Q σ (.tuple vs)):Ct D A L "tuple" [.ref l] Q σ:=fun vs' e Φ s R=>by
 refine d7 e fun v1 e1=>?_
 rw [al e1]
 refine ai (R.listOf hl) fun its hi ei=>?_
 refine call_tuple_list hi (fun h' hk=>?_) (by rw [aM ei];exact hz)
 have R':Rel D L Φ σ { s with heap:=h',toks:=s.toks}:=R.ext hk
 exact R'.push (ao:= .tuple vs) _ rfl ⟨_,_,rfl,ei⟩ h
theorem iX(l:Addr)(its:Array Value):Meets (Builtin.«bool.__new__» ⟨[.type "bool",.ref l],[]⟩) (fun _ R s=>s.heap.IsList l its∧(its.size:Int)<2 ^ 63∧ ∀ tk,R (.ok (.ret (.bool (!its.isEmpty)))) { s with toks:=tk}):=
 Meets.of_wp fun prog w A R s hs=>by
  obtain⟨hp,g,d,tk,os⟩:=s
  refine aE hs fun h1 h2 h3=>?_;clear hs
  have f1:=F.conv_sub_bool
  repeat (any_goals (first | assumption | with_reducible refine wpAny_truthy_list h1 h2 ?_ | wp_step))
  all_goals first | exact⟨_,rfl,h3 _⟩ | skip
theorem F.boolList{vs:List Value}(hl:σ.H l=some (.list vs))(hz:vs.length<2 ^ 62)(h:Q (.bool (!vs.isEmpty)) σ):Ct D A L "bool" [.ref l] Q σ:=fun vs' e Φ s R=>by
 refine d7 e fun v1 e1=>?_
 rw [al e1]
 refine ai (R.listOf hl) fun its hi ei=>?_
 have hs:=aM ei
 refine call_bool_1 (iX l its) ⟨hi,by exact rk hs hz,fun tk=>⟨rfl,done R h ?_⟩⟩
 show Value.bool _=_
 congr 2
 rw [Array.isEmpty,hs];cases vs<;> simp
theorem It.range{x:Str}{p pos:Pos}{e target:Expr}{Q:Nat→(Nat→Value ⊕ AO)→List (Addr×AO)→St→Prop}(hh:A.handled=none)
 (h:WE D A L (eval e env) (fun v σ₁=> ∃ n:Nat,v= .int n 0∧n≤1000000∧Q n (fun k=> .inl (.int k 0)) [] σ₁) σ)
 (hx:∀ P,nsIn (K0 P) mainGlobals x=some Option.none) (hv:bootBuiltins x=some (.type "range"))
 (ht:∀ it v,letOwnedTupleGo target it v=Pure.pure ():=by intro _ _;rfl)
 (he:starEach [e] env= [(false,eval e env)]:=by rfl)
 (hplain:(backTo pos (starEach [e] env)).any (·.1)=false:=by rfl) (hg:env.globals=mainGlobals:=by rfl) (hb:env.builtins=builtinsNs:=by rfl) (hk:env.scope.kind= .function:=by rfl) (hl:env.kindOf x=some .globalImplicit:=by rfl) (hdb:(x==("__debug__" :Str))=false:=by decide) (hn:x≠ "__name__" :=by decide):
 It D A L env target (.Call (.Name x p) [e] [] pos) Q σ:=fun F s R=>by
 rw [show eval (.Call (.Name x p) [e] [] pos) env=(do callWith pos (← eval (.Name x p) env) [] (backTo pos (starEach [e] env)) [])from rfl]
 refine wpAny_bind (wpAny_mono (E.builtin (Q:=fun v σ'=>v= .type "range" ∧σ'=σ) hx hv ⟨rfl,rfl⟩ hg hb hk hl hdb hn F s R) (fun v s₁=>aK fun σ₁ R₁ ev eσ=>?_) fun _ _ x=>x)
 rw [cE ev];subst eσ
 refine PyProof.Rows.callWith_type hplain (bB hplain ?_)
 refine wpAny_mono (I.cons (pos:=pos) (r:= []) (Q:=fun vs σ'=> ∃ n:Nat,vs= [.int n 0]∧n≤1000000∧Q n (fun k=> .inl (.int k 0)) [] σ') (W.mono h fun v σ'=>aK fun n e1 e2 q=>I.nil ⟨n,by rw [e1],e2,q⟩) (by rw [he];rfl) F s₁ R₁) (fun vs s₂=>fy fun σ₂ R₂ n e1 hn q=>?_) fun _ _ x=>x
 refine d7 e1 fun v1 e2=>?_;obtain⟨t,rfl⟩:=aB e2
 refine call_range_1 ?_
 have R₃:=R₂.ext (t:=s₂.toks+1+1) (h':=s₂.heap.push { cls:= .type "range",data:= .fields #[.int 0 s₂.toks,.int n t,.int 1 (s₂.toks+1)]}) fun b o e=>Heap.get?_push_of_some _ e
 have hsz:Builtin.Range.rangeSize 0 (n:Int) 1=n:=by
  unfold Builtin.Range.rangeSize
  rw [if_pos (by decide)]
  by_cases h:(0:Int)<n
  ·rw [if_pos h];exact wc
  ·rw [if_neg h];exact wb h
 refine wpAny_pyIter_range (IsRange.new _ _ _ _ _ _ _) (by
  unfold Builtin.Range.small
  rw [hsz]
  unfold Builtin.Range.rangeFitsLong
  simp;exact wa hn) ?_
 rw [hsz]
 refine⟨n,_,_,_,[_],_,_,σ₂,rfl,R₃.ext (t:=s₂.toks+1+1) (fun b o e=>Heap.get?_push_of_some _ e),R₃.push0.fresh1 (Nat.le_refl _),?_,Turns.one (n:=n) (val:=fun k=> .int k 0) (g:= []) (J:=fun k o=>o= { cls:= .type "range_iterator",dict:=none,data:= .fields #[rawInt (k:Int),rawInt ((n:Int)-(k:Int)),rawInt 1],slots:= #[]}) ht ?_ ?_ ?_,Has.nil,q⟩
 ·exact⟨_,Heap.get?_push_size _ rfl,by simp⟩
 ·rintro k F H s o Q R G ho rfl hk hq
  refine wpAny_pyNext_range_item ho (by exact vZ hk) fun h' hi hs=>hq _ h' _ _ rfl ?_ hi hs.2
  have e1:(k:Int)+1=((k+1:Nat):Int):=by exact ve
  have e2:(n:Int)-k-1=(n:Int)-((k+1:Nat):Int):=by exact vd
  rw [e1,e2]
 ·rintro F H s o Q R G ho rfl hq
  exact wpAny_pyNext_range_end hh ho (by exact uZ) fun h' hs=>hq h' s.toks fun b o hb e=>hs b o hb e
 ·rintro k s o Q ho rfl hq
  exact wpAny_pyIter_rangeiter ho hq
end
end Mine
end
section
open PySem PySem.W PyProof.Rows PySem.Calls PySem.SeqAt
namespace Mine
section
variable {D:Wd}{A:Around}{L:Addr}{α β:Type}{σ:St}{env:Env}{Φ:Frz}{H:AH}{s:Shared}{fp:List Addr}{Q:Value→St→Prop}{x y:List UInt8}
theorem O.addBB(hz:x.length+y.length≤1000000)(h:Q (.bytes (x++y).toArray 0) σ):W2 D A L (binaryOp .Add) (.bytes x.toArray 0) (.bytes y.toArray 0) Q σ:=fun va vb ea eb Φ s R=>by
 obtain⟨t,rfl⟩:=bE ea;obtain⟨u,rfl⟩:=bE eb
 refine KBy.add_bytes (by simp;exact zq0 hz) fun t' k=>done R h ?_
 simp [er]
theorem O.eqBB(h:Q (.bool (decide (x=y))) σ):W2 D A L (compareOp .Eq) (.bytes x.toArray 0) (.bytes y.toArray 0) Q σ:=fun va vb ea eb Φ s R=>by
 obtain⟨t,rfl⟩:=bE ea;obtain⟨u,rfl⟩:=bE eb
 exact eq_bytes (bJ R h (by show Value.bool _=_;rw [Value.bool.injEq,Bool.eq_iff_iff];simp))
theorem O.neBB(h:Q (.bool (!decide (x=y))) σ):W2 D A L (compareOp .NotEq) (.bytes x.toArray 0) (.bytes y.toArray 0) Q σ:=fun va vb ea eb Φ s R=>by
 obtain⟨t,rfl⟩:=bE ea;obtain⟨u,rfl⟩:=bE eb
 exact ne_bytes (bJ R h (by show Value.bool _=_;rw [Value.bool.injEq,Bool.eq_iff_iff];simp))
theorem O.mulBB{n:Int}(hx:x≠ [])(hx2:x.length≤16)(h1: -1000000≤n)(h2:n≤1000000)(h:Q (.bytes (List.replicate n.toNat x).flatten.toArray 0) σ):W2 D A L (binaryOp .Mult) (.bytes x.toArray 0) (.int n 0) Q σ:=fun va vb ea eb Φ s R=>by
 obtain⟨t,rfl⟩:=bE ea;obtain⟨u,rfl⟩:=aB eb
 exact bytes_mul_any hx (by exact zq1 h1) (by exact zq2 h2) hx2 fun t' k=>done R h
theorem F.lenBytes(hz:x.length≤1000000)(h:Q (.int x.length 0) σ):Cb D A L "len" [.bytes x.toArray 0] Q σ:=fun vs' e Φ s R=>by
 refine d7 e fun v1 e1=>?_;refine j7 e1 fun t=>?_
 exact len_bytes (by simp;exact zq3 hz) (done R h (by simp [er]))
theorem F.absInt{n:Int}(h:Q (.int (n.natAbs:Int) 0) σ):Cb D A L "abs" [.int n 0] Q σ:=fun vs' e Φ s R=>by
 refine d7 e fun v1 e1=>?_;refine fQ e1 fun t=>?_
 refine PyProof.Rows.call_abs_int fun u tk=>done R h ?_
 show Value.int _ _=_
 congr 1
 split<;> omega
theorem F.intInt{n:Int}(h:Q (.int n 0) σ):Ct D A L "int" [.int n 0] Q σ:=fun vs' e Φ s R=>by
 refine d7 e fun v1 e1=>?_;refine fQ e1 fun t=>?_
 exact call_int_int (bJ R h)
theorem F.divmod{a b:Int}(hb:b≠0)(hp:Builtin.divisionGoesByPylong a b=false)(h:New Q σ (.tuple [.int (a.fdiv b) 0,.int (a.fmod b) 0])):Cb D A L "divmod" [.int a 0,.int b 0] Q σ:=fun vs' e Φ s R=>by
 refine eA e fun v1 e1 v2 e2=>?_;refine fQ e1 fun t=>?_;refine fQ e2 fun u=>?_
 refine PyProof.Rows.divmod_int hb ?_ (.inl hp)
 exact(R.tok (s.toks+1+1)).push (ao:= .tuple [.int (a.fdiv b) 0,.int (a.fmod b) 0]) _ rfl ⟨_,_,rfl,rfl⟩ h
theorem F.chr{n:Nat}(hn:n≤0x10FFFF)(h:Q (.str ⟨#[n]⟩ 0) σ):Cb D A L "chr" [.int n 0] Q σ:=fun vs' e Φ s R=>by
 refine d7 e fun v1 e1=>?_;refine fQ e1 fun t=>?_
 refine P.chr_of_int (by
  have h1:¬((n:Int)<0):=by exact zq4
  have h2:¬((n:Int)>0x10FFFF):=by exact zq5 hn
  rw [decide_eq_false h1,decide_eq_false h2];rfl) (done R h ?_)
 simp [er]
theorem E.sliceBytes{value:Expr}{lo up:Option Expr}{p pos:Pos}
 (h:WE D A L (eval value env) (fun o σ₁=>Bd D A L env lo (fun a σ₂=>Bd D A L env up (fun b σ₃=> ∃ x:List UInt8,o= .bytes x.toArray 0∧x.length≤1000000∧Q (.bytes (cut x a b).toArray 0) σ₃) σ₂) σ₁) σ)
 (ht:∀ o r,letTemporaryGo value o r=Pure.pure ():=by intro _ _;rfl):WE D A L (eval (.Subscript value (.Slice lo up Option.none p) pos) env) Q σ:=fun Φ s R=>by
 refine wpAny_Subscript_Slice (T:= "bytes") FB.slot_bytes_getitem.lookup (wpAny_mono (h Φ s R) (fun o s₁=>ar fun σ₁ R₁ h₁=>wpAny_Slice (wpAny_mono (h₁.run R₁) (fun vl s₂=>dz fun a σ₂ R₂ h₂ pl l el ela=>wpAny_mono (h₂.run R₂) (fun vu s₃=>dz fun b σ₃ R₃ h₃ pu u eu eub=>?_) fun _ _ x=>x) fun _ _ x=>x)) fun _ _ x=>x) ht
 refine aR h₃ fun x eo hz hq=>?_;clear h₃
 obtain⟨t,rfl⟩:=bE eo
 rw [evalPart_none]
 refine wpAny_pure ⟨rfl,?_⟩
 have hzl:x.toArray.size≤sizeLine:=by simp;exact Nat.le_trans hz (by decide)
 refine getItem_meets (S:=_) rfl (by decide) FB.slot_bytes_getitem FB.entry_bytes_getitem (FB.args_bytes_getitem_2 _ _) (KBc.meets_slice2 x.toArray t _ pl pu) ⟨Heap.IsSliceOf.new _ _ _ _,Nat.le_trans (KBc.size_picked_le _ _ _) hzl,fun t' k=>?_⟩
 have R₄:Rel D L _ σ₃ { s₃ with heap:=s₃.heap.push { cls:= .type "slice",data:= .fields #[vl,vu,.none]}}:=R₃.ext (t:=s₃.toks) fun _ _ e=>Heap.get?_push_of_some _ e
 refine done R₄ hq ?_
 show Value.bytes _ 0=_
 congr 1
 rw [KBc.picked_eq]
 congr 1
 have e1:(a.map fun(n:Nat)=>(n:Int)).elim 0 (clipAt x.toArray.size)=min (a.getD 0) x.length:=by
  cases a with
  | none=>simp
  | some a=>show clipAt _ (a:Int)=_
            rw [clipAt_nat];simp
 have e2:(b.map fun(n:Nat)=>(n:Int)).elim x.toArray.size (clipAt x.toArray.size)=min (b.getD x.length) x.length:=by
  cases b with
  | none=>simp
  | some b=>show clipAt _ (b:Int)=_
            rw [clipAt_nat];simp
 rw [e1,e2]
 unfold cut
 show(x.drop _).take _=_
 rw [List.drop_take]
 rcases Nat.le_total (a.getD 0) x.length with q | q
 ·rw [Nat.min_eq_left q,List.take_eq_take_iff,List.length_drop];clear e1 e2 hzl hz;exact zq6
 ·rw [Nat.min_eq_right q,List.drop_eq_nil_of_le q,List.drop_eq_nil_of_le (Nat.le_refl _)];simp
theorem mB{target:Expr}{b:Value}(hb:er b= .bytes x.toArray 0)(hh:A.handled=Option.none)(ht:∀ it v,letOwnedTupleGo target it v=Pure.pure ():=by intro _ _;rfl):
 Src D A b target x.length (fun k=> .inl (.int ((x.getD k 0).toNat:Int) 0)) []:=by
 intro F H s Q R G hq
 obtain⟨t,rfl⟩:=bE hb
 refine KBw.pyIter_bytes (hq _ [s.heap.objs.size] _ _ _ (R.ext (t:=s.toks) fun b o e=>Heap.get?_push_of_some _ e) (R.fresh1 (Nat.le_refl _)) ?_
  (Turns.one (J:=fun k o=>o.cls= .type "bytes_iterator" ∧o.data= .fields #[.bytes x.toArray t,.int k 0]) ht ?_ ?_ ?_))
 ·exact⟨_,Heap.get?_push_size _ rfl,rfl,rfl⟩
 ·intro k F H s o Q R G ho J hk hq
  refine KBw.next_item (c:=x.getD k 0) ⟨o,ho,J⟩ (by simp [hk]) fun h'=>ar fun o' ho' j' hs=>hq _ h' _ o' rfl j' ho' hs.2
 ·intro F H s o Q R G ho J hq
  exact KBw.next_end hh ⟨o,ho,J⟩ (by simp) fun h' hs=>hq h' s.toks fun b o hb e=>hs b o hb e
 ·intro k s o Q ho J hq
  exact KBw.pyIter_self ⟨o,ho,J⟩ hq
end
end Mine
end
section
open PySem PySem.W PyProof.Rows PySem.Calls PySem.SeqAt
namespace Mine
variable {D:Wd}{A:Around}
theorem cg{H:AH}{x:Str}{v:Value}(hA:Ok A 3)(hv:er v= .str x 0):
 Cd D A (.call (.ref 94) ⟨[v],[]⟩) (fun r H'=>Ext H H'∧r= .str x 0) H:=by
 obtain⟨t,rfl⟩:=au hv
 refine Cd.fn (fun P=>rfl) rfl (fun P=>rfl) rfl hA (by decide) (by intro x hx;simp at hx;subst hx;rfl) (fun L hL hA'=>?_)
 refine WB.fold3 ?_
 intro A1_ env1_ Q1_
 refine W.foldL ?_
 intro lc2_ q2_
 refine B.cons (S.assign (E.callT (T:= "type") (fun P=>rfl) (by kernel_rfl) (I.cons (E.local (v:= .str x 0) rfl ?_))))
 refine I.nil (F.typeStr ?_)
 refine W.foldL ?_
 intro lc3_ q3_
 refine B.cons (S.ite (T.value (E.callB (id:= "issubclass") (fun P=>rfl) (by kernel_rfl) (I.cons (E.local (v:= .type "str") rfl (I.cons (E.tuple (I.cons (E.builtin (v:= .type "str") (fun P=>rfl) (by kernel_rfl) (I.cons (E.builtin (v:= .type "bytes") (fun P=>rfl) (by kernel_rfl) (I.nil ⟨by decide,fun a ha=>?_⟩))))))))))))
 refine I.nil (F.issubStr (ah ..) ?_)
 refine T.trBool ?_
 refine W.foldL ?_
 intro lc4_ q4_
 refine B.cons (S.ret (E.local (v:= .str x 0) rfl ?_))
 intro v' hv'
 exact⟨aa ha,hv'⟩
noncomputable def SL:Str:=Str.ofString "/"
theorem f9{H:AH}{x:Str}{v:Value}(hA:Ok A 3)(hv:er v= .str x 0):
 Cd D A (.call (.ref 108) ⟨[v],[]⟩) (fun r H'=>Ext H H'∧r= .str SL 0) H:=by
 obtain⟨t,rfl⟩:=au hv
 refine Cd.fn (fun P=>rfl) rfl (fun P=>rfl) rfl hA (by decide) (by intro x hx;simp at hx;subst hx;rfl) (fun L hL hA'=>?_)
 refine WB.fold3 ?_
 intro A5_ env5_ Q5_
 refine W.foldL ?_
 intro lc6_ q6_
 refine B.cons (S.ite (T.value (E.callB (id:= "isinstance") (fun P=>rfl) (by kernel_rfl) (I.cons (E.local (v:= .str x 0) rfl (I.cons (E.builtin (v:= .type "bytes") (fun P=>rfl) (by kernel_rfl) (I.nil ?_))))))))
 refine F.isBytesStr (T.trBool ?_)
 refine W.foldL ?_
 intro lc7_ q7_
 refine B.cons (S.ret (E.str ?_))
 intro v' hv'
 exact⟨Ext.refl _,hv'⟩
theorem E.call1{D:Wd}{A:Around}{L:Addr}{σ:St}{env:Env}{x:Str}{p pos:Pos}{e:Expr}{f:Addr}{Q:Value→St→Prop}(hx:∀ P,nsIn (K0 P) mainGlobals x=some (some (.ref f)))(hkeep:∀ P,keepIn (K0 P) (.ref f)=true)
 (h:WE D A L (eval e env) (fun a σ₁=> ∃ res,(∀ v,er v=a→ ∀ H,Ext σ₁.H H→Cd D A (.call (.ref f) ⟨[v],[]⟩) (fun r H'=>Ext H H'∧r=res) H)∧ ∀ H',Ext σ₁.H H'→Q res ⟨σ₁.loc,H'⟩) σ)
 (he:starEach [e] env= [(false,eval e env)]:=by rfl)
 (hplain:(backTo pos (starEach [e] env)).any (·.1)=false:=by rfl) (hg:env.globals=mainGlobals:=by rfl) (hk:env.scope.kind= .function:=by rfl) (hl:env.kindOf x=some .globalImplicit:=by rfl) (hdb:(x==("__debug__" :Str))=false:=by decide):
 WE D A L (eval (.Call (.Name x p) [e] [] pos) env) Q σ:=by
 refine E.callFn hx hkeep (I.cons (W.mono h fun a σ₁=>ar fun res hc hq=>I.nil fun vs' hv hL=>?_) (by rw [he];rfl)) hplain hg hk hl hdb
 refine d7 hv fun v1 e1=>?_
 exact Cd.val hL (hc v1 e1 _ (aa hL)) hq
noncomputable def idx(x:Str):Nat:=(Txt.rfind x SL+1).toNat
theorem mX(x:Str):Txt.rfind x SL+1=(idx x:Int):=by
 have: -1≤Txt.rfind x SL:=by
  unfold Txt.rfind
  split<;> (first | exact tj | exact ti)
 unfold idx;exact th this
noncomputable def fE(n:Nat):Str:=⟨(List.replicate n SL.cps.toList).flatten.toArray⟩
noncomputable def bI(x:Str):Str:=
 let h:=b4 x none (some (idx x))
 if h.length≠0∧h≠fE h.length then Txt.rstripChars h SL else h
noncomputable def cO(x:Str):Str:=b4 x (some (idx x)) none
theorem c9:SL.length=1:=by decide
theorem pU{H:AH}{x:Str}{v:Value}(hA:Ok A 5)(hv:er v= .str x 0)(hz:x.length≤1000000):
 Cd D A (.call (.ref 122) ⟨[v],[]⟩) (fun r H'=>Ext H H'∧ ∃ a,r= .ref a∧H a=none∧H' a=some (.tuple [.str (bI x) 0,.str (cO x) 0])) H:=by
 obtain⟨t,rfl⟩:=au hv
 have hzl:x.length≤sizeLine:=Nat.le_trans hz (by decide)
 refine Cd.fn (fun P=>rfl) rfl (fun P=>rfl) rfl hA (by decide) (by intro x hx;simp at hx;subst hx;rfl) (fun L hL hA'=>?_)
 refine WB.fold3 ?_
 intro A8_ env8_ Q8_
 refine W.foldL ?_
 intro lc9_ q9_
 refine B.cons (S.assign (E.call1 (f:=94) (fun P=>rfl) (fun P=>rfl) (E.local (v:= .str x 0) rfl ⟨.str x 0,fun v hv H _=>cg (hA'.mono (by decide)) hv,fun H1 e1=>?_⟩)))
 refine W.foldL ?_
 intro lc10_ q10_
 refine B.cons (S.assign (E.call1 (f:=108) (fun P=>rfl) (fun P=>rfl) (E.local (v:= .str x 0) rfl ⟨.str SL 0,fun v hv H _=>f9 (hA'.mono (by decide)) hv,fun H2 e2=>?_⟩)))
 refine W.foldL ?_
 intro lc11_ q11_
 refine B.cons (S.assign (E.binop (E.meth (T:= "str") (id:= "str.rfind") F.plainAttrs_str F.slot_str_rfind (by kernel_rfl) (E.local (v:= .str x 0) rfl ⟨rfl,I.cons (E.local (v:= .str SL 0) rfl (I.nil (M.rfind (E.int (O.addII ?_)))))⟩))))
 rw [mX]
 refine W.foldL ?_
 intro lc12_ q12_
 refine B.cons (S.assignSwap hA'.hand (names:= ["head","tail"]) rfl (E.tuple (I.cons (E.sliceStr (E.local (v:= .str x 0) rfl (.none (.some (E.local (v:= .int (idx x:Int) 0) rfl ⟨_,rfl,x,rfl,hzl,?_⟩))))))))
 refine I.cons (E.sliceStr (E.local (v:= .str x 0) rfl (.some (E.local (v:= .int (idx x:Int) 0) rfl ⟨_,rfl,.none ⟨x,rfl,hzl,I.nil ⟨bZ,fun a ha=>?_⟩⟩⟩))))
 refine⟨a,_,rfl,ah ..,rfl,?_⟩
 intro v1 hv1
 refine W.bindLocal ?_
 intro v2 hv2
 refine W.bindLocal ?_
 simp only [hv1,hv2]
 have hhl:(b4 x none (some (idx x))).length≤x.length:=fm ..
 let I13:St→Prop:=fun σ=>σ.loc "head" =some (.str (bI x) 0)∧σ.loc "tail" =some (.str (cO x) 0)∧Ext H σ.H
 refine W.foldL ?_
 intro lc14_ q14_
 refine B.seq I13 ?_ ?_
 ·refine S.ite (T.boolop (W.andCons (T.value (E.local (v:= .str (b4 x none (some (idx x))) 0) rfl (T.trStr (by exact lC hhl hzl) ?_)))))
  first | split | (dsimp only [gV,bv];split)
  ·rename_i h0
   have h0:=of_decide_eq_true h0
   refine W.andCons (T.compare (E.local (v:= .str (b4 x none (some (idx x))) 0) rfl (E.binop (E.local (v:= .str SL 0) rfl (E.callB (id:= "len") (fun P=>rfl) (by kernel_rfl) (I.cons (E.local (v:= .str (b4 x none (some (idx x))) 0) rfl (I.nil (F.lenStr (by exact lC hhl hzl) ?_)))))))))
   refine O.mulSS (by rw [c9];exact qt hhl hz) (O.neSS ⟨_,rfl,?_⟩) (by exact qr hhl hz)
   show if ((b4 x none (some (idx x))) !=fE (b4 x none (some (idx x))).length)=true then _ else _
   first | split | (dsimp only [gV,bv];split)
   ·rename_i h1
    refine W.andNil ?_
    refine W.foldL ?_
    intro lc15_ q15_
    refine B.cons (S.assign (E.meth (T:= "str") (id:= "str.rstrip") F.plainAttrs_str F.slot_str_rstrip (by kernel_rfl) (E.local (v:= .str (b4 x none (some (idx x))) 0) rfl ⟨rfl,I.cons (E.local (v:= .str SL 0) rfl (I.nil (M.rstrip (by exact lC hhl hzl) ?_)))⟩)))
    refine B.nil ⟨?_,rfl,?_⟩
    ·show some _=some _
     unfold bI
     rw [if_pos ⟨h0,by simpa using h1⟩]
    ·exact e1.trans (e2.trans (aa ha))
   ·rename_i h1
    show WB _ _ _ _ [] _ _
    refine B.nil ⟨?_,rfl,?_⟩
    ·show some _=some _
     unfold bI
     rw [if_neg fun q=>q.2 (by simpa using h1)]
    ·exact e1.trans (e2.trans (aa ha))
  ·rename_i h0
   show WB _ _ _ _ [] _ _
   refine B.nil ⟨?_,rfl,?_⟩
   ·show some _=some _
    unfold bI
    rw [if_neg fun q=>h0 (by simpa using q.1)]
   ·exact e1.trans (e2.trans (aa ha))
 ·rintro σ h1_;refine aE h1_ fun g1 g2 g3=>?_;clear h1_
  refine W.foldL ?_
  intro lc16_ q16_
  refine B.cons (S.ret (E.tuple (I.cons (E.local (v:= .str (bI x) 0) g1 (I.cons (E.local (v:= .str (cO x) 0) g2 (I.nil ⟨bZ,fun b hb=>?_⟩)))))))
  intro v' hv'
  exact⟨g3.trans (aa hb),b,hv',az (fun a o e=>g3 a o e) hb,ah ..⟩
end Mine
end
section
open PySem PySem.W PyProof.Rows PySem.Calls PySem.SeqAt
namespace Mine
variable {D:Wd}{A:Around}
theorem mx{H:AH}{x:Str}{v:Value}(hA:Ok A 5)(hv:er v= .str x 0)(hz:x.length≤1000000):
 Cd D A (.call (.ref 136) ⟨[v],[]⟩) (fun r H'=>Ext H H'∧r= .str (cO x) 0) H:=by
 obtain⟨t,rfl⟩:=au hv
 have hzl:x.length≤sizeLine:=Nat.le_trans hz (by decide)
 refine Cd.fn (fun P=>rfl) rfl (fun P=>rfl) rfl hA (by decide) (by intro x hx;simp at hx;subst hx;rfl) (fun L hL hA'=>?_)
 refine WB.fold3 ?_
 intro A1_ env1_ Q1_
 refine W.foldL ?_
 intro lc2_ q2_
 refine B.cons (S.assign (E.call1 (f:=94) (fun P=>rfl) (fun P=>rfl) (E.local (v:= .str x 0) rfl ⟨.str x 0,fun v hv H _=>cg (hA'.mono (by decide)) hv,fun H1 e1=>?_⟩)))
 refine W.foldL ?_
 intro lc3_ q3_
 refine B.cons (S.assign (E.call1 (f:=108) (fun P=>rfl) (fun P=>rfl) (E.local (v:= .str x 0) rfl ⟨.str SL 0,fun v hv H _=>f9 (hA'.mono (by decide)) hv,fun H2 e2=>?_⟩)))
 refine W.foldL ?_
 intro lc4_ q4_
 refine B.cons (S.assign (E.binop (E.meth (T:= "str") (id:= "str.rfind") F.plainAttrs_str F.slot_str_rfind (by kernel_rfl) (E.local (v:= .str x 0) rfl ⟨rfl,I.cons (E.local (v:= .str SL 0) rfl (I.nil (M.rfind (E.int (O.addII ?_)))))⟩))))
 rw [mX]
 refine W.foldL ?_
 intro lc5_ q5_
 refine B.cons (S.ret (E.sliceStr (E.local (v:= .str x 0) rfl (.some (E.local (v:= .int (idx x:Int) 0) rfl ⟨_,rfl,.none ⟨x,rfl,hzl,?_⟩⟩)))))
 intro v' hv'
 exact⟨e1.trans e2,hv'⟩
theorem nJ{H:AH}{x:Str}{v:Value}(hA:Ok A 5)(hv:er v= .str x 0)(hz:x.length≤1000000):
 Cd D A (.call (.ref 143) ⟨[v],[]⟩) (fun r H'=>Ext H H'∧r= .str (bI x) 0) H:=by
 obtain⟨t,rfl⟩:=au hv
 have hzl:x.length≤sizeLine:=Nat.le_trans hz (by decide)
 refine Cd.fn (fun P=>rfl) rfl (fun P=>rfl) rfl hA (by decide) (by intro x hx;simp at hx;subst hx;rfl) (fun L hL hA'=>?_)
 refine WB.fold3 ?_
 intro A6_ env6_ Q6_
 refine W.foldL ?_
 intro lc7_ q7_
 refine B.cons (S.assign (E.call1 (f:=94) (fun P=>rfl) (fun P=>rfl) (E.local (v:= .str x 0) rfl ⟨.str x 0,fun v hv H _=>cg (hA'.mono (by decide)) hv,fun H1 e1=>?_⟩)))
 refine W.foldL ?_
 intro lc8_ q8_
 refine B.cons (S.assign (E.call1 (f:=108) (fun P=>rfl) (fun P=>rfl) (E.local (v:= .str x 0) rfl ⟨.str SL 0,fun v hv H _=>f9 (hA'.mono (by decide)) hv,fun H2 e2=>?_⟩)))
 refine W.foldL ?_
 intro lc9_ q9_
 refine B.cons (S.assign (E.binop (E.meth (T:= "str") (id:= "str.rfind") F.plainAttrs_str F.slot_str_rfind (by kernel_rfl) (E.local (v:= .str x 0) rfl ⟨rfl,I.cons (E.local (v:= .str SL 0) rfl (I.nil (M.rfind (E.int (O.addII ?_)))))⟩))))
 rw [mX]
 refine W.foldL ?_
 intro lc10_ q10_
 refine B.cons (S.assign (E.sliceStr (E.local (v:= .str x 0) rfl (.none (.some (E.local (v:= .int (idx x:Int) 0) rfl ⟨_,rfl,x,rfl,hzl,?_⟩))))))
 have hhl:(b4 x none (some (idx x))).length≤x.length:=fm ..
 let I11:St→Prop:=fun σ=>σ.loc "head" =some (.str (bI x) 0)∧Ext H σ.H
 refine W.foldL ?_
 intro lc12_ q12_
 refine B.seq I11 ?_ ?_
 ·refine S.ite (T.boolop (W.andCons (T.value (E.local (v:= .str (b4 x none (some (idx x))) 0) rfl (T.trStr (by exact lC hhl hzl) ?_)))))
  first | split | (dsimp only [gV,bv];split)
  ·rename_i h0
   have h0:=of_decide_eq_true h0
   refine W.andCons (T.compare (E.local (v:= .str (b4 x none (some (idx x))) 0) rfl (E.binop (E.local (v:= .str SL 0) rfl (E.callB (id:= "len") (fun P=>rfl) (by kernel_rfl) (I.cons (E.local (v:= .str (b4 x none (some (idx x))) 0) rfl (I.nil (F.lenStr (by exact lC hhl hzl) ?_)))))))))
   refine O.mulSS (by rw [c9];exact qt hhl hz) (O.neSS ⟨_,rfl,?_⟩) (by exact qr hhl hz)
   show if ((b4 x none (some (idx x))) !=fE (b4 x none (some (idx x))).length)=true then _ else _
   first | split | (dsimp only [gV,bv];split)
   ·rename_i h1
    refine W.andNil ?_
    refine W.foldL ?_
    intro lc13_ q13_
    refine B.cons (S.assign (E.meth (T:= "str") (id:= "str.rstrip") F.plainAttrs_str F.slot_str_rstrip (by kernel_rfl) (E.local (v:= .str (b4 x none (some (idx x))) 0) rfl ⟨rfl,I.cons (E.local (v:= .str SL 0) rfl (I.nil (M.rstrip (by exact lC hhl hzl) ?_)))⟩)))
    refine B.nil ⟨?_,?_⟩
    ·show some _=some _
     unfold bI
     rw [if_pos ⟨h0,by simpa using h1⟩]
    ·exact e1.trans e2
   ·rename_i h1
    show WB _ _ _ _ [] _ _
    refine B.nil ⟨?_,?_⟩
    ·show some _=some _
     unfold bI
     rw [if_neg fun q=>q.2 (by simpa using h1)]
    ·exact e1.trans e2
  ·rename_i h0
   show WB _ _ _ _ [] _ _
   refine B.nil ⟨?_,?_⟩
   ·show some _=some _
    unfold bI
    rw [if_neg fun q=>h0 (by simpa using q.1)]
   ·exact e1.trans e2
 ·rintro σ ⟨g1,g3⟩
  refine W.foldL ?_
  intro lc14_ q14_
  refine B.cons (S.ret (E.local (v:= .str (bI x) 0) g1 ?_))
  intro v' hv'
  exact⟨g3,hv'⟩
noncomputable def EM:Str:=Str.ofString ""
noncomputable def aI(x:Str):Str×Str:=
 if b4 x none (some 1)≠SL then(EM,x)
 else if b4 x (some 1) (some 2)≠SL∨b4 x (some 2) (some 3)=SL then(SL,b4 x (some 1) none)else(b4 x none (some 2),b4 x (some 2) none)
theorem kC{H:AH}{x:Str}{v:Value}(hA:Ok A 5)(hv:er v= .str x 0)(hz:x.length≤1000000):
 Cd D A (.call (.ref 129) ⟨[v],[]⟩) (fun r H'=>Ext H H'∧ ∃ a,r= .ref a∧H a=none∧H' a=some (.tuple [.str EM 0,.str (aI x).1 0,.str (aI x).2 0])) H:=by
 obtain⟨t,rfl⟩:=au hv
 have hzl:x.length≤sizeLine:=Nat.le_trans hz (by decide)
 refine Cd.fn (fun P=>rfl) rfl (fun P=>rfl) rfl hA (by decide) (by intro x hx;simp at hx;subst hx;rfl) (fun L hL hA'=>?_)
 refine WB.fold3 ?_
 intro A15_ env15_ Q15_
 refine W.foldL ?_
 intro lc16_ q16_
 refine B.cons (S.assign (E.call1 (f:=94) (fun P=>rfl) (fun P=>rfl) (E.local (v:= .str x 0) rfl ⟨.str x 0,fun v hv H _=>cg (hA'.mono (by decide)) hv,fun H1 e1=>?_⟩)))
 refine W.foldL ?_
 intro lc17_ q17_
 refine B.cons (S.ite (T.value (E.callB (id:= "isinstance") (fun P=>rfl) (by kernel_rfl) (I.cons (E.local (v:= .str x 0) rfl (I.cons (E.builtin (v:= .type "bytes") (fun P=>rfl) (by kernel_rfl) (I.nil (F.isBytesStr (T.trBool ?_))))))))))
 refine W.foldL ?_
 intro lc18_ q18_
 refine B.cons (S.assign (E.str ?_))
 refine W.foldL ?_
 intro lc19_ q19_
 refine B.cons (S.assign (E.str ?_))
 refine B.nil ?_
 refine W.foldL ?_
 intro lc20_ q20_
 refine B.cons (S.ite (T.compare (E.sliceStr (E.local (v:= .str x 0) rfl (.none (.some (E.int ⟨1,rfl,x,rfl,hzl,E.local (v:= .str SL 0) rfl (O.neSS ⟨_,rfl,?_⟩)⟩)))))))
 first | split | (dsimp only [gV,bv];split)
 ·rename_i h0
  refine W.foldL ?_
  intro lc21_ q21_
  refine B.cons (S.ret (E.tuple (I.cons (E.local (v:= .str EM 0) rfl (I.cons (E.local (v:= .str EM 0) rfl (I.cons (E.local (v:= .str x 0) rfl (I.nil ⟨dR,fun b hb=>?_⟩)))))))))
  intro v' hv'
  refine⟨e1.trans (aa hb),b,hv',az (fun a o e=>e1 a o e) hb,?_⟩
  have:aI x=(EM,x):=if_pos (by simpa using h0)
  rw [this];exact ah ..
 ·rename_i h0
  have h0:¬(b4 x none (some 1)≠SL):=by simpa using h0
  refine W.foldL ?_
  intro lc22_ q22_
  refine B.cons (S.ite (T.boolop (W.orCons (T.compare (E.sliceStr (E.local (v:= .str x 0) rfl (.some (E.int ⟨1,rfl,.some (E.int ⟨2,rfl,x,rfl,hzl,E.local (v:= .str SL 0) rfl (O.neSS ⟨_,rfl,?_⟩)⟩)⟩))))))))
  have one:b4 x (some 1) (some 2)≠SL∨b4 x (some 2) (some 3)=SL→aI x=(SL,b4 x (some 1) none):=fun h=>by unfold aI;rw [if_neg h0,if_pos h]
  have two:¬(b4 x (some 1) (some 2)≠SL∨b4 x (some 2) (some 3)=SL)→aI x=(b4 x none (some 2),b4 x (some 2) none):=fun h=>by unfold aI;rw [if_neg h0,if_neg h]
  first | split | (dsimp only [gV,bv];split)
  ·rename_i h1
   refine W.foldL ?_
   intro lc23_ q23_
   refine B.cons (S.ret (E.tuple (I.cons (E.local (v:= .str EM 0) rfl (I.cons (E.local (v:= .str SL 0) rfl (I.cons (E.sliceStr (E.local (v:= .str x 0) rfl (.some (E.int ⟨1,rfl,.none ⟨x,rfl,hzl,I.nil ⟨dR,fun b hb=>?_⟩⟩⟩)))))))))))
   intro v' hv'
   refine⟨e1.trans (aa hb),b,hv',az (fun a o e=>e1 a o e) hb,?_⟩
   rw [one (.inl (by simpa using h1))];exact ah ..
  ·rename_i h1
   refine W.orCons (T.compare (E.sliceStr (E.local (v:= .str x 0) rfl (.some (E.int ⟨2,rfl,.some (E.int ⟨3,rfl,x,rfl,hzl,E.local (v:= .str SL 0) rfl (O.eqSS ⟨_,rfl,?_⟩)⟩)⟩)))))
   first | split | (dsimp only [gV,bv];split)
   ·rename_i h2
    refine W.foldL ?_
    intro lc24_ q24_
    refine B.cons (S.ret (E.tuple (I.cons (E.local (v:= .str EM 0) rfl (I.cons (E.local (v:= .str SL 0) rfl (I.cons (E.sliceStr (E.local (v:= .str x 0) rfl (.some (E.int ⟨1,rfl,.none ⟨x,rfl,hzl,I.nil ⟨dR,fun b hb=>?_⟩⟩⟩)))))))))))
    intro v' hv'
    refine⟨e1.trans (aa hb),b,hv',az (fun a o e=>e1 a o e) hb,?_⟩
    rw [one (.inr (by simpa using h2))];exact ah ..
   ·rename_i h2
    refine W.orNil ?_
    refine W.foldL ?_
    intro lc25_ q25_
    refine B.cons (S.ret (E.tuple (I.cons (E.local (v:= .str EM 0) rfl (I.cons (E.sliceStr (E.local (v:= .str x 0) rfl (.none (.some (E.int ⟨2,rfl,x,rfl,hzl,I.cons (E.sliceStr (E.local (v:= .str x 0) rfl (.some (E.int ⟨2,rfl,.none ⟨x,rfl,hzl,I.nil ⟨dR,fun b hb=>?_⟩⟩⟩))))⟩))))))))))
    intro v' hv'
    refine⟨e1.trans (aa hb),b,hv',az (fun a o e=>e1 a o e) hb,?_⟩
    rw [two (fun q=>q.elim (fun q=>h1 (by simpa using q)) fun q=>h2 (by simpa using q))];exact ah ..
end Mine
end
section
open PySem PySem.W PyProof.Rows PySem.Calls PySem.SeqAt
namespace Mine
variable {D:Wd}{A:Around}
noncomputable def DOT:Str:=Str.ofString "."
noncomputable def DD:Str:=Str.ofString ".."
noncomputable def b5(acc:List Str)(c:Str):List Str:=if c.length=0∨c=DOT then acc else if c≠DD∨acc.getLast?=some DD then acc++ [c]else acc.dropLast
noncomputable def lP(x:Str):List Str:=(Txt.split (aI x).2 SL).foldl b5 []
noncomputable def jX(x:Str):Str:=(aI x).1++Txt.join SL (lP x)
theorem bc(xs:List Str)(x:Str):ag (xs++ [x])=ag xs++ [.str x 0]:=by simp [ag]
theorem mL(acc:List Str)(c:Str):(b5 acc c).length≤acc.length+1:=by
 unfold b5;split
 ·exact qq
 ·first | split | (dsimp only [gV,bv];split)
  ·simp
  ·simp;exact pk
theorem jL(H:AH)(a:Addr)(x y:AO):upd (upd H a x) a y=upd H a y:=funext fun b=>by
 by_cases q:b=a
 ·rw [q,ah,ah]
 ·rw [af q,af q,af q]
theorem cU:∀ (cs acc:List Str),(cs.foldl b5 acc).length≤acc.length+cs.length
 | [],acc=>by simp
 | c::r,acc=>by have:=cU r (b5 acc c);have:=mL acc c;simp only [List.foldl_cons,List.length_cons];omega
theorem mu{H:AH}{x:Str}{v:Value}(hA:Ok A 7)(hv:er v= .str x 0)(hz:x.length≤1000000)(hz2:(aI x).2.length≤1000000)(h0:x.length≠0)(hr:(aI x).1.length≠0)(hsp:(Txt.split (aI x).2 SL).length≤1000)(hcs:∀ c∈Txt.split (aI x).2 SL,c.length≤1000000)(hj:JoinOk SL (lP x)=true)(hlen:(jX x).length≤sizeLine):
 Cd D A (.call (.ref 150) ⟨[v],[]⟩) (fun r H'=>Ext H H'∧r= .str (jX x) 0) H:=by
 obtain⟨t,rfl⟩:=au hv
 have hzl:x.length≤sizeLine:=Nat.le_trans hz (by decide)
 have hlen':(aI x).1.length+(Txt.join SL (lP x)).length=(jX x).length:=(Str.length_append _ _).symm
 refine Cd.fn (fun P=>rfl) rfl (fun P=>rfl) rfl hA (by decide) (by intro x hx;simp at hx;subst hx;rfl) (fun L hL hA'=>?_)
 refine WB.fold3 ?_
 intro A1_ env1_ Q1_
 refine W.foldL ?_
 intro lc2_ q2_
 refine B.cons (S.assign (E.call1 (f:=94) (fun P=>rfl) (fun P=>rfl) (E.local (v:= .str x 0) rfl ⟨.str x 0,fun v hv H _=>cg (hA'.mono (by decide)) hv,fun H1 e1=>?_⟩)))
 refine W.foldL ?_
 intro lc3_ q3_
 refine B.cons (S.ite (T.value (E.callB (id:= "isinstance") (fun P=>rfl) (by kernel_rfl) (I.cons (E.local (v:= .str x 0) rfl (I.cons (E.builtin (v:= .type "bytes") (fun P=>rfl) (by kernel_rfl) (I.nil (F.isBytesStr (T.trBool ?_))))))))))
 refine W.foldL ?_
 intro lc4_ q4_
 refine B.cons (S.assign (E.str ?_))
 refine W.foldL ?_
 intro lc5_ q5_
 refine B.cons (S.assign (E.str ?_))
 refine W.foldL ?_
 intro lc6_ q6_
 refine B.cons (S.assign (E.str ?_))
 refine B.nil ?_
 refine W.foldL ?_
 intro lc7_ q7_
 refine B.cons (S.ite (T.not (T.value (E.local (v:= .str x 0) rfl (T.trStr hzl ?_)))))
 rw [decide_eq_true h0]
 show WB _ _ _ _ [] _ _
 refine B.nil ?_
 refine W.foldL ?_
 intro lc8_ q8_
 refine B.cons (S.assignTup hA'.hand (E.callFn (f:=129) (fun P=>rfl) (fun P=>rfl) (I.cons (E.local (v:= .str x 0) rfl (I.nil ?_)))))
 intro vs' hvs hLn
 refine d7 hvs fun v1 ev1=>?_
 refine Cd.new hLn (kC (hA'.mono (by decide)) ev1 hz) (fun a H2 e2 ha hH2=>?_)
 refine⟨a,_,rfl,hH2,rfl,?_⟩
 intro w1 hw1
 refine W.assignLocal ?_
 intro w2 hw2
 refine W.assignLocal ?_
 intro w3 hw3
 refine W.assignLocal ?_
 simp only [hw1,hw2,hw3]
 refine W.foldL ?_
 intro lc9_ q9_
 refine B.cons (S.assign (E.meth (T:= "str") (id:= "str.split") F.plainAttrs_str F.slot_str_split (by kernel_rfl) (E.local (v:= .str (aI x).2 0) rfl ⟨rfl,I.cons (E.local (v:= .str SL 0) rfl (I.nil (M.split (by decide) (Nat.le_trans hz2 (by decide)) (Nat.le_trans hsp (by decide)) fun l hl=>?_)))⟩)))
 refine W.foldL ?_
 intro lc10_ q10_
 refine B.cons (S.assign (E.list (I.nil ⟨Nat.zero_le _,fun q hq=>?_⟩)))
 have hq:upd H2 l (.list (ag (Txt.split (aI x).2 SL))) q=none:=hq
 have hlq:l≠q:=fun e=>by rw [e,ah]at hq;cases hq
 let I11:St→Prop:=fun σ=>σ.loc "initial_slashes" =some (.str (aI x).1 0)∧σ.loc "sep" =some (.str SL 0)∧σ.loc "dot" =some (.str DOT 0)∧σ.loc "new_comps" =some (.ref q)∧Ext H σ.H∧σ.H q=some (.list (ag (lP x)))
 refine W.foldL ?_
 intro lc12_ q12_
 refine B.seq I11 ?_ ?_
 ·have inv0:Ext H (upd H2 l (.list (ag (Txt.split (aI x).2 SL)))):=(e1.trans e2).trans (aa hl)
  refine S.forList l (ag (Txt.split (aI x).2 SL)) (fun k σ=>σ.loc "initial_slashes" =some (.str (aI x).1 0)∧σ.loc "sep" =some (.str SL 0)∧σ.loc "dot" =some (.str DOT 0)∧σ.loc "dotdot" =some (.str DD 0)∧σ.loc "new_comps" =some (.ref q)∧(∃ H0,Ext H H0∧H0 l=some (.list (ag (Txt.split (aI x).2 SL)))∧H0 q=none∧ ∃ acc,acc=((Txt.split (aI x).2 SL).take k).foldl b5 []∧σ.H=upd H0 q (.list (ag acc)))) hA'.hand
   (E.local (v:= .ref l) rfl ⟨rfl,rfl,rfl,rfl,rfl,rfl,_,inv0,ah ..,hq,[],by simp,rfl⟩) (fun k σ h=>by refine cr h fun _ _ _ _ _ H0 _ h0 _ _ _ e=>?_;clear h;rw [e,af hlq];exact h0) ?_ ?_
  ·rintro k σ v hk h4_;refine cr h4_ fun g1 g2 g3 g4 g5 H0 x1 x2 x3 acc ea eH=>?_;clear h4_;rintro hv
   rw [ae]at hk
   rw [bR hk]at hv
   generalize hc:(Txt.split (aI x).2 SL)[k]=c at hv
   have next:((Txt.split (aI x).2 SL).take (k+1)).foldl b5 []=b5 acc c:=by
    rw [List.take_succ_eq_append_getElem hk,List.foldl_append,← ea,hc];rfl
   have hal:acc.length≤1000:=by
    have:=cU ((Txt.split (aI x).2 SL).take k) []
    rw [← ea]at this;simp at this;exact tg this hsp
   have hcl:c.length≤sizeLine:=Nat.le_trans (hcs c (hc▸List.getElem_mem hk)) (by decide)
   have hz1000:1000≤sizeLine:=by decide
   obtain⟨loc,Hs⟩:=σ
   dsimp only at g1 g2 g3 g4 g5 eH
   subst eH
   refine W.assignLocal ?_
   rw [hv]
   have stay:b5 acc c=acc→(fun σ:St=>σ.loc "initial_slashes" =some (.str (aI x).1 0)∧σ.loc "sep" =some (.str SL 0)∧σ.loc "dot" =some (.str DOT 0)∧σ.loc "dotdot" =some (.str DD 0)∧σ.loc "new_comps" =some (.ref q)∧
    (∃ H0,Ext H H0∧H0 l=some (.list (ag (Txt.split (aI x).2 SL)))∧H0 q=none∧ ∃ acc,acc=((Txt.split (aI x).2 SL).take (k+1)).foldl b5 []∧σ.H=upd H0 q (.list (ag acc)))) ⟨ca loc "comp" (.str c 0),upd H0 q (.list (ag acc))⟩:=fun e=>
    ⟨g1,g2,g3,g4,g5,H0,x1,x2,x3,acc,by rw [next,e],rfl⟩
   let I13:St→Prop:=fun σ=> ¬(c.length=0∨c=DOT)∧σ=⟨ca loc "comp" (.str c 0),upd H0 q (.list (ag acc))⟩
   refine W.foldL ?_
   intro lc14_ q14_
   refine B.seq I13 ?_ ?_
   ·refine S.iteP (c.length=0∨c=DOT) (T.boolop (W.orCons (T.not (T.value (E.local (v:= .str c 0) rfl (T.trStr hcl ?_)))))) (fun hp=>?_) (fun hp=>B.nil ⟨hp,rfl⟩)
    ·by_cases h:c.length=0
     ·simp [h]
     ·simp only [h,ne_eq,not_false_eq_true,decide_true,Bool.not_true,Bool.false_eq_true,if_false,false_or]
      refine W.orCons (T.compare (E.local (v:= .str c 0) rfl (E.local (v:= .str DOT 0) g3 (O.eqSS ⟨_,rfl,?_⟩))))
      by_cases h2:c=DOT
      ·simp [h2]
      ·simp only [beq_eq_false_iff_ne.mpr h2,Bool.false_eq_true,if_false]
       exact W.orNil ⟨by simp [h2],rfl⟩
    ·exact B.cons (S.cont (stay (if_pos hp)))
   ·rintro _ ⟨hne,rfl⟩
    have hl0:(upd H0 q (.list (ag acc))) q=some (.list (ag acc)):=ah ..
    have hst:(ag acc).length≤sizeLine:=by rw [ae];exact tf hz1000 hal
    have ns:b5 acc c=if c≠DD∨acc.getLast?=some DD then acc++ [c]else acc.dropLast:=if_neg hne
    have new:∀ acc',b5 acc c=acc'→(fun σ:St=>σ.loc "initial_slashes" =some (.str (aI x).1 0)∧σ.loc "sep" =some (.str SL 0)∧σ.loc "dot" =some (.str DOT 0)∧σ.loc "dotdot" =some (.str DD 0)∧σ.loc "new_comps" =some (.ref q)∧
     (∃ H0,Ext H H0∧H0 l=some (.list (ag (Txt.split (aI x).2 SL)))∧H0 q=none∧ ∃ acc,acc=((Txt.split (aI x).2 SL).take (k+1)).foldl b5 []∧σ.H=upd H0 q (.list (ag acc)))) ⟨ca loc "comp" (.str c 0),upd (upd H0 q (.list (ag acc))) q (.list (ag acc'))⟩:=fun acc' e=>
     ⟨g1,g2,g3,g4,g5,H0,x1,x2,x3,acc',by rw [next,e],jL ..⟩
    refine W.foldL ?_
    intro lc15_ q15_
    refine B.cons (S.iteP (c≠DD∨acc.getLast?=some DD) (T.boolop (W.orCons (T.compare (E.local (v:= .str c 0) rfl (E.local (v:= .str DD 0) g4 (O.neSS ⟨_,rfl,?_⟩)))))) (fun hp=>?_) (fun hp=>?_))
    ·by_cases h:c=DD
     ·subst h
      simp only [bne_self_eq_false,Bool.false_eq_true,if_false,ne_eq,not_true_eq_false,false_or]
      refine W.orCons (T.boolop (W.andCons (T.not (T.value (E.local (v:= .str (aI x).1 0) g1 (T.trStr (by exact te hlen' hlen) ?_))))))
      rw [decide_eq_true hr]
      refine W.orCons (T.boolop (W.andCons (T.value (E.local (v:= .ref q) g5 (T.trList hl0 (by rw [ae];exact qp hal) ?_)))))
      rcases List.eq_nil_or_concat acc with e | ⟨ac,z,e⟩
      ·subst e
       exact W.orNil ⟨by simp,rfl⟩
      ·rw [List.concat_eq_append]at e
       subst e
       have hne:(!(ag (ac++ [z])).isEmpty)=true:=by simp [ag]
       rw [hne]
       refine W.andCons (T.compare (E.sub (T:= "list") (id:= "list.__getitem__") (by kernel_rfl) (E.local (v:= .ref q) g5 (E.negInt ⟨⟨_,hl0,rfl⟩,O.itemLast (vs:=ag ac) (x:= .str z 0) (by rw [← bc];exact hl0) (E.local (v:= .str DD 0) g4 (O.eqSS ⟨_,rfl,?_⟩))⟩))))
       by_cases h2:z=DD
       ·simp only [h2,beq_self_eq_true,if_true]
        exact W.andNil ⟨by simp,rfl⟩
       ·simp only [beq_eq_false_iff_ne.mpr h2,Bool.false_eq_true,if_false]
        exact W.orNil ⟨by simp [h2],rfl⟩
     ·simp [h]
    ·refine W.foldL ?_
     intro lc16_ q16_
     refine B.cons (S.expr (E.meth (T:= "list") (id:= "list.append") F.plainAttrs_list F.slot_list_append (by kernel_rfl) (E.local (v:= .ref q) g5 ⟨⟨_,hl0,rfl⟩,I.cons (E.local (v:= .str c 0) rfl (I.nil (M.append hl0 hst ?_)))⟩)))
     refine B.nil (B.nil ?_)
     rw [← bc]
     exact new _ (by rw [ns,if_pos hp])
    ·refine W.foldL ?_
     intro lc17_ q17_
     refine B.cons (S.iteP (acc≠ []) (T.value (E.local (v:= .ref q) g5 (T.trList hl0 (by rw [ae];exact qp hal) ⟨by cases acc<;> simp [ag],rfl⟩))) (fun hq=>?_) (fun hq=>?_))
     ·refine jC ((List.eq_nil_or_concat acc).resolve_left hq) fun ac z e=>?_
      rw [List.concat_eq_append]at e
      refine W.foldL ?_
      intro lc18_ q18_
      refine B.cons (S.expr (E.meth (T:= "list") (id:= "list.pop") F.plainAttrs_list F.slot_list_pop (by kernel_rfl) (E.local (v:= .ref q) g5 ⟨⟨_,hl0,rfl⟩,I.nil (M.popLast (vs:=ag ac) (x:= .str z 0) (by rw [← bc,← e];exact hl0) (by have:=congrArg List.length e;simp at this;rw [ae];exact tc hz1000 this hal) ?_)⟩)))
      refine B.nil (B.nil (B.nil ?_))
      exact new _ (by rw [ns,if_neg hp,e,List.dropLast_concat])
     ·refine B.nil (B.nil (B.nil ?_))
      have e:acc= []:=Classical.not_not.mp hq
      have:=stay (by rw [ns,if_neg hp,e];rfl)
      exact this
  ·rintro σ h1_;refine cr h1_ fun g1 g2 g3 g4 g5 H0 x1 x2 x3 acc ea eH=>?_;clear h1_
   rw [ae,List.take_length]at ea
   refine B.nil ⟨g1,g2,g3,g5,?_,?_⟩
   ·rw [eH];exact x1.trans (aa x3)
   ·rw [eH,ah,ea];rfl
 ·rintro σ h1_;refine aW h1_ fun g1 g2 g3 g4 g5 g6=>?_;clear h1_
  obtain⟨loc,Hs⟩:=σ
  dsimp only at g1 g2 g3 g4 g5 g6
  refine W.foldL ?_
  intro lc19_ q19_
  refine B.cons (S.assign (E.local (v:= .ref q) g4 ?_))
  refine W.foldL ?_
  intro lc20_ q20_
  refine B.cons (S.assign (E.binop (E.local (v:= .str (aI x).1 0) g1 (E.meth (T:= "str") (id:= "str.join") F.plainAttrs_str F.slot_str_join (by kernel_rfl) (E.local (v:= .str SL 0) g2 ⟨rfl,I.cons (E.local (v:= .ref q) rfl (I.nil (M.join g6 hj (O.addSS (by exact ta hlen' hlen) ?_))))⟩)))))
  have hne:(jX x).length≠0:=by exact sZ hlen' hr
  refine W.foldL ?_
  intro lc21_ q21_
  refine B.cons (S.ret (E.or2 (E.local (v:= .str (jX x) 0) rfl (T.trStr hlen ?_))))
  rw [decide_eq_true hne]
  intro v' hv'
  exact⟨g5,hv'⟩
end Mine
end
section
open PySem PySem.W PyProof.Rows PySem.Calls PySem.SeqAt
namespace Mine
variable {D:Wd}{A:Around}
noncomputable def d8(a b:Str):Str:=if Txt.startswith b SL=true∨a.length=0 then b else if Txt.endswith a SL=true then a++b else a++(SL++b)
theorem pf{H:AH}{x y:Str}{v u:Value}(hA:Ok A 7)(hv:er v= .str x 0)(hu:er u= .str y 0)(hz:x.length≤1000000)(hz2:y.length≤1000000):
 Cd D A (.call (.ref 115) ⟨[v,u],[]⟩) (fun r H'=>Ext H H'∧r= .str (d8 x y) 0) H:=by
 obtain⟨t,rfl⟩:=au hv
 have hzl:x.length≤sizeLine:=Nat.le_trans hz (by decide)
 have h2l:2000001≤sizeLine:=by decide
 refine Cd.fnStar (pre:= [("a",.str x t)]) (nm:= "p") (rest:= [u]) (fun P=>rfl) rfl (fun P=>rfl) rfl eg hA (by decide) (by intro t x hx;simp at hx;rcases hx with rfl | rfl<;> rfl) (fun tp L htp hL hA'=>?_)
 have hps:(upd H tp (.tuple [er u])) tp=some (.tuple [er u]):=ah ..
 refine WB.fold3 ?_
 intro A1_ env1_ Q1_
 refine W.foldL ?_
 intro lc2_ q2_
 refine B.cons (S.assign (E.call1 (f:=94) (fun P=>rfl) (fun P=>rfl) (E.local (v:= .str x 0) rfl ⟨.str x 0,fun v hv H _=>cg (hA'.mono (by decide)) hv,fun H1 e1=>?_⟩)))
 refine W.foldL ?_
 intro lc3_ q3_
 refine B.cons (S.assign (E.call1 (f:=108) (fun P=>rfl) (fun P=>rfl) (E.local (v:= .str x 0) rfl ⟨.str SL 0,fun v hv H _=>f9 (hA'.mono (by decide)) hv,fun H2 e2=>?_⟩)))
 refine W.foldL ?_
 intro lc4_ q4_
 refine B.cons (S.assign (E.local (v:= .str x 0) rfl ?_))
 have hp2:H2 tp=some (.tuple [er u]):=e2 _ _ (e1 _ _ hps)
 have eH:Ext H H2:=(aa htp).trans (e1.trans e2)
 let I5:St→Prop:=fun σ=>σ.loc "path" =some (.str (d8 x y) 0)∧Ext H σ.H
 refine W.foldL ?_
 intro lc6_ q6_
 refine B.seq I5 ?_ ?_
 ·let I7:St→Prop:=fun σ=>σ.loc "path" =some (.str (d8 x y) 0)∧Ext H σ.H
  refine S.tryOk (B.seq I7 ?_ fun σ h=>B.nil (B.nil h))
  let I8:Nat→St→Prop:=fun k σ=>Ext H σ.H∧σ.H tp=some (.tuple [er u])∧(k=0→σ.loc "path" =some (.str x 0)∧σ.loc "sep" =some (.str SL 0))∧(k=1→σ.loc "path" =some (.str (d8 x y) 0))
  refine S.forTuple tp [er u] I8 hA'.hand
   (E.local (v:= .ref tp) rfl ⟨rfl,eH,hp2,fun _=>⟨rfl,rfl⟩,fun h=>by cases h⟩) (fun k σ h=>h.2.1) ?_ ?_
  ·rintro k ⟨loc,Hs⟩ v hk h4_;refine cL h4_ fun g1 g2 g3 _=>?_;clear h4_;rintro hv
   obtain rfl:k=0:=by simp at hk;exact hk
   obtain⟨g3,g4⟩:=g3 rfl
   dsimp only at g1 g2 g3 g4
   have hv:er v= .str y 0:=hv.trans hu
   refine W.assignLocal ?_
   rw [hv]
   refine W.foldL ?_
   intro lc9_ q9_
   refine B.cons (S.assign (E.call1 (f:=94) (fun P=>rfl) (fun P=>rfl) (E.local (v:= .str y 0) rfl ⟨.str y 0,fun v hv H _=>cg (hA'.mono (by decide)) hv,fun H3 e3=>?_⟩)))
   have fin:∀ (m:Str→Option Value),m "path" =some (.str (d8 x y) 0)→(fun σ:St=>Ext H σ.H∧σ.H tp=some (.tuple [er u])∧(0+1=0→σ.loc "path" =some (.str x 0)∧σ.loc "sep" =some (.str SL 0))∧(0+1=1→σ.loc "path" =some (.str (d8 x y) 0))) ⟨m,H3⟩:=fun m hm=>
    ⟨g1.trans e3,e3 _ _ g2,fun h=>by exact(sY h).elim,fun _=>hm⟩
   refine W.foldL ?_
   intro lc10_ q10_
   refine B.cons (S.iteP (Txt.startswith y SL=true∨x.length=0) (T.boolop (W.orCons (T.value (E.meth (T:= "str") (id:= "str.startswith") F.plainAttrs_str F.slot_str_startswith (by kernel_rfl) (E.local (v:= .str y 0) rfl ⟨rfl,I.cons (E.local (v:= .str SL 0) g4 (I.nil (M.startswith (T.trBool ?_))))⟩))))) (fun hp=>?_) (fun hp=>?_))
   ·by_cases h:Txt.startswith y SL=true
    ·simp [h]
    ·simp only [h,Bool.false_eq_true,if_false,false_or]
     refine W.orCons (T.not (T.value (E.local (v:= .str x 0) g3 (T.trStr hzl ?_))))
     by_cases h2:x.length=0
     ·simp [h2]
     ·simp only [h2,ne_eq,not_false_eq_true,decide_true,Bool.not_true,Bool.false_eq_true,if_false]
      exact W.orNil ⟨by simp [h2],rfl⟩
   ·refine W.foldL ?_
    intro lc11_ q11_
    refine B.cons (S.assign (E.local (v:= .str y 0) rfl (B.nil (B.nil (fin _ ?_)))))
    show some _=some _
    unfold d8;rw [if_pos hp]
   ·refine W.foldL ?_
    intro lc12_ q12_
    refine B.cons (S.iteP (Txt.endswith x SL=true) (T.value (E.meth (T:= "str") (id:= "str.endswith") F.plainAttrs_str F.slot_str_endswith (by kernel_rfl) (E.local (v:= .str x 0) g3 ⟨rfl,I.cons (E.local (v:= .str SL 0) g4 (I.nil (M.endswith (T.trBool ⟨by simp,rfl⟩))))⟩))) (fun hq=>?_) (fun hq=>?_))
    ·refine W.foldL ?_
     intro lc13_ q13_
     refine B.cons (S.augName (a:= .str x 0) g3 (E.local (v:= .str y 0) rfl (O.iaddSS (by exact sX h2l hz hz2) (B.nil (B.nil (B.nil (fin _ ?_)))))))
     show some _=some _
     unfold d8;rw [if_neg hp,if_pos hq]
    ·refine W.foldL ?_
     intro lc14_ q14_
     refine B.cons (S.augName (a:= .str x 0) g3 (E.binop (E.local (v:= .str SL 0) g4 (E.local (v:= .str y 0) rfl (O.addSS (by rw [c9];exact sW h2l hz2) (O.iaddSS (by rw [Str.length_append,c9];exact sV h2l hz hz2) (B.nil (B.nil (B.nil (fin _ ?_))))))))))
     show some _=some _
     unfold d8;rw [if_neg hp,if_neg hq]
  ·rintro σ h1_;refine cL h1_ fun g1 g2 _ g4=>?_;clear h1_
   exact B.nil ⟨g4 rfl,g1⟩
 ·rintro σ ⟨g1,g2⟩
  refine W.foldL ?_
  intro lc15_ q15_
  refine B.cons (S.ret (E.local (v:= .str (d8 x y) 0) g1 ?_))
  intro v' hv'
  exact⟨g2,hv'⟩
end Mine
end
section
open PySem PySem.W PyProof.Rows PySem.Calls PySem.SeqAt
namespace Mine
variable {D:Wd}{A:Around}
noncomputable def ap(n:Nat):List UInt8:=if h:n=0 then []else ap (n/16)++ [UInt8.ofNat (65+n%16)]
termination_by n
decreasing_by exact qz h
theorem bX:ap 0= []:=by unfold ap;simp
theorem fe{n:Nat}(h:n≠0):ap n=ap (n/16)++ [UInt8.ofNat (65+n%16)]:=by rw [ap,dif_neg h]
theorem nM:∀ (k n:Nat),n<16 ^ k→(ap n).length≤k
 | 0,n,h=>by have:n=0:=by simpa using h
             rw [this,bX];exact Nat.le_refl _
 | k+1,n,h=>by
  by_cases q:n=0
  ·rw [q,bX];exact Nat.zero_le _
  ·rw [fe q,List.length_append]
   have:=nM k (n/16) (by rw [Nat.pow_succ]at h;exact qy h)
   simp;exact pn this
noncomputable def APL:List UInt8:= [65,66,67,68,69,70,71,72,73,74,75,76,77,78,79,80]
theorem nB:∀ r:Nat,r<16→cut APL (some r) (some (r+1))= [UInt8.ofNat (65+r)]:=by decide
theorem iW{H:AH}{n:Int}{v:Value}(hA:Ok A 5)(hv:er v= .int n 0)(hn:n.natAbs<16 ^ 40):
 Cd D A (.call (.ref 282) ⟨[v],[]⟩) (fun r H'=>Ext H H'∧r= .bytes (ap n.natAbs).toArray 0) H:=by
 obtain⟨t,rfl⟩:=aB hv
 refine Cd.fn (fun P=>rfl) rfl (fun P=>rfl) rfl hA (by decide) (by intro x hx;simp at hx;subst hx;rfl) (fun L hL hA'=>?_)
 have hlen:=nM 40 _ hn
 refine WB.fold3 ?_
 intro A1_ env1_ Q1_
 refine W.foldL ?_
 intro lc2_ q2_
 refine B.cons (S.assign (E.bytes ?_))
 refine W.foldL ?_
 intro lc3_ q3_
 refine B.cons (S.assign (E.bytes ?_))
 refine W.foldL ?_
 intro lc4_ q4_
 refine B.cons (S.assign (E.callT (T:= "int") (fun P=>rfl) (by kernel_rfl) (I.cons (E.callB (id:= "abs") (fun P=>rfl) (by kernel_rfl) (I.cons (E.local (v:= .int n 0) rfl (I.nil (F.absInt (I.nil (F.intInt ?_))))))))))
 let I5:St→Prop:=fun σ=>σ.loc "val" =some (.bytes (ap n.natAbs).toArray 0)∧Ext H σ.H
 refine W.foldL ?_
 intro lc6_ q6_
 refine B.seq I5 ?_ ?_
 ·let I7:Nat→St→Prop:=fun k σ=> ∃ v:List UInt8,σ.loc "num" =some (.int (k:Nat) 0)∧σ.loc "val" =some (.bytes v.toArray 0)∧σ.loc "AP" =some (.bytes APL.toArray 0)∧ap k++v=ap n.natAbs∧Ext H σ.H
  refine S.while_ I7 n.natAbs ⟨[],rfl,rfl,rfl,by simp,Ext.refl _⟩ ?_
  rintro k ⟨loc,Hs⟩ h2_;refine d6 h2_ fun v g1 g2 g3 g4 g5=>?_;clear h2_
  dsimp only at g1 g2 g3 g5
  refine T.value (E.local (v:= .int (k:Nat) 0) g1 (T.trInt ?_))
  by_cases hk:k=0
  ·subst hk
   rw [bX,List.nil_append]at g4
   exact B.nil ⟨by rw [← g4];exact g2,g5⟩
  ·have:decide ((k:Int)≠0)=true:=by simp [hk]
   rw [this]
   rw [fe hk,List.append_assoc]at g4
   have hvl:v.length≤40:=by have:=congrArg List.length g4;simp at this;exact tB this hlen
   refine W.foldL ?_
   intro lc8_ q8_
   refine B.cons (S.assignTup hA'.hand (E.callB (id:= "divmod") (fun P=>rfl) (by kernel_rfl) (I.cons (E.local (v:= .int (k:Nat) 0) g1 (I.cons (E.int (I.nil (F.divmod (by decide) (PyProof.noPylong_of_log2 (by decide+kernel)) fun a ha=>?_))))))))
   refine⟨a,_,rfl,ah ..,rfl,?_⟩
   intro w1 hw1
   refine W.assignLocal ?_
   intro w2 hw2
   refine W.assignLocal ?_
   simp only [hw1,hw2]
   have e1:(k:Int).fdiv 16=((k/16:Nat):Int):=by
    rw [Int.fdiv_eq_ediv_of_nonneg _ (by decide)];rfl
   have e2:(k:Int).fmod 16=((k%16:Nat):Int):=by
    rw [Int.fmod_eq_emod_of_nonneg _ (by decide)];rfl
   rw [e1,e2]
   have hr:k%16<16:=Nat.mod_lt _ (by decide)
   refine W.foldL ?_
   intro lc9_ q9_
   refine B.cons (S.assign (E.binop (E.sliceBytes (E.local (v:= .bytes APL.toArray 0) g3 (.some (E.local (v:= .int ((k%16:Nat):Int) 0) rfl ⟨k%16,rfl,.some (E.binop (E.local (v:= .int ((k%16:Nat):Int) 0) rfl (E.int (O.addII ⟨k%16+1,rfl,APL,rfl,by decide,E.local (v:= .bytes v.toArray 0) g2 (O.addBB ?_ ?_)⟩))))⟩))))))
   ·rw [nB _ hr];simp;exact tA hvl
   ·refine B.nil ⟨k/16,by exact qz hk,_,rfl,rfl,g3,?_,g5.trans (aa ha)⟩
    rw [nB _ hr];exact g4
 ·rintro σ ⟨g1,g2⟩
  refine W.foldL ?_
  intro lc10_ q10_
  refine B.cons (S.ret (E.local (v:= .bytes (ap n.natAbs).toArray 0) g1 ?_))
  intro v' hv'
  exact⟨g2,hv'⟩
noncomputable def NM:List Str:= [Str.ofString "N",Str.ofString "NA",Str.ofString "NAB",Str.ofString "NB",Str.ofString "NBA",Str.ofString "NBB",Str.ofString "O",Str.ofString "OA"]
theorem le8:8≤sizeLine:=by decide
theorem kE{H:AH}(hA:Ok A 3):Cd D A (.call (.ref 289) ⟨[],[]⟩) (fun r H'=>Ext H H'∧ ∃ a,r= .ref a∧H a=none∧H' a=some (.list (ag NM))) H:=by
 refine Cd.fn (fun P=>rfl) rfl (fun P=>rfl) rfl hA (by decide) (by intro x hx;simp at hx) (fun L hL hA'=>?_)
 refine WB.fold3 ?_
 intro A11_ env11_ Q11_
 refine W.foldL ?_
 intro lc12_ q12_
 refine B.cons ?_
 refine S.ret ?_
 refine E.list ?_
 refine I.cons (E.str ?_)
 refine I.cons (E.str ?_)
 refine I.cons (E.str ?_)
 refine I.cons (E.str ?_)
 refine I.cons (E.str ?_)
 refine I.cons (E.str ?_)
 refine I.cons (E.str ?_)
 refine I.cons (E.str ?_)
 refine I.nil ⟨le8,fun a ha=>?_⟩
 intro v' hv'
 refine⟨aa ha,a,hv',ha,?_⟩
 exact ah ..
end Mine
end
section
open PySem PySem.W PyProof.Rows PySem.Calls PySem.SeqAt
namespace Mine
variable {D:Wd}{A:Around}
noncomputable def d9(g:Str→Str):List (Str×Value):=NM.map fun x=>(x,.str (g x) 0)
theorem lf{β:Type}(f:Str→β)(x:Str):∀ (l:List Str),x∈l→(l.map fun y=>(y,f y)).find? (fun p=>decide (p.1=x))=some (x,f x)
 | [],h=>nomatch h
 | y::r,h=>by
  rw [List.map_cons,List.find?_cons]
  by_cases e:y=x
  ·subst e;simp
  ·simp only [e,decide_false]
   exact lf f x r ((List.mem_cons.mp h).resolve_left fun q=>e q.symm)
theorem dF(f:Str→Value)(l:List Str){x:Str}(h:x∈l):valueAt (l.map fun y=>(y,f y)) x=some (f x):=by
 unfold valueAt
 rw [lf f x l h];rfl
theorem jc{g:Str→Str}{x:Str}(h:x∈NM):valueAt (d9 g) x=some (.str (g x) 0):=dF _ NM h
noncomputable def dQ(g:Str→Str):Nat→List Str→List Str
 | 0,row=>row
 | n+1,row=>if g (row.getLastD default)∈row then row else dQ g n (row++ [g (row.getLastD default)])
noncomputable def aQ(g:Str→Str)(one:Str):List Str:=dQ g 8 [one]
theorem kQ{α:Type} [DecidableEq α] {l m:List α}(hn:l.Nodup)(hs:∀ x∈l,x∈m):l.length≤m.length:=by
 induction l generalizing m with
 | nil=>exact Nat.zero_le _
 | cons x r ih=>
  rw [List.nodup_cons]at hn
  have h1:x∈m:=hs x (.head _)
  have h2:=ih (m:=m.erase x) hn.2 fun y hy=>(List.mem_erase_of_ne (fun e:y=x=>hn.1 (by rw [← e];exact hy))).mpr (hs y (.tail _ hy))
  rw [List.length_erase_of_mem h1]at h2
  have:=List.length_pos_of_mem h1
  simp only [List.length_cons];exact tH this h2
theorem aq{n:Nat}(h:n≤1000):n≤sizeLine:=Nat.le_trans h (by decide)
theorem ie:NM.length=8:=rfl
theorem E.goes{D:Wd}{A:Around}{L:Addr}{σ:St}{env:Env}{e i:Expr}{pos:Pos}{Q:Value→St→Prop}
 (h:WE D A L (eval e env) (fun o σ₁=> ∃ d,o= .ref d∧WE D A L (eval i env) (fun v σ₂=> ∃ x g ep,v= .str x 0∧x∈NM∧σ₂.H d=some (.dict (d9 g) ep)∧Q (.str (g x) 0) σ₂) σ₁) σ)
 (hsl:∀ o j,subscripted i false o j=operate [o,j] (getItem o j):=by intro _ _;rfl):WE D A L (eval (.Subscript e i pos) env) Q σ:=
 E.sub (T:= "dict") (id:= "dict.__getitem__") (by kernel_rfl) (W.mono h fun o σ₁=>ar fun d eo h₁=>W.mono h₁ fun v σ₂=>fS fun x g ep ev hx hd q=>by
  rw [eo,ev]
  exact⟨⟨_,hd,rfl⟩,O.itemDict hd (jc hx) q⟩) hsl
theorem E.last{D:Wd}{A:Around}{L:Addr}{σ:St}{env:Env}{e:Expr}{k:Nat}{p p2 pos:Pos}{Q:Value→St→Prop}
 (h:WE D A L (eval e env) (fun o σ₁=> ∃ l r x,o= .ref l∧σ₁.H l=some (.list (ag (r++ [x])))∧Q (.str x 0) σ₁) σ):WE D A L (eval (.Subscript e (.UnaryOp .USub (.Constant (.int 1) k p) p2) pos) env) Q σ:=
 E.sub (T:= "list") (id:= "list.__getitem__") (by kernel_rfl) (W.mono h fun o σ₁=>lm fun l r x eo hl q=>E.negInt (by
  rw [eo]
  rw [bc]at hl
  exact⟨⟨_,hl,rfl⟩,O.itemLast hl q⟩)) (by intro _ _;rfl)
theorem pd{H:AH}{d:Addr}{ep:Nat}{g:Str→Str}{one:Str}{v u:Value}(hA:Ok A 5)(hv:er v= .ref d)(hu:er u= .str one 0)(hd:H d=some (.dict (d9 g) ep))(hg:∀ x∈NM,g x∈NM)(ho:one∈NM):
 Cd D A (.call (.ref 315) ⟨[v,u],[]⟩) (fun r H'=>Ext H H'∧ ∃ a,r= .ref a∧H a=none∧H' a=some (.list (ag (aQ g one)))) H:=by
 obtain rfl:=al hv
 obtain⟨t,rfl⟩:=au hu
 refine Cd.fn (fun P=>rfl) rfl (fun P=>rfl) rfl hA (by decide) (locs rfl) (fun L hL hA'=>?_)
 refine WB.fold3 ?_
 intro A1_ env1_ Q1_
 refine W.foldL ?_
 intro lc2_ q2_
 refine B.cons (S.assign (E.list (I.cons (E.local (v:= .str one 0) rfl (I.nil ⟨eg,fun a ha=>?_⟩)))))
 have had:a≠d:=fun e=>by rw [e]at ha;exact nomatch ha.symm.trans hd
 let I3:St→Prop:=fun σ=>σ.loc "row" =some (.ref a)∧ ∃ H0,Ext H H0∧H0 a=none∧σ.H=upd H0 a (.list (ag (aQ g one)))
 refine W.foldL ?_
 intro lc4_ q4_
 refine B.seq I3 ?_ ?_
 ·let I5:Nat→St→Prop:=fun k σ=>σ.loc "row" =some (.ref a)∧σ.loc "goes" =some (.ref d)∧ ∃ (r:List Str) (z:Str),(r++ [z]).Nodup∧(∀ x∈r++ [z],x∈NM)∧r.length+k=8∧dQ g k (r++ [z])=aQ g one∧σ.H=upd H a (.list (ag (r++ [z])))
  refine S.while_ I5 8
   ⟨rfl,rfl,[],one,by simp,by simpa using ho,rfl,rfl,rfl⟩ ?_
  rintro k ⟨loc,Hs⟩ h2_;refine k7 h2_ fun g1 g2 r z hn hs hk hw eH=>?_;clear h2_
  dsimp only at g1 g2 eH
  subst eH
  have hla:(upd H a (.list (ag (r++ [z])))) a=some (.list (ag (r++ [z]))):=ah ..
  have hld:(upd H a (.list (ag (r++ [z])))) d=some (.dict (d9 g) ep):=by rw [af had.symm];exact hd
  have hz:z∈NM:=hs z (by simp)
  have hlen:=kQ hn hs
  rw [ie,List.length_append,List.length_singleton]at hlen
  have hsz:(ag (r++ [z])).length≤sizeLine:=by rw [ae,List.length_append,List.length_singleton];exact aq (by exact tG hlen)
  obtain⟨k,rfl⟩:∃ j,k=j+1:=⟨k-1,by exact tF hlen hk⟩
  have hlast:(r++ [z]).getLastD default=z:=by simp
  refine T.compare (E.goes (E.local (v:= .ref d) g2 ⟨_,rfl,E.last (E.local (v:= .ref a) g1 ⟨_,_,_,rfl,hla,z,g,ep,rfl,hz,hld,E.local (v:= .ref a) g1 (O.notInStrs hla ⟨_,rfl,?_⟩)⟩)⟩))
  rw [dQ,hlast]at hw
  by_cases hin:g z∈r++ [z]
  ·rw [decide_eq_false (fun q=>q hin)]
   rw [if_pos hin]at hw
   show WB _ _ _ _ [] _ _
   exact B.nil ⟨g1,H,Ext.refl _,ha,by rw [← hw]⟩
  ·rw [decide_eq_true hin]
   rw [if_neg hin]at hw
   refine W.foldL ?_
   intro lc6_ q6_
   refine B.cons (S.expr (E.meth (T:= "list") (id:= "list.append") F.plainAttrs_list F.slot_list_append (by kernel_rfl) (E.local (v:= .ref a) g1 ⟨⟨_,hla,rfl⟩,I.cons (E.goes (E.local (v:= .ref d) g2 ⟨_,rfl,E.last (E.local (v:= .ref a) g1 ⟨_,_,_,rfl,hla,z,g,ep,rfl,hz,hld,I.nil (M.append hla hsz ?_)⟩)⟩))⟩)))
   refine B.nil ⟨k,Nat.lt_succ_self _,g1,g2,r++ [z],g z,?_,?_,by simp;exact q0 hk,hw,?_⟩
   ·rw [List.nodup_append]
    exact⟨hn,by simp,fun x hx y hy e=>by simp at hy;subst hy;exact hin (e▸hx)⟩
   ·intro x hx
    rcases List.mem_append.mp hx with q | q
    ·exact hs x q
    ·simp at q;rw [q];exact hg z hz
   ·show upd _ _ _=_
    rw [← bc,jL]
 ·rintro⟨loc,Hs⟩ h1_;refine iO h1_ fun g1 H0 x1 x2 eH=>?_;clear h1_
  dsimp only at g1 eH
  subst eH
  refine W.foldL ?_
  intro lc7_ q7_
  refine B.cons (S.ret (E.local (v:= .ref a) g1 ?_))
  intro v' hv'
  exact⟨x1.trans (aa x2),a,hv',az (fun b o e=>x1 b o e) x2,ah ..⟩
end Mine
end
section
open PySem PySem.W PyProof.Rows PySem.Calls PySem.SeqAt
namespace Mine
variable {D:Wd}{A:Around}
theorem gJ(g:Str→Str):∀ (n:Nat) (row:List Str),row≠ []→dQ g n row≠ []
 | 0,row,h=>h
 | n+1,row,h=>by
  unfold dQ
  first | split | (dsimp only [gV,bv];split)
  ·exact h
  ·exact gJ g n _ (by simp)
noncomputable def bU(l:List Str):Str:=l.getLastD default
theorem eI(g:Str→Str)(one:Str):∃ r,aQ g one=r++ [bU (aQ g one)]:=by
 have h:aQ g one≠ []:=gJ g 8 [one] (by simp)
 refine⟨(aQ g one).dropLast,?_⟩
 unfold bU
 have e:(aQ g one).getLastD default=(aQ g one).getLast h:=by rw [List.getLastD_eq_getLast?,List.getLast?_eq_some_getLast h];rfl
 rw [e,List.dropLast_concat_getLast h]
theorem fA{g:Str→Str}(hg:∀ x∈NM,g x∈NM):∀ (n:Nat) (row:List Str),row≠ []→(∀ x∈row,x∈NM)→ ∀ x∈dQ g n row,x∈NM
 | 0,row,_,h=>h
 | n+1,row,h0,h=>by
  unfold dQ
  first | split | (dsimp only [gV,bv];split)
  ·exact h
  ·refine fA hg n _ (by simp) fun x hx=>?_
   rcases List.mem_append.mp hx with q | q
   ·exact h x q
   ·rw [List.mem_singleton.mp q]
    refine hg _ (h _ ?_)
    rw [List.getLastD_eq_getLast?,List.getLast?_eq_some_getLast h0];exact List.getLast_mem h0
theorem eO{g:Str→Str}(hg:∀ x∈NM,g x∈NM){one:Str}(h:one∈NM):bU (aQ g one)∈NM:=by
 obtain⟨r,e⟩:=eI g one
 have hm:bU (aQ g one)∈r++ [bU (aQ g one)]:=by simp
 rw [← e]at hm
 exact fA hg 8 [one] (by simp) (by simpa using h) _ hm
noncomputable def am(g:Str→Str):List Str:=NM.filter fun one=>decide (g (bU (aQ g one))=one)
theorem cP(p:Str→Bool)(xs:List Str):((iy xs.length fun k=>p (xs.getD k default)).map fun k=>Value.str (xs.getD k default) 0)=ag (xs.filter p):=by
 unfold iy
 have:∀ (n:Nat),n≤xs.length→(((List.range n).filter fun k=>p (xs.getD k default)).map fun k=>Value.str (xs.getD k default) 0)=ag ((xs.take n).filter p):=by
  intro n
  induction n with
  | zero=>intro _;simp [ag]
  | succ n ih=>
   intro h
   rw [List.range_succ,List.filter_append,List.map_append,ih (by exact zq8 h),List.take_succ_eq_append_getElem (by exact nU h),List.filter_append]
   have e:xs.getD n default=xs[n]:=by simp [List.getD,List.getElem?_eq_getElem (show n<xs.length by exact nU h)]
   have:ag (List.filter p (xs.take n)++List.filter p [xs[n]])=ag (List.filter p (xs.take n))++ag (List.filter p [xs[n]]):=by simp [ag]
   rw [this]
   congr 1
   cases hp:p xs[n]<;> simp [ag,hp,e,List.filter_cons,h]
   all_goals (have:xs[n]?=some xs[n]:=List.getElem?_eq_getElem (by exact nU h)
              simp [this,hp])
 rw [this _ (Nat.le_refl _),List.take_length]
theorem bH{α β:Type}{f:α→β}:∀ {l:List α} {m:List β},Paired (fun a b=>b=f a) l m→m=l.map f
 | _,_,.nil=>rfl
 | _,_,.cons h r=>by rw [List.map_cons,← bH r,h]
theorem ax{xs:List Str}{k:Nat}(h:k<xs.length):(ag xs).getD k .none= .str (xs.getD k default) 0:=by
 rw [bR h];simp [List.getD,List.getElem?_eq_getElem h]
theorem aF{xs:List Str}{k:Nat}(h:k<xs.length):xs.getD k default∈xs:=by
 simp [List.getD,List.getElem?_eq_getElem h]
theorem E.compFilter{D:Wd}{A:Around}{L:Addr}{σ:St}{env:Env}{y:Str}{py p2:Pos}{iter test:Expr}{scope:Scope}{cl:List (Str×Addr)}{pos:Pos}{Q:Value→St→Prop}(hh:A.handled=Option.none)
 (hclos:closureFor scope env=Pure.pure cl)
 (h:WE D A L (eval iter env) (fun x σ₁=> ∃ l xs,x= .ref l∧σ₁.H l=some (.list (ag xs))∧xs.length≤1000∧ ∃ p:Str→Bool,
  (∀ C k m H',k<xs.length→H' C=Option.none→Ext (upd σ₁.H L (.ns σ₁.loc)) H'→WT D A C (compEnvC scope cl C env) test (fun ok σ₃=>ok=p (xs.getD k default)∧σ₃.loc y=some (.str (xs.getD k default) 0)∧Ext H' σ₃.H) ⟨ca m y (.str (xs.getD k default) 0),H'⟩)∧
  ∀ a H',Ext σ₁.H H'→σ₁.H a=Option.none→H' a=some (.list (ag (xs.filter p)))→Q (.ref a) ⟨σ₁.loc,H'⟩) σ)
 (hl:∀ C,(compEnvC scope cl C env).kindOf y=some .local:=by intro _;rfl) (hkf:∀ C,(compEnvC scope cl C env).scope.kind= .function:=by intro _;rfl) (hdb:(y==("__debug__" :Str))=false:=by decide)
 (hcell:∀ y∈scope.names,y.2≠ .cell:=by decide) (hkind:scope.kind= .function:=by rfl) (hnames:∀ x∈scope.names,x.2= .local→scope.names.lookup x.1=some .local:=by decide)
 (hs:∀ x,foldedSetIterable iter env x=Pure.pure x:=by intro _;rfl):
 WE D A L (eval (.ListComp (.Name y p2) [⟨.Name y py,iter,[test],0⟩] scope pos) env) Q σ:=by
 refine E.listComp hclos ?_ hcell hkind hnames hs
 refine It.list hh ?_
 refine W.mono h ?_
 rintro x σ₁ h2_;refine d5 h2_ fun l xs ex hl1 hz p turn fin=>?_;clear h2_
 refine⟨l,ag xs,ex,hl1,?_⟩
 rw [ae]
 refine⟨aq hz,fun k=>p (xs.getD k default),fun k v _=>v= .str (xs.getD k default) 0,fun k v H H' q _=>q,?_,?_⟩
 ·intro C k m H' hk hC hext
  show ∀ v,er v=_→_
  intro v hv
  rw [ax hk]at hv
  refine W.assignLocal (L:=C) (env:=compEnvC scope cl C env) ?_ rfl (hkf C) (hl C)
  rw [hv]
  refine W.testsOne ?_
  refine W.mono (turn C k m H' hk hC hext) ?_
  rintro ok σ₃ h2_;refine aE h2_ fun e1 e2 e3=>?_;clear h2_
  refine⟨e1,?_⟩
  cases ok with
  | false=>exact e3
  | true=>exact E.local (L:=C) (env:=compEnvC scope cl C env) (v:= .str (xs.getD k default) 0) (Q:=fun y σ₄=>Ext H' σ₄.H∧y= .str (xs.getD k default) 0) e2 ⟨e3,rfl⟩ rfl (hkf C) (hl C) hdb
 ·intro a H' ys hext ha hys hp
  have:=bH (f:=fun k=>Value.str (xs.getD k default) 0) hp
  rw [cP]at this
  exact fin a H' hext ha (by rw [hys,this])
theorem oI{H:AH}{d:Addr}{ep:Nat}{g:Str→Str}{v:Value}(hA:Ok A 9)(hv:er v= .ref d)(hd:H d=some (.dict (d9 g) ep))(hg:∀ x∈NM,g x∈NM):
 Cd D A (.call (.ref 320) ⟨[v],[]⟩) (fun r H'=>Ext H H'∧ ∃ a,r= .ref a∧H a=none∧H' a=some (.list (ag (am g)))) H:=by
 obtain rfl:=al hv
 refine Cd.fnC (fun P=>rfl) rfl (fun P=>rfl) rfl hA rfl (fun k x hx=>?_) (by decide) (fun L hL hA'=>?_)
 ·simp at hx;subst hx;exact .inr ⟨rfl,rfl⟩
 have hdl:d≠L:=fun e=>by rw [e,hL _ (Nat.le_refl _)]at hd;cases hd
 have hdL:H (L+1)=none:=hL _ (Nat.le_succ _)
 show W _ _ _ _ _ ⟨_,upd H (L+1) (.cell (some (.ref d)))⟩
 refine WB.fold3 ?_
 intro A1_ env1_ Q1_
 refine W.foldL ?_
 intro lc2_ q2_
 refine B.cons ?_
 refine S.ret ?_
 refine E.compFilter (cl:= [("goes",L+1)]) hA'.hand rfl (E.callFn (f:=289) (fun P=>rfl) (fun P=>rfl) (I.nil ?_))
 intro vs' hvs hLn
 obtain rfl:=map_nil hvs
 refine Cd.new hLn (kE (hA'.mono (by decide))) (fun a H1 e1 ha hH1=>?_)
 have hc1:H1 (L+1)=some (.cell (some (.ref d))):=e1 _ _ (ah ..)
 have hd1:H1 d=some (.dict (d9 g) ep):=e1 _ _ (aa hdL _ _ hd)
 refine⟨a,NM,rfl,hH1,by decide,fun one=>decide (g (bU (aQ g one))=one),?_,?_⟩
 ·intro C k m H2 hk hC e2
  have hn:NM.getD k default∈NM:=aF hk
  generalize NM.getD k default=one at hn
  obtain⟨r,er⟩:=eI g one
  have hc2:H2 (L+1)=some (.cell (some (.ref d))):=e2 _ _ ((af (Nat.succ_ne_self L)).trans hc1)
  have hd2:H2 d=some (.dict (d9 g) ep):=e2 _ _ ((af hdl).trans hd1)
  refine T.compare (E.goes (E.cell (v:= .ref d) rfl hc2 ⟨_,rfl,E.last (E.callFn (f:=315) (fun P=>rfl) (fun P=>rfl) (I.cons (E.cell (v:= .ref d) rfl hc2 (I.cons (E.local (v:= .str one 0) rfl (I.nil ?_))))))⟩))
  intro vs' hvs hCn
  refine eA hvs fun v1 ev1 v2 ev2=>?_
  refine Cd.new hCn (pd (hA'.mono (by decide)) ev1 ev2 (aa hCn _ _ hd2) hg hn) (fun w H3 e3 hw hH3=>?_)
  rw [er]at hH3
  refine⟨_,_,_,rfl,hH3,bU (aQ g one),g,ep,rfl,eO hg hn,e3 _ _ hd2,?_⟩
  refine E.local (v:= .str one 0) rfl (O.eqSS ⟨_,rfl,?_⟩)
  exact⟨by rw [Bool.eq_iff_iff];simp,rfl,e3⟩
 ·intro b H2 e2 hb hH2
  intro v' hv'
  have eH:Ext H H2:=((aa hdL).trans e1).trans e2
  exact⟨eH,b,hv',az (fun a o e=>((aa hdL).trans e1) a o e) hb,hH2⟩
end Mine
end
section
open PySem PySem.W PyProof.Rows PySem.Calls PySem.SeqAt
namespace Mine
variable {D:Wd}{A:Around}
theorem mQ{α β:Type} [Inhabited α] (f:α→β)(xs:List α):((iy xs.length fun _=>true).map fun k=>f (xs.getD k default))=xs.map f:=by
 unfold iy
 rw [List.filter_eq_self.mpr (fun _ _=>rfl)]
 apply List.ext_getElem
 ·simp
 ·intro i h1 h2
  simp at h1
  simp [List.getD,List.getElem?_eq_getElem h1]
theorem E.compMap{D:Wd}{A:Around}{L:Addr}{σ:St}{env:Env}{y:Str}{py:Pos}{iter elt:Expr}{scope:Scope}{cl:List (Str×Addr)}{pos:Pos}{Q:Value→St→Prop}(hh:A.handled=Option.none)
 (hclos:closureFor scope env=Pure.pure cl)
 (h:WE D A L (eval iter env) (fun x σ₁=> ∃ l xs,x= .ref l∧σ₁.H l=some (.list (ag xs))∧xs.length≤1000∧ ∃ f:Str→Value,
  (∀ C k m H',k<xs.length→H' C=Option.none→Ext (upd σ₁.H L (.ns σ₁.loc)) H'→WE D A C (eval elt (compEnvC scope cl C env)) (fun v σ₃=>v=f (xs.getD k default)∧Ext H' σ₃.H) ⟨ca m y (.str (xs.getD k default) 0),H'⟩)∧
  ∀ a H',Ext σ₁.H H'→σ₁.H a=Option.none→H' a=some (.list (xs.map f))→Q (.ref a) ⟨σ₁.loc,H'⟩) σ)
 (hl:∀ C,(compEnvC scope cl C env).kindOf y=some .local:=by intro _;rfl) (hkf:∀ C,(compEnvC scope cl C env).scope.kind= .function:=by intro _;rfl)
 (hcell:∀ y∈scope.names,y.2≠ .cell:=by decide) (hkind:scope.kind= .function:=by rfl) (hnames:∀ x∈scope.names,x.2= .local→scope.names.lookup x.1=some .local:=by decide)
 (hs:∀ x,foldedSetIterable iter env x=Pure.pure x:=by intro _;rfl):
 WE D A L (eval (.ListComp elt [⟨.Name y py,iter,[],0⟩] scope pos) env) Q σ:=by
 refine E.listComp hclos ?_ hcell hkind hnames hs
 refine It.list hh ?_
 refine W.mono h ?_
 rintro x σ₁ h2_;refine d5 h2_ fun l xs ex hl1 hz f turn fin=>?_;clear h2_
 refine⟨l,ag xs,ex,hl1,?_⟩
 rw [ae]
 refine⟨aq hz,fun _=>true,fun k v _=>v=f (xs.getD k default),fun k v H H' q _=>q,?_,?_⟩
 ·intro C k m H' hk hC hext
  show ∀ v,er v=_→_
  intro v hv
  rw [ax hk]at hv
  refine W.assignLocal (L:=C) (env:=compEnvC scope cl C env) ?_ rfl (hkf C) (hl C)
  rw [hv]
  refine W.testsNil ?_
  refine⟨rfl,?_⟩
  show WE D A C _ (fun y σ₄=>Ext H' σ₄.H∧y=f (xs.getD k default)) _
  exact W.mono (turn C k m H' hk hC hext) fun v σ₃=>gD fun e1 e2=>⟨e2,e1⟩
 ·intro a H' ys hext ha hys hp
  have:=bH (f:=fun k=>f (xs.getD k default)) hp
  rw [mQ]at this
  exact fin a H' hext ha (by rw [hys,this])
noncomputable def aS(g:Str→Str)(R:List Str):Nat→Str→List Str→List Str×Str
 | 0,one,ch=>(ch,one)
 | n+1,one,ch=>if one∈R then(ch,one)else aS g R n (g one) (one::ch)
noncomputable def aG(g:Str→Str)(R:List Str)(one:Str):List Str×Str:=aS g R 8 one []
noncomputable def cC(g:Str→Str)(R:List Str)(one:Str):List Str:=(R.map g).take ((R.map g).idxOf (aG g R one).2+1)++(aG g R one).1
noncomputable def bt(g:Str→Str)(R:List Str)(one:Str):Str:=SL++Txt.join SL (cC g R one)
theorem eW{g:Str→Str}(hg:∀ x∈NM,g x∈NM){R:List Str}:∀ (n:Nat) (one:Str) (ch:List Str),one∈NM→(∀ x∈ch,x∈NM)→(∀ x∈(aS g R n one ch).1,x∈NM)∧(aS g R n one ch).2∈NM∧(aS g R n one ch).1.length≤ch.length+n
 | 0,one,ch,h,hc=>⟨hc,h,Nat.le_refl _⟩
 | n+1,one,ch,h,hc=>by
  unfold aS
  first | split | (dsimp only [gV,bv];split)
  ·exact⟨hc,h,by simp⟩
  ·have:=eW hg (R:=R) n (g one) (one::ch) (hg one h) (fun x hx=>by
    rcases List.mem_cons.mp hx with q | q
    ·rw [q];exact h
    ·exact hc x q)
   exact⟨this.1,this.2.1,by have:=this.2.2;simp at this;exact ql this⟩
theorem eF:∀ x∈NM,x.length≤3:=by decide
theorem jx{xs:List Str}(hx:∀ x∈xs,x.length≤1000)(hn:xs.length≤1000):JoinOk SL xs=true:=by
 unfold JoinOk Builtin.Str.tooLong
 have:∀ (l:List Str) (a:Nat),(∀ x∈l,x.length≤1000)→l.foldl (fun a x=>a+x.length+SL.length) a≤a+1001*l.length:=by
  intro l
  induction l with
  | nil=>intro a _;simp
  | cons x r ih=>
   intro a h
   have h1:=h x (.head _)
   have h2:=ih (a+x.length+SL.length) fun y hy=>h y (.tail _ hy)
   rw [c9]at *
   simp only [List.foldl_cons,List.length_cons];exact s4 h2 h1
 have h:=this xs 0 hx
 have hs:1001000≤sizeLine:=by decide
 simp only [List.size_toArray,List.foldl_toArray']
 simp
 exact sy hs h hn
theorem oy{xs:List Str}(hx:∀ x∈xs,x.length≤1000)(hn:xs.length≤100):(Txt.join SL xs).length≤100100:=by
 have h:=StrLaws.join_length_le SL xs
 have h2:(xs.map (·.length)).sum≤1000*xs.length:=by
  clear h hn
  induction xs with
  | nil=>simp
  | cons x r ih=>have:=ih (fun y hy=>hx y (.tail _ hy));have:=hx x (.head _);simp only [List.map_cons,List.sum_cons,List.length_cons];omega
 rw [c9]at h
 have h3:Txt.join SL xs=Str.join SL xs:=StrLaws.glued_eq_join _ _
 rw [h3];exact sx h h2 hn
theorem gY{l:List Str}{x:Str}(h:x∈l):l[l.idxOf x]?=some x∧ ∀ m,m<l.idxOf x→l[m]?≠some x:=by
 have hlt:=List.idxOf_lt_length_of_mem h
 refine⟨by rw [List.getElem?_eq_getElem hlt,List.getElem_idxOf],fun m hm q=>?_⟩
 have hml:m<l.length:=by exact rv hm hlt
 rw [List.getElem?_eq_getElem hml]at q
 have:=List.not_of_lt_findIdx (p:=(·==x)) (xs:=l) (i:=m) hm
 rw [Option.some.inj q]at this
 simp at this
theorem qZ{H:AH}{d l:Addr}{ep:Nat}{g:Str→Str}{R:List Str}{one:Str}{v u w:Value}(hA:Ok A 9)(hv:er v= .ref d)(hu:er u= .ref l)(hw:er w= .str one 0)(hd:H d=some (.dict (d9 g) ep))(hl:H l=some (.list (ag R)))(hg:∀ x∈NM,g x∈NM)
 (hR:∀ x∈R,x∈NM) (hRn:R.length≤8) (ho:one∈NM) (hreach:(aG g R one).2∈R) (hin:(aG g R one).2∈R.map g):
 Cd D A (.call (.ref 325) ⟨[v,u,w],[]⟩) (fun r H'=>Ext H H'∧ ∃ a,r= .ref a∧H a=none∧H' a=some (.tuple [.str (bt g R one) 0,.str (aG g R one).2 0])) H:=by
 obtain rfl:=al hv
 obtain rfl:=al hu
 obtain⟨t,rfl⟩:=au hw
 refine Cd.fnC (fun P=>rfl) rfl (fun P=>rfl) rfl hA rfl (fun k x hx=>?_) (by decide) (fun L hL hA'=>?_)
 ·simp at hx
  rcases hx with⟨_,_,rfl⟩ | ⟨_,_,rfl⟩ | ⟨_,_,rfl⟩
  ·exact .inr ⟨rfl,rfl⟩
  ·exact .inl rfl
  ·exact .inl rfl
 have hdl:d≠L:=fun e=>by rw [e,hL _ (Nat.le_refl _)]at hd;cases hd
 have hll:l≠L:=fun e=>by rw [e,hL _ (Nat.le_refl _)]at hl;cases hl
 have hdL:H (L+1)=none:=hL _ (Nat.le_succ _)
 show W _ _ _ _ _ ⟨_,upd H (L+1) (.cell (some (.ref d)))⟩
 have c0:(upd H (L+1) (.cell (some (.ref d)))) (L+1)=some (.cell (some (.ref d))):=ah ..
 have d0:(upd H (L+1) (.cell (some (.ref d)))) d=some (.dict (d9 g) ep):=aa hdL _ _ hd
 have l0:(upd H (L+1) (.cell (some (.ref d)))) l=some (.list (ag R)):=aa hdL _ _ hl
 refine WB.fold3 ?_
 intro A1_ env1_ Q1_
 refine W.foldL ?_
 intro lc2_ q2_
 refine B.cons (S.assignSwap hA'.hand (names:= ["spine","chain"]) rfl ?_)
 refine E.tuple (I.cons (E.compMap (cl:= [("goes",L+1)]) hA'.hand rfl (E.local (v:= .ref l) rfl ⟨l,R,rfl,l0,by exact iY hRn,fun x=> .str (g x) 0,?_,?_⟩)))
 ·intro C k m H2 hk hC e2
  have hn:R.getD k default∈NM:=hR _ (aF hk)
  generalize R.getD k default=x at hn
  have c2:=e2 _ _ ((af (Nat.succ_ne_self L)).trans c0)
  have d2:=e2 _ _ ((af hdl).trans d0)
  exact E.goes (E.cell (v:= .ref d) rfl c2 ⟨_,rfl,E.local (v:= .str x 0) rfl ⟨x,g,ep,rfl,hn,d2,rfl,Ext.refl _⟩⟩)
 intro sp H1 e1 hsp hH1
 refine I.cons (E.list (I.nil ⟨Nat.zero_le _,fun ch hch=>?_⟩))
 refine I.nil ⟨bZ,fun tp htp=>?_⟩
 refine⟨tp,_,rfl,ah ..,rfl,?_⟩
 intro w1 hw1
 refine W.bindLocal ?_
 intro w2 hw2
 refine W.bindLocal ?_
 simp only [hw1,hw2]
 have hsp':R.map (fun x=>Value.str (g x) 0)=ag (R.map g):=by simp [ag,Function.comp_def]
 rw [hsp']at hH1
 have e3:Ext H1 (upd (upd H1 ch (.list [])) tp (.tuple [.ref sp,.ref ch])):=(aa hch).trans (aa htp)
 have e13:=e1.trans e3
 have spch:sp≠ch:=fun e=>by rw [← e]at hch;exact nomatch hch.symm.trans hH1
 refine W.foldL ?_
 intro lc3_ q3_
 refine B.seq (fun σ=>σ.loc "one" =some (.str (aG g R one).2 0)∧σ.loc "spine" =some (.ref sp)∧Ext H σ.H∧σ.H sp=some (.list (ag (R.map g)))∧ ∃ q,σ.loc "chain" =some (.ref q)∧σ.H q=some (.list (ag (aG g R one).1))) ?_ ?_
 ·let I4:Nat→St→Prop:=fun k σ=>σ.loc "ringed" =some (.ref l)∧σ.loc "spine" =some (.ref sp)∧Ext (upd H (L+1) (.cell (some (.ref d)))) σ.H∧σ.H sp=some (.list (ag (R.map g)))∧ ∃ q x ch,σ.loc "one" =some (.str x 0)∧σ.loc "chain" =some (.ref q)∧σ.H q=some (.list (ag ch))∧x∈NM∧ch.length+k=8∧aS g R k x ch=aG g R one
  refine S.while_ I4 8
   ⟨rfl,rfl,e13,e3 _ _ hH1,ch,one,[],rfl,rfl,aa htp _ _ (ah ..),ho,rfl,rfl⟩ ?_
  rintro k ⟨loc,Hs⟩ h2_;refine gi h2_ fun g1 g2 x1 x2 q x cs g3 g4 x3 hx hk hw=>?_;clear h2_
  dsimp only at g1 g2 g3 g4 x1 x2 x3
  refine T.compare (E.local (v:= .str x 0) g3 (E.local (v:= .ref l) g1 (O.notInStrs (x1 _ _ l0) ⟨_,rfl,?_⟩)))
  by_cases hin:x∈R
  ·rw [decide_eq_false (fun q=>q hin)]
   show WB _ _ _ _ [] _ _
   have hw':aG g R one=(cs,x):=by
    rw [← hw]
    cases k with
    | zero=>rfl
    | succ k=>rw [aS,if_pos hin]
   rw [hw']
   exact B.nil ⟨g3,g2,(aa hdL).trans x1,x2,q,g4,x3⟩
  ·rw [decide_eq_true hin]
   obtain⟨k,rfl⟩:∃ j,k=j+1:=by
    cases k with
    | zero=>rw [aS]at hw;rw [← hw]at hreach;exact absurd hreach hin
    | succ k=>exact⟨k,rfl⟩
   rw [aS,if_neg hin]at hw
   refine W.foldL ?_
   intro lc5_ q5_
   refine B.cons (S.assign (E.binop (E.list (I.cons (E.local (v:= .str x 0) g3 (I.nil ⟨eg,fun b hb=>?_⟩))))))
   have y3:(upd Hs b (.list [Value.str x 0])) q=some (.list (ag cs)):=aa hb _ _ x3
   refine E.local (v:= .ref q) g4 (O.addLists (vs:= [.str x 0]) (ws:=ag cs) (ah ..) y3 (by rw [ae];exact aq (by simp;exact sw hk)) fun q2 hq2=>?_)
   have e4:Ext Hs (upd (upd Hs b (.list [Value.str x 0])) q2 (.list ([Value.str x 0]++ag cs))):=(aa hb).trans (aa hq2)
   have c4:=e4 _ _ (x1 _ _ c0)
   have d4:=e4 _ _ (x1 _ _ d0)
   refine W.foldL ?_
   intro lc6_ q6_
   refine B.cons (S.assign (E.goes (E.cell (v:= .ref d) rfl c4 ⟨_,rfl,E.local (v:= .str x 0) g3 ⟨x,g,ep,rfl,hx,d4,?_⟩⟩)))
   refine B.nil ⟨k,Nat.lt_succ_self _,g1,g2,x1.trans e4,e4 _ _ x2,q2,g x,x::cs,rfl,rfl,ah ..,hg x hx,by simp;exact q0 hk,hw⟩
 ·rintro⟨loc,Hs⟩ h1_;refine n8 h1_ fun g1 g2 x1 x2 q g3 x3=>?_;clear h1_
  dsimp only at g1 g2 g3 x1 x2 x3
  obtain⟨hmem,hmem2,hclen⟩:=eW hg (R:=R) 8 one [] ho (fun _ h=>nomatch h)
  have hmem:∀ x∈(aG g R one).1,x∈NM:=hmem
  have hclen:(aG g R one).1.length≤8:=Nat.le_trans hclen (by simp)
  obtain⟨j1,j2⟩:=gY hin
  have hilt:=List.idxOf_lt_length_of_mem hin
  rw [List.length_map]at hilt
  refine W.foldL ?_
  intro lc7_ q7_
  refine B.cons ?_
  refine S.ret ?_
  refine E.tuple ?_
  refine I.cons ?_
  have hroad:∀ x∈cC g R one,x∈NM:=fun x hx=>by
   rcases List.mem_append.mp hx with h | h
   ·refine ai (List.mem_map.mp (List.mem_of_mem_take h)) fun y hy h2_=>?_;obtain rfl:=h2_
    exact hg y (hR y hy)
   ·exact hmem x h
  have hshort:∀ x∈cC g R one,x.length≤1000:=fun x hx=>Nat.le_trans (eF x (hroad x hx)) (by decide)
  have hrl:(cC g R one).length≤16:=by
   unfold cC
   rw [List.length_append]
   have:=List.length_take_le ((R.map g).idxOf (aG g R one).2+1) (R.map g)
   have:(R.map g).length=R.length:=List.length_map ..
   omega
  refine E.binop ?_
  refine E.str ?_
  refine E.meth (T:= "str") (id:= "str.join") F.plainAttrs_str F.slot_str_join (by kernel_rfl) ?_
  refine E.str ⟨rfl,?_⟩
  refine I.cons ?_
  refine E.binop ?_
  have stop:(R.map g).idxOf (aG g R one).2+1≤(R.map g).length:=by rw [List.length_map];exact q7 hilt
  refine E.sliceList (E.local (v:= .ref sp) g2 (.none (.some (E.binop (E.meth (T:= "list") (id:= "list.index") F.plainAttrs_list F.slot_list_index (by kernel_rfl) (E.local (v:= .ref sp) g2 ⟨⟨_,x2,rfl⟩,I.cons (E.local (v:= .str (aG g R one).2 0) g1 (I.nil (M.indexStrs x2 j1 j2 (by rw [List.length_map];exact m0 hRn) (E.int (O.addII ?_)))))⟩))))))
  refine⟨(R.map g).idxOf (aG g R one).2+1,rfl,sp,_,rfl,x2,by rw [ae];exact aq (by rw [List.length_map];exact iY hRn),Nat.zero_le _,by rw [ae];exact stop,Nat.zero_le _,fun c hc=>?_⟩
  have hcut:cut (ag (R.map g)) none (some ((R.map g).idxOf (aG g R one).2+1))=ag ((R.map g).take ((R.map g).idxOf (aG g R one).2+1)):=by
   unfold cut ag;simp [List.map_take]
  have x3':=aa (o:= .list (cut (ag (R.map g)) none (some ((R.map g).idxOf (aG g R one).2+1)))) hc _ _ x3
  refine E.local (v:= .ref q) g3 (O.addLists (ah ..) x3' (by rw [hcut,ae,ae];exact aq (by
   have:=List.length_take_le ((R.map g).idxOf (aG g R one).2+1) (R.map g)
   have:(R.map g).length=R.length:=List.length_map ..
   omega)) fun c2 hc2=>?_)
  refine I.nil ?_
  rw [hcut]
  refine M.join (xs:=cC g R one) (by unfold cC;rw [← bk];exact ah ..) (jx hshort (by exact ps hrl)) ?_
  refine O.addSS (Nat.le_trans (Nat.add_le_add (Nat.le_of_eq c9) (oy hshort (by exact sv hrl))) (by decide)) ?_
  have e5:=(aa (o:= .list (ag ((R.map g).take ((R.map g).idxOf (aG g R one).2+1)))) (by rw [← hcut]at *;exact hc)).trans (aa (o:= .list (ag ((R.map g).take ((R.map g).idxOf (aG g R one).2+1))++ag (aG g R one).1)) (by rw [hcut]at hc2;exact hc2))
  refine I.cons (E.local (v:= .str (aG g R one).2 0) g1 (I.nil ⟨bZ,fun b hb=>?_⟩))
  intro v' hv'
  exact⟨(x1.trans e5).trans (aa hb),b,hv',az (fun a o e=>(x1.trans e5) a o e) hb,ah ..⟩
end Mine
end
section
open PySem PySem.W PyProof.Rows PySem.Calls PySem.SeqAt
namespace Mine
variable {D:Wd}{A:Around}
noncomputable def b9(g:Str→Str)(one:Str):Str:=g (bU (aQ g one))
noncomputable def fH(g:Str→Str)(one:Str):List Str:=(aQ g one).drop ((aQ g one).idxOf (b9 g one))++ [b9 g one]
theorem dP(g:Str→Str):∀ (n:Nat) (row:List Str),(dQ g n row).length≤row.length+n
 | 0,row=>Nat.le_refl _
 | n+1,row=>by
  unfold dQ
  first | split | (dsimp only [gV,bv];split)
  ·exact s6
  ·have:=dP g n (row++ [g (row.getLastD default)])
   simp at this ⊢;exact ql this
theorem rc{H:AH}{d:Addr}{ep:Nat}{g:Str→Str}{one:Str}{v u:Value}(hA:Ok A 9)(hv:er v= .ref d)(hu:er u= .str one 0)(hd:H d=some (.dict (d9 g) ep))(hg:∀ x∈NM,g x∈NM)(ho:one∈NM)
 (hb:b9 g one∈aQ g one):
 Cd D A (.call (.ref 332) ⟨[v,u],[]⟩) (fun r H'=>Ext H H'∧ ∃ a,r= .ref a∧H a=none∧H' a=some (.list (ag (fH g one)))) H:=by
 obtain rfl:=al hv
 obtain⟨t,rfl⟩:=au hu
 refine Cd.fn (fun P=>rfl) rfl (fun P=>rfl) rfl hA (by decide) (locs rfl) (fun L hL hA'=>?_)
 refine WB.fold3 ?_
 intro A1_ env1_ Q1_
 refine W.foldL ?_
 intro lc2_ q2_
 refine B.cons (S.assign (E.callFn (f:=315) (fun P=>rfl) (fun P=>rfl) (I.cons (E.local (v:= .ref d) rfl (I.cons (E.local (v:= .str one 0) rfl (I.nil ?_)))))))
 intro vs' hvs hLn
 refine eA hvs fun v1 ev1 v2 ev2=>?_
 refine Cd.new hLn (pd (hA'.mono (by decide)) ev1 ev2 (aa hLn _ _ hd) hg ho) (fun a H1 e1 ha hH1=>?_)
 have hd1:=e1 _ _ hd
 obtain⟨r,er⟩:=eI g one
 refine W.foldL ?_
 intro lc3_ q3_
 refine B.cons (S.assign (E.goes (E.local (v:= .ref d) rfl ⟨_,rfl,E.last (E.local (v:= .ref a) rfl ⟨a,r,bU (aQ g one),rfl,by rw [← er];exact hH1,bU (aQ g one),g,ep,rfl,eO hg ho,hd1,?_⟩)⟩)))
 obtain⟨j1,j2⟩:=gY hb
 have hlt:=List.idxOf_lt_length_of_mem hb
 have hwl:(aQ g one).length≤9:=by have:=dP g 8 [one];exact Nat.le_trans this (by simp)
 refine W.foldL ?_
 intro lc4_ q4_
 refine B.cons ?_
 refine S.ret ?_
 refine E.binop ?_
 refine E.sliceList (E.local (v:= .ref a) rfl (.some (E.meth (T:= "list") (id:= "list.index") F.plainAttrs_list F.slot_list_index (by kernel_rfl) (E.local (v:= .ref a) rfl ⟨⟨_,hH1,rfl⟩,I.cons (E.local (v:= .str (b9 g one) 0) rfl (I.nil (M.indexStrs hH1 j1 j2 (by exact s5 hwl) ⟨_,rfl,?_⟩)))⟩))))
 refine .none ⟨a,_,rfl,hH1,by rw [ae];exact aq (by exact pp hwl),by rw [ae];exact Nat.le_of_lt hlt,Nat.le_refl _,by rw [ae];exact Nat.le_of_lt hlt,fun c hc=>?_⟩
 have hcut:cut (ag (aQ g one)) (some ((aQ g one).idxOf (b9 g one))) none=ag ((aQ g one).drop ((aQ g one).idxOf (b9 g one))):=by
  unfold cut ag;rw [List.map_drop];simp [List.take_of_length_le]
 rw [hcut]
 refine E.list (I.cons (E.local (v:= .str (b9 g one) 0) rfl (I.nil ⟨eg,fun b hb=>?_⟩)))
 have hc1:=aa (o:= .list [Value.str (b9 g one) 0]) hb c _ (ah ..)
 refine O.addLists hc1 (ah ..) (by rw [ae];exact aq (by simp;exact q6 hwl)) fun q hq=>?_
 intro v' hv'
 have e5:Ext H1 (upd (upd H1 c (.list (ag ((aQ g one).drop ((aQ g one).idxOf (b9 g one)))))) b (.list [Value.str (b9 g one) 0])):=(aa hc).trans (aa hb)
 exact⟨(e1.trans e5).trans (aa hq),q,hv',az (fun a o e=>(e1.trans e5) a o e) hq,by
  show upd _ _ _ _=_
  rw [ah];unfold fH ag;simp⟩
end Mine
end
section
open PySem PySem.W PyProof.Rows PySem.Calls PySem.SeqAt
namespace Mine
theorem bV:entryFor table "proto.contains_iter" =some Builtin.«proto.contains_iter» :=entryFor_of_tree (by kernel_rfl)
theorem cb:typeLookup (.type "dict_values") "__contains__" =Pure.pure Option.none:=by rw [typeLookup_type,builtinLookup_eq_fast];kernel_rfl
theorem iS{w:World}{A:Around}{it d:Addr}{ep:Nat}{kvs:List (Str×Value)}{x:Str}{t:Tok}(hh:A.handled=Option.none)(hne:it≠d)(hs:∀ p∈kvs,∃ y u,p.2= .str y u){R:Result→Shared→Prop}:
 ∀ (n i:Nat) (s:Shared),i+n=kvs.length→s.heap.DictAt (PySem.strKind PR w) d kvs ep→s.heap.IsValIter it d i kvs.length ep→
  (∀ h',(∀ b o,b≠it→s.heap.get? b=some o→h'.get? b=some o)→R (.ok (.ret (.bool ((kvs.drop i).any fun p=>decide (er p.2= .str x 0))))) { s with heap:=h'})→
  codeAny (model PR w) A (.builtin "proto.contains_iter" ⟨[.ref it,.str x t],[]⟩) R s:=by
 intro n
 induction n with
 | zero=>
  intro i s hi hm hit hR
  refine codeAny_builtin bV ?_
  unfold Builtin.«proto.contains_iter»
  refine wpAny_bind (wpAny_pyNext_values_end (A:=A.in1) hh hit hm (List.getElem?_eq_none (by exact vS hi)) fun h' hk=>?_)
  refine wpAny_bind (wpAny_rule (wpAny_pure ?_))
  have:=hR h' fun b o hb e=>hk b o hb e
  rw [List.drop_eq_nil_of_le (by exact vS hi)]at this
  exact this
 | succ n ih=>
  intro i s hi hm hit hR
  have hlt:i<kvs.length:=by exact wU hi
  refine codeAny_builtin bV ?_
  unfold Builtin.«proto.contains_iter»
  refine jC (hs kvs[i] (List.getElem_mem hlt)) fun y u hy=>?_
  refine wpAny_bind (wpAny_pyNext_values_item hit hm (k:=kvs[i].1) (v:=kvs[i].2) (List.getElem?_eq_getElem hlt) fun h' hit' hsb=>?_)
  rw [hy]
  refine wpAny_bind (EqAt.str_str y u x t PR w _ _ ?_)
  have hdrop:kvs.drop i=kvs[i]::kvs.drop (i+1):=List.drop_eq_getElem_cons hlt
  rw [hdrop,List.any_cons,hy]at hR
  have he:decide (er (Value.str y u)=Value.str x 0)=(y==x):=by
   rw [Bool.eq_iff_iff];simp [er]
  rw [he]at hR
  cases hq:y==x with
  | true=>
   rw [hq,Bool.true_or]at hR
   exact wpAny_bind (wpAny_rule (wpAny_pure (hR h' fun b o hb e=>(hsb.2 b hb).trans e)))
  | false=>
   rw [hq,Bool.false_or]at hR
   refine wpAny_pure ⟨Code.quiet_builtin _ (by decide+kernel),?_⟩
   refine ih (i+1) { s with heap:=h'} (by exact wT hi) (hm.extBut hsb.extBut hne.symm) hit' fun h'' hk=>?_
   exact hR h'' fun b o hb e=>hk b o hb ((hsb.2 b hb).trans e)
section
variable {D:Wd}{A:Around}{L:Addr}{σ:St}{Q:Value→St→Prop}{v d:Addr}{es:List (Str×Value)}{ep:Nat}{x:Str}
theorem O.notInValues(hh:A.handled=Option.none)(hd:σ.H d=some (.dict es ep))(hv:σ.H v=some (.raw (cA d)))(hs:∀ p∈es,∃ y,p.2= .str y 0)(h:Q (.bool (decide (Value.str x 0∉es.map (·.2)))) σ):
 W2 D A L (compareOp .NotIn) (.str x 0) (.ref v) Q σ:=fun va vb ea eb Φ s R=>by
 obtain⟨t,rfl⟩:=au ea;rw [al eb]
 refine ai (R.dictAt hd) fun kvs hm ekv=>?_
 refine ai (R.obj hv) fun o ho eo=>?_
 have eo:o=cA d:=eo
 subst eo
 have hT:s.TypeIs (.ref v) "dict_values" :=⟨_,ho,rfl⟩
 show wpAny _ _ (do return Value.bool (!(← contains (.ref v) (.str x t)))) _ _ s
 refine wpAny_bind ?_
 unfold contains
 refine wpAny_holding ?_
 rw [stdlibNamesSay?_ref]
 refine wpAny_bind (wpAny_specialOf hT cb ?_)
 show wpAny _ _ (if ((Option.none:Option Value)==some Value.none)=true then _ else _) _ _ s
 rw [if_neg (by decide)]
 refine wpAny_bind (wpAny_callSpecialUnlessNone?_none hT cb ?_)
 refine wpAny_bind (wpAny_rule ?_)
 refine wpAny_bind (wpAny_tryCatch (wpAny_pyIter_values ⟨_,ho,rfl,rfl⟩ hm ?_))
 have hlt:d<s.heap.objs.size:=hm.lt_size
 have R₁:Rel D L Φ σ { s with heap:=s.heap.push { cls:= .type "dict_valueiterator",data:= .fields #[.ref d,.int 0 0,.int kvs.length 0,.int ep 0]},toks:=s.toks}:=R.ext fun b o e=>Heap.get?_push_of_some _ e
 refine wpAny_bind (wpAny_runValue (iS (kvs:=kvs) hh (Nat.ne_of_gt hlt) (fun p hp=>?_) kvs.length 0 _ (by exact wS) (hm.push _) ⟨_,Heap.get?_push_size _ rfl,rfl,rfl⟩ fun h' hk=>?_))
 ·obtain⟨y,hy⟩:=hs (p.1,er p.2) (by rw [← ekv];exact List.mem_map.mpr ⟨p,hp,rfl⟩)
  obtain⟨u,hu⟩:=au hy
  exact⟨y,u,hu⟩
 ·refine wpAny_pure (wpAny_pure ?_)
  have hid:Hid Φ (upd σ.H L (.ns σ.loc)) [s.heap.objs.size]:=R.push0.fresh1 (Nat.le_refl _)
  have R₂:=Rel.pop0 (R₁.push0.hid (t:=s.toks) hid fun b o hb e=>hk b o (fun q=>hb (List.mem_singleton.mpr q)) e) (L:=L) (ah ..)
  rw [bf R.HL]at R₂
  refine bJ R₂ h ?_
  show Value.bool _=Value.bool _
  rw [Value.bool.injEq,List.drop_zero,Bool.eq_iff_iff,← ekv]
  simp
end
end Mine
end
section
open PySem PySem.W PyProof.Rows PySem.Calls PySem.SeqAt
namespace Mine
variable {D:Wd}{A:Around}
noncomputable def aN(g:Str→Str)(order gone:List Str):List Str→List Str
 | []=> []
 | x::r=>if x∉r∧ ∀ one∈order,g one=x→one∈gone then x::aN g order gone r else aN g order gone r
noncomputable def aL(g:Str→Str)(order:List Str):Nat→List Str→List Str→List (List Str)
 | 0,_,_=> []
 | n+1,group,gone=>if group= []then []else group::aL g order n (aN g order (gone++group) (group.map g)) (gone++group)
noncomputable def fC(g:Str→Str)(order:List Str):Nat→List Str→List Str→Prop
 | 0,group,_=>group= []
 | n+1,group,gone=>group= []∨fC g order n (aN g order (gone++group) (group.map g)) (gone++group)
noncomputable def leaves(g:Str→Str)(order:List Str):List Str:=order.filter fun one=>decide (one∉NM.map g)
noncomputable def aC(g:Str→Str)(order:List Str):List (List Str):=aL g order 9 (leaves g order) []
theorem jt(g:Str→Str)(order gone:List Str):∀ due:List Str,(aN g order gone due).length≤due.length
 | []=>Nat.le_refl _
 | x::r=>by
  have:=jt g order gone r
  unfold aN
  split<;> simp <;> (first | exact pn this | exact pw this)
theorem fM(g:Str→Str)(order gone:List Str):∀ due:List Str,∀ x∈aN g order gone due,x∈due
 | [],x,h=>h
 | y::r,x,h=>by
  unfold aN at h
  split at h
  ·rcases List.mem_cons.mp h with q | q
   ·rw [q];exact .head _
   ·exact .tail _ (fM g order gone r x q)
  ·exact .tail _ (fM g order gone r x h)
theorem aT(L:Nat){m n:Nat}(h:m≠n):L+m≠L+n:=fun e=>h (Nat.add_left_cancel e)
theorem dO(L:Nat){m:Nat}(h:m≠0):L+m≠L:=fun e=>h (Nat.add_left_cancel (n:=L) (k:=0) e)
theorem W.hl{D:Wd}{A:Around}{L:Addr}{α:Type}{σ:St}{t:Sem α}{Q:α→St→Prop}(h:σ.H L=Option.none→W D A L t Q σ):W D A L t Q σ:=fun F s R=>h R.HL F s R
theorem S.assignFilter{D:Wd}{A:Around}{L:Addr}{σ:St}{env:Env}{y x:Str}{py p2 px spos:Pos}{iter test:Expr}{scope:Scope}{cl:List (Str×Addr)}{pos:Pos}{Q:Flow→St→Prop}(hh:A.handled=Option.none)
 (hclos:closureFor scope env=Pure.pure cl)
 (h:WE D A L (eval iter env) (fun v σ₁=> ∃ l xs,v= .ref l∧σ₁.H l=some (.list (ag xs))∧xs.length≤1000∧ ∃ p:Str→Bool,
  (∀ C k m H',k<xs.length→H' C=Option.none→Ext (upd σ₁.H L (.ns σ₁.loc)) H'→WT D A C (compEnvC scope cl C env) test (fun ok σ₃=>ok=p (xs.getD k default)∧σ₃.loc y=some (.str (xs.getD k default) 0)∧Ext H' σ₃.H) ⟨ca m y (.str (xs.getD k default) 0),H'⟩)∧
  ∀ a H',Ext σ₁.H H'→σ₁.H a=Option.none→H' a=some (.list (ag (xs.filter p)))→Q .next ⟨ca σ₁.loc x (.ref a),H'⟩) σ)
 (hsw:swapsWith (.ListComp (.Name y p2) [⟨.Name y py,iter,[test],0⟩] scope pos) (some (.Name x px)) spos.line env=Pure.pure true:=by rfl)
 (hL:env.locals=L:=by rfl) (hk:env.scope.kind= .function:=by rfl) (hlx:env.kindOf x=some .local:=by rfl)
 (hl:∀ C,(compEnvC scope cl C env).kindOf y=some .local:=by intro _;rfl) (hkf:∀ C,(compEnvC scope cl C env).scope.kind= .function:=by intro _;rfl) (hdb:(y==("__debug__" :Str))=false:=by decide)
 (hcell:∀ y∈scope.names,y.2≠ .cell:=by decide) (hkind:scope.kind= .function:=by rfl) (hnames:∀ x∈scope.names,x.2= .local→scope.names.lookup x.1=some .local:=by decide)
 (hs:∀ x,foldedSetIterable iter env x=Pure.pure x:=by intro _;rfl):
 WS D A L env (.Assign [.Name x px] (.ListComp (.Name y p2) [⟨.Name y py,iter,[test],0⟩] scope pos) spos) Q σ:=by
 refine S.assignListComp hclos ?_ hsw hL hk hlx hcell hkind hnames hs
 refine It.list hh ?_
 refine W.mono h ?_
 rintro v σ₁ h2_;refine d5 h2_ fun l xs ex hl1 hz p turn fin=>?_;clear h2_
 refine⟨l,ag xs,ex,hl1,?_⟩
 rw [ae]
 refine⟨aq hz,fun k=>p (xs.getD k default),fun k v _=>v= .str (xs.getD k default) 0,fun k v H H' q _=>q,?_,?_⟩
 ·intro C k m H' hk hC hext
  show ∀ v,er v=_→_
  intro v hv
  rw [ax hk]at hv
  refine W.assignLocal (L:=C) (env:=compEnvC scope cl C env) ?_ rfl (hkf C) (hl C)
  rw [hv]
  refine W.testsOne ?_
  refine W.mono (turn C k m H' hk hC hext) ?_
  rintro ok σ₃ h2_;refine aE h2_ fun e1 e2 e3=>?_;clear h2_
  refine⟨e1,?_⟩
  cases ok with
  | false=>exact e3
  | true=>exact E.local (L:=C) (env:=compEnvC scope cl C env) (v:= .str (xs.getD k default) 0) (Q:=fun y σ₄=>Ext H' σ₄.H∧y= .str (xs.getD k default) 0) e2 ⟨e3,rfl⟩ rfl (hkf C) (hl C) hdb
 ·intro a H' ys hext ha hys hp
  have:=bH (f:=fun k=>Value.str (xs.getD k default) 0) hp
  rw [cP]at this
  exact fin a H' hext ha (by rw [hys,this])
structure RInv (H:AH) (L d:Addr) (rl gn:Addr) (gone:List Str) (gs:List Addr) (Rs:List (List Str)) (Hs:AH):Prop where
 ext:Ext H Hs
 c1:Hs (L+1)=some (.cell (some (.ref d)))
 c2:Hs (L+2)=some (.cell (some (.ref gn)))
 c3:∃ v,Hs (L+3)=some (.cell v)
 c4:∃ v,Hs (L+4)=some (.cell v)
 hgn:Hs gn=some (.list (ag gone))
 hrl:Hs rl=some (.list (gs.map Value.ref))
 hgs:Paired (fun q G=>Hs q=some (.list (ag G))∧H q=none) gs Rs
 rl0:H rl=none
 rlgn:rl≠gn
 rlgs:rl∉gs
theorem gS{α β:Type}{P:α→β→Prop}:∀ {l:List α} {m:List β},Paired P l m→ ∀ a∈l,∃ b,P a b
 | _,_,.cons h r,a,ha=>by
  rcases List.mem_cons.mp ha with q | q
  ·exact⟨_,q▸h⟩
  ·exact gS r a q
theorem eN{α β:Type}{P P':α→β→Prop}:∀ {l₁:List α} {l₂:List β},(∀ a∈l₁,∀ b,P a b→P' a b)→Paired P l₁ l₂→Paired P' l₁ l₂
 | _,_,_,.nil=> .nil
 | _,_,h,.cons a r=> .cons (h _ (.head _) _ a) (eN (fun a ha=>h a (.tail _ ha)) r)
theorem RInv.mono{H:AH}{L d rl gn:Addr}{gone:List Str}{gs:List Addr}{Rs:List (List Str)}{Hs Hs':AH}(x:RInv H L d rl gn gone gs Rs Hs)(e:Ext Hs Hs'):RInv H L d rl gn gone gs Rs Hs':=
 ⟨x.ext.trans e,e _ _ x.c1,e _ _ x.c2,let⟨v,h⟩:=x.c3;⟨v,e _ _ h⟩,let⟨v,h⟩:=x.c4;⟨v,e _ _ h⟩,e _ _ x.hgn,e _ _ x.hrl,PySem.Paired.mono (fun a b y=>⟨e _ _ y.1,y.2⟩) x.hgs,x.rl0,x.rlgn,x.rlgs⟩
theorem be{H:AH}{a b:Addr}{x y:AO}(ha:H a=some x)(hb:H b=some y)(h:x≠y):a≠b:=fun e=>by
 rw [e,hb]at ha;exact h (Option.some.inj ha).symm
theorem aA{H:AH}{a b:Addr}{x y:AO}(ha:H a=some x)(hb:H b=some y)(h:(x.kd==y.kd)=false:=by rfl):a≠b:=be ha hb fun e=>by rw [e]at h;simp at h
theorem RInv.cell3{H:AH}{L d rl gn:Addr}{gone:List Str}{gs:List Addr}{Rs:List (List Str)}{Hs:AH}(x:RInv H L d rl gn gone gs Rs Hs)(n3:H (L+3)=none)(v:Option Value):RInv H L d rl gn gone gs Rs (upd Hs (L+3) (.cell v)):=by
 obtain⟨v3,h3⟩:=x.c3
 obtain⟨v4,h4⟩:=x.c4
 refine⟨x.ext.upd _ n3,(af (aT L (by decide))).trans x.c1,(af (aT L (by decide))).trans x.c2,⟨v,ah ..⟩,⟨v4,(af (aT L (by decide))).trans h4⟩,(af (aA x.hgn h3)).trans x.hgn,(af (aA x.hrl h3)).trans x.hrl,?_,x.rl0,x.rlgn,x.rlgs⟩
 exact PySem.Paired.mono (fun a b y=>⟨(af (aA y.1 h3)).trans y.1,y.2⟩) x.hgs
theorem RInv.cell4{H:AH}{L d rl gn:Addr}{gone:List Str}{gs:List Addr}{Rs:List (List Str)}{Hs:AH}(x:RInv H L d rl gn gone gs Rs Hs)(n4:H (L+4)=none)(v:Option Value):RInv H L d rl gn gone gs Rs (upd Hs (L+4) (.cell v)):=by
 obtain⟨v3,h3⟩:=x.c3
 obtain⟨v4,h4⟩:=x.c4
 refine⟨x.ext.upd _ n4,(af (aT L (by decide))).trans x.c1,(af (aT L (by decide))).trans x.c2,⟨v3,(af (aT L (by decide))).trans h3⟩,⟨v,ah ..⟩,(af (aA x.hgn h4)).trans x.hgn,(af (aA x.hrl h4)).trans x.hrl,?_,x.rl0,x.rlgn,x.rlgs⟩
 exact PySem.Paired.mono (fun a b y=>⟨(af (aA y.1 h4)).trans y.1,y.2⟩) x.hgs
theorem RInv.group{H:AH}{L d rl gn q:Addr}{gone vs:List Str}{gs:List Addr}{Rs:List (List Str)}{Hs:AH}(x:RInv H L d rl gn gone gs Rs Hs)(hq:H q=none)(hv:Hs q=some (.list (ag vs)))(h1:q≠gn)(h2:q≠rl)(h3:q∉gs)(ws:List Value):RInv H L d rl gn gone gs Rs (upd Hs q (.list ws)):=by
 obtain⟨v3,h3'⟩:=x.c3
 obtain⟨v4,h4'⟩:=x.c4
 refine⟨x.ext.upd _ hq,(af (aA x.c1 hv)).trans x.c1,(af (aA x.c2 hv)).trans x.c2,⟨v3,(af (aA h3' hv)).trans h3'⟩,⟨v4,(af (aA h4' hv)).trans h4'⟩,(af h1.symm).trans x.hgn,(af h2.symm).trans x.hrl,?_,x.rl0,x.rlgn,x.rlgs⟩
 exact eN (fun a ha b y=>⟨(af (fun e:a=q=>h3 (e▸ha))).trans y.1,y.2⟩) x.hgs
theorem RInv.gone{H:AH}{L d rl gn gn':Addr}{gone gone':List Str}{gs:List Addr}{Rs:List (List Str)}{Hs:AH}(x:RInv H L d rl gn gone gs Rs Hs)(n2:H (L+2)=none)(h:Hs gn'=some (.list (ag gone')))(hne:rl≠gn'):RInv H L d rl gn' gone' gs Rs (upd Hs (L+2) (.cell (some (.ref gn')))):=by
 obtain⟨v3,h3⟩:=x.c3
 obtain⟨v4,h4⟩:=x.c4
 refine⟨x.ext.upd _ n2,(af (aT L (by decide))).trans x.c1,ah ..,⟨v3,(af (aT L (by decide))).trans h3⟩,⟨v4,(af (aT L (by decide))).trans h4⟩,(af (aA h x.c2)).trans h,(af (aA x.hrl x.c2)).trans x.hrl,?_,x.rl0,hne,x.rlgs⟩
 exact PySem.Paired.mono (fun a b y=>⟨(af (aA y.1 x.c2)).trans y.1,y.2⟩) x.hgs
theorem RInv.rounds{H:AH}{L d rl gn q:Addr}{gone G:List Str}{gs:List Addr}{Rs:List (List Str)}{Hs:AH}(x:RInv H L d rl gn gone gs Rs Hs)(h:Hs q=some (.list (ag G)))(hq:H q=none)(hne:rl≠q):RInv H L d rl gn gone (gs++ [q]) (Rs++ [G]) (upd Hs rl (.list (gs.map Value.ref++ [.ref q]))):=by
 obtain⟨v3,h3⟩:=x.c3
 obtain⟨v4,h4⟩:=x.c4
 refine⟨x.ext.upd _ x.rl0,(af (aA x.c1 x.hrl)).trans x.c1,(af (aA x.c2 x.hrl)).trans x.c2,⟨v3,(af (aA h3 x.hrl)).trans h3⟩,⟨v4,(af (aA h4 x.hrl)).trans h4⟩,(af x.rlgn.symm).trans x.hgn,by rw [ah];simp,?_,x.rl0,x.rlgn,by simp [x.rlgs,hne]⟩
 exact(eN (fun a ha b y=>⟨(af (fun e:a=rl=>x.rlgs (e▸ha))).trans y.1,y.2⟩) x.hgs).snoc ⟨(af hne.symm).trans h,hq⟩
theorem oH{H:AH}{d l:Addr}{ep:Nat}{g:Str→Str}{order:List Str}{v u:Value}(hA:Ok A 9)(hv:er v= .ref d)(hu:er u= .ref l)(hd:H d=some (.dict (d9 g) ep))(hl:H l=some (.list (ag order)))(hg:∀ x∈NM,g x∈NM)
 (ho:∀ x∈order,x∈NM) (hon:order.length≤8) (hstop:fC g order 9 (leaves g order) []):
 Cd D A (.call (.ref 337) ⟨[v,u],[]⟩) (fun r H'=>Ext H H'∧ ∃ a gs,r= .ref a∧H a=none∧H' a=some (.list (gs.map Value.ref))∧Paired (fun q G=>H' q=some (.list (ag G))∧H q=none) gs (aC g order)) H:=by
 obtain rfl:=al hv
 obtain rfl:=al hu
 refine Cd.fnC (fun P=>rfl) rfl (fun P=>rfl) rfl hA rfl (fun k x hx=>?_) (by decide) (fun L hL hA'=>?_)
 ·simp at hx
  rcases hx with⟨_,_,rfl⟩ | ⟨_,_,rfl⟩
  ·exact .inr ⟨rfl,rfl⟩
  ·exact .inl rfl
 have hdl:d≠L:=fun e=>by rw [e,hL _ (Nat.le_refl _)]at hd;cases hd
 have hll:l≠L:=fun e=>by rw [e,hL _ (Nat.le_refl _)]at hl;cases hl
 have n1:H (L+1)=none:=hL _ (Nat.le_add_right _ _)
 have n2:H (L+2)=none:=hL _ (Nat.le_add_right _ _)
 have n3:H (L+3)=none:=hL _ (Nat.le_add_right _ _)
 have n4:H (L+4)=none:=hL _ (Nat.le_add_right _ _)
 show W _ _ _ _ _ ⟨_,upd (upd (upd (upd H (L+1) (.cell (some (.ref d)))) (L+2) (.cell none)) (L+3) (.cell none)) (L+4) (.cell none)⟩
 have x0:Ext H (upd (upd (upd (upd H (L+1) (.cell (some (.ref d)))) (L+2) (.cell none)) (L+3) (.cell none)) (L+4) (.cell none)):=
  (((Ext.refl H).upd _ n1).upd _ n2 |>.upd _ n3).upd _ n4
 have k1:(upd (upd (upd (upd H (L+1) (.cell (some (.ref d)))) (L+2) (.cell none)) (L+3) (.cell none)) (L+4) (.cell none)) (L+1)=some (.cell (some (.ref d))):=by
  rw [af (aT L (by decide)),af (aT L (by decide)),af (aT L (by decide)),ah]
 have k2:(upd (upd (upd (upd H (L+1) (.cell (some (.ref d)))) (L+2) (.cell none)) (L+3) (.cell none)) (L+4) (.cell none)) (L+2)=some (.cell none):=by
  rw [af (aT L (by decide)),af (aT L (by decide)),ah]
 have k3:(upd (upd (upd (upd H (L+1) (.cell (some (.ref d)))) (L+2) (.cell none)) (L+3) (.cell none)) (L+4) (.cell none)) (L+3)=some (.cell none):=by
  rw [af (aT L (by decide)),ah]
 have k4:(upd (upd (upd (upd H (L+1) (.cell (some (.ref d)))) (L+2) (.cell none)) (L+3) (.cell none)) (L+4) (.cell none)) (L+4)=some (.cell none):=ah ..
 generalize upd (upd (upd (upd H (L+1) (.cell (some (.ref d)))) (L+2) (.cell none)) (L+3) (.cell none)) (L+4) (.cell none)=H0 at x0 k1 k2 k3 k4
 refine WB.fold3 ?_
 intro A1_ env1_ Q1_
 refine W.foldL ?_
 intro lc2_ q2_
 refine B.cons (S.assignTup hA'.hand ?_)
 refine E.tuple ?_
 refine I.cons ?_
 refine E.compFilter (cl:=_) hA'.hand rfl (E.local (v:= .ref l) rfl ⟨l,order,rfl,x0 _ _ hl,by exact iY hon,fun one=>decide (one∉NM.map g),?_,?_⟩)
 ·intro C k m H2 hk hC e2
  have hn:order.getD k default∈NM:=ho _ (aF hk)
  generalize order.getD k default=one at hn
  have c2:=e2 _ _ ((af (dO L (by decide))).trans k1)
  have d2:=e2 _ _ ((af hdl).trans (x0 _ _ hd))
  refine T.compare (E.local (v:= .str one 0) rfl (E.meth (T:= "dict") (id:= "dict.values") F.plainAttrs_dict F.slot_dict_values (by kernel_rfl) (E.cell (v:= .ref d) rfl c2 ⟨⟨_,d2,rfl⟩,I.nil (M.values d2 fun v hv=>?_)⟩)))
  refine O.notInValues hA'.hand (aa hv _ _ d2) (ah ..) (fun p hp=>?_) ⟨_,rfl,?_,rfl,aa hv⟩
  ·refine ai (List.mem_map.mp hp) fun x hx h2_=>?_;obtain rfl:=h2_
   exact⟨g x,rfl⟩
  ·rw [Bool.eq_iff_iff];simp [d9]
 intro q H1 e1 hq hH1
 refine I.cons (E.list (I.nil ⟨Nat.zero_le _,fun rl hrl=>?_⟩))
 refine I.cons (E.list (I.nil ⟨Nat.zero_le _,fun gn hgn=>?_⟩))
 refine I.nil ⟨dR,fun tp htp=>?_⟩
 refine⟨tp,_,rfl,ah ..,rfl,?_⟩
 intro w1 hw1
 refine W.assignLocal ?_
 intro w2 hw2
 refine W.assignLocal ?_
 intro w3 hw3
 have s1:Ext H1 (upd (upd (upd H1 rl (.list [])) gn (.list [])) tp (.tuple [.ref q,.ref rl,.ref gn])):=((aa hrl).trans (aa hgn)).trans (aa htp)
 have k2':(upd (upd (upd H1 rl (.list [])) gn (.list [])) tp (.tuple [.ref q,.ref rl,.ref gn])) (L+2)=some (.cell none):=s1 _ _ (e1 _ _ k2)
 refine W.assignCell (c:=L+2) rfl k2' ?_
 simp only [hw1,hw2,hw3]
 have hrl1:(upd (upd (upd H1 rl (.list [])) gn (.list [])) tp (.tuple [.ref q,.ref rl,.ref gn])) rl=some (.list (([]:List Addr).map Value.ref)):=(aa htp).trans (Ext.refl _) _ _ ((aa hgn) _ _ (ah ..))
 have hgn1:(upd (upd (upd H1 rl (.list [])) gn (.list [])) tp (.tuple [.ref q,.ref rl,.ref gn])) gn=some (.list (ag [])):=(aa htp) _ _ (ah ..)
 have hq1:(upd (upd (upd H1 rl (.list [])) gn (.list [])) tp (.tuple [.ref q,.ref rl,.ref gn])) q=some (.list (ag (leaves g order))):=s1 _ _ hH1
 have eH1:Ext H H1:=x0.trans e1
 have hrl0:H rl=none:=az (fun a o e=>eH1 a o e) hrl
 have hq0:H q=none:=az (fun a o e=>x0 a o e) hq
 have hgn0:H gn=none:=az (fun a o e=>(eH1.trans (aa hrl)) a o e) hgn
 have rlgn:rl≠gn:=fun e=>by rw [← e]at hgn;exact nomatch hgn.symm.trans (ah ..)
 have rlq:rl≠q:=fun e=>by rw [e]at hrl;exact nomatch hrl.symm.trans hH1
 generalize upd (upd (upd H1 rl (.list [])) gn (.list [])) tp (.tuple [.ref q,.ref rl,.ref gn])=H2 at s1 k2' hrl1 hgn1 hq1
 have inv0:RInv H L d rl gn [] [] [] (upd H2 (L+2) (.cell (some (.ref gn)))):=
  ⟨(eH1.trans s1).upd _ n2,(af (aT L (by decide))).trans (s1 _ _ (e1 _ _ k1)),ah ..,⟨none,(af (aT L (by decide))).trans (s1 _ _ (e1 _ _ k3))⟩,⟨none,(af (aT L (by decide))).trans (s1 _ _ (e1 _ _ k4))⟩,
   (af (aA hgn1 k2')).trans hgn1,(af (aA hrl1 k2')).trans hrl1,.nil,hrl0,rlgn,fun h=>nomatch h⟩
 have hq2:(upd H2 (L+2) (.cell (some (.ref gn)))) q=some (.list (ag (leaves g order))):=(af (aA hq1 k2')).trans hq1
 let I3:St→Prop:=fun σ=>σ.loc "rounds" =some (.ref rl)∧Ext H σ.H∧ ∃ gs,σ.H rl=some (.list (gs.map Value.ref))∧Paired (fun q G=>σ.H q=some (.list (ag G))∧H q=none) gs (aC g order)
 refine W.foldL ?_
 intro lc4_ q4_
 refine B.seq I3 ?_ ?_
 ·let I5:Nat→St→Prop:=fun k σ=>σ.loc "rounds" =some (.ref rl)∧σ.loc "order" =some (.ref l)∧ ∃ q gn G gone gs Rs,σ.loc "group" =some (.ref q)∧RInv H L d rl gn gone gs Rs σ.H∧σ.H q=some (.list (ag G))∧H q=none∧rl≠q∧Rs++aL g order k G gone=aC g order∧fC g order k G gone∧(∀ x∈G,x∈NM)∧G.length≤8∧gone.length+8*k≤72∧gs.length+k=9
  refine S.while_ I5 9
   ⟨rfl,rfl,q,gn,leaves g order,[],[],[],rfl,inv0,hq2,hq0,rlq,rfl,hstop,fun x hx=>ho x (List.mem_filter.mp hx).1,Nat.le_trans (List.length_filter_le ..) hon,Nat.le_refl _,rfl⟩ ?_
  rintro k ⟨loc,Hs⟩ h2_;refine dg h2_ fun g1 g2 q gn G gone gs Rs g3 inv hq hq0 rlq hR hS hG hGl hgl hgsl=>?_;clear h2_
  dsimp only at g1 g2 g3 inv hq
  refine T.value (E.local (v:= .ref q) g3 (T.trList hq (by rw [ae];exact qk hGl) ?_))
  by_cases hG0:G= []
  ·subst hG0
   show WB _ _ _ _ [] _ _
   have:Rs=aC g order:=by
    rw [← hR]
    cases k<;> simp [aL]
   exact B.nil ⟨g1,inv.ext,gs,inv.hrl,this▸inv.hgs⟩
  have hne:(!(ag G).isEmpty)=true:=by cases G<;> simp [ag]at hG0 ⊢
  rw [hne]
  obtain⟨k,rfl⟩:∃ j,k=j+1:=by
   cases k with
   | zero=>exact absurd hS hG0
   | succ k=>exact⟨k,rfl⟩
  rw [aL,if_neg hG0]at hR
  have hS:fC g order k (aN g order (gone++G) (G.map g)) (gone++G):=hS.resolve_left hG0
  refine W.foldL ?_
  intro lc6_ q6_
  refine B.cons (S.expr (E.meth (T:= "list") (id:= "list.append") F.plainAttrs_list F.slot_list_append (by kernel_rfl) (E.local (v:= .ref rl) g1 ⟨⟨_,inv.hrl,rfl⟩,I.cons (E.local (v:= .ref q) g3 (I.nil (M.append inv.hrl (by rw [List.length_map];exact aq (by exact su hgsl)) ?_)))⟩)))
  have inv1:=inv.rounds hq hq0 rlq
  have hq1:(upd Hs rl (.list (gs.map Value.ref++ [.ref q]))) q=some (.list (ag G)):=(af rlq.symm).trans hq
  have qgs:q∈gs++ [q]:=by simp
  generalize upd Hs rl (.list (gs.map Value.ref++ [.ref q]))=Ha at inv1 hq1
  refine W.foldL ?_
  intro lc7_ q7_
  refine B.cons (S.assignCell (c:=L+2) rfl (E.binop (E.cell (v:= .ref gn) rfl inv1.c2 (E.local (v:= .ref q) g3 (O.addLists inv1.hgn hq1 (by rw [ae,ae];exact aq (by exact ss hgl hGl)) fun gn2 hgn2=>?_)))))
  rw [bk]
  have x2:Ext Ha (upd Ha gn2 (.list (ag (gone++G)))):=aa hgn2
  have hgn2':(upd Ha gn2 (.list (ag (gone++G)))) gn2=some (.list (ag (gone++G))):=ah ..
  have rlgn2:rl≠gn2:=fun e=>by rw [← e]at hgn2;exact nomatch hgn2.symm.trans inv1.hrl
  have inv2:=(inv1.mono x2).gone n2 hgn2' rlgn2
  have hq2:(upd (upd Ha gn2 (.list (ag (gone++G)))) (L+2) (.cell (some (.ref gn2)))) q=some (.list (ag G)):=(af (aA (x2 _ _ hq1) (x2 _ _ inv1.c2))).trans (x2 _ _ hq1)
  refine⟨_,x2 _ _ inv1.c2,?_⟩
  generalize upd (upd Ha gn2 (.list (ag (gone++G)))) (L+2) (.cell (some (.ref gn2)))=Hb at inv2 hq2
  have d2:=inv2.ext _ _ hd
  refine W.foldL ?_
  intro lc8_ q8_
  refine B.cons (S.assignCell (c:=L+3) rfl (E.compMap (cl:=_) hA'.hand rfl (E.local (v:= .ref q) g3 ⟨q,G,rfl,hq2,by exact iY hGl,fun x=> .str (g x) 0,?_,?_⟩)))
  ·intro C j m H3 hk hC e3
   have hn:G.getD j default∈NM:=hG _ (aF hk)
   generalize G.getD j default=x at hn
   exact E.goes (E.cell (v:= .ref d) rfl (e3 _ _ ((af (dO L (by decide))).trans inv2.c1)) ⟨_,rfl,E.local (v:= .str x 0) rfl ⟨x,g,ep,rfl,hn,e3 _ _ ((af hdl).trans d2),rfl,Ext.refl _⟩⟩)
  intro dl H3 e3 hdl0 hH3
  have hdue:G.map (fun x=>Value.str (g x) 0)=ag (G.map g):=by simp [ag,Function.comp_def]
  rw [hdue]at hH3
  have inv3:=(inv2.mono e3).cell3 n3 (some (.ref dl))
  obtain⟨v3,c3⟩:=(inv2.mono e3).c3
  have hdl3:(upd H3 (L+3) (.cell (some (.ref dl)))) dl=some (.list (ag (G.map g))):=(af (aA hH3 c3)).trans hH3
  have c3':(upd H3 (L+3) (.cell (some (.ref dl)))) (L+3)=some (.cell (some (.ref dl))):=ah ..
  refine⟨v3,c3,?_⟩
  generalize upd H3 (L+3) (.cell (some (.ref dl)))=Hc at inv3 hdl3 c3'
  refine W.foldL ?_
  intro lc9_ q9_
  refine B.cons (S.assign (E.list (I.nil ⟨Nat.zero_le _,fun q2 hq2=>?_⟩)))
  have inv4:=inv3.mono (aa (o:= .list []) hq2)
  have q20:H q2=none:=az (fun a o e=>inv3.ext a o e) hq2
  have q2gn:q2≠gn2:=fun e=>by rw [e]at hq2;exact nomatch hq2.symm.trans inv3.hgn
  have q2rl:q2≠rl:=fun e=>by rw [e]at hq2;exact nomatch hq2.symm.trans inv3.hrl
  have q2gs:q2∉gs++ [q]:=fun h=>by
   refine ai (gS inv3.hgs q2 h) fun b hb _=>?_
   exact nomatch hq2.symm.trans hb
  have q2dl:q2≠dl:=fun e=>by rw [e]at hq2;exact nomatch hq2.symm.trans hdl3
  have hdl4:=aa (o:= .list []) hq2 _ _ hdl3
  have c34:=aa (o:= .list []) hq2 _ _ c3'
  have hq24:(upd Hc q2 (.list [])) q2=some (.list (ag [])):=ah ..
  generalize upd Hc q2 (.list [])=Hd at inv4 hdl4 c34 hq24
  have hdlen:(G.map g).length≤8:=by rw [List.length_map];exact hGl
  have hdm:∀ x∈G.map g,x∈NM:=fun x hx=>by
   refine ai (List.mem_map.mp hx) fun y hy h2_=>?_;obtain rfl:=h2_
   exact hg y (hG y hy)
  refine W.foldL ?_
  intro lc10_ q10_
  refine B.seq (fun σ=>σ.loc "rounds" =some (.ref rl)∧σ.loc "order" =some (.ref l)∧σ.loc "group" =some (.ref q2)∧RInv H L d rl gn2 (gone++G) (gs++ [q]) (Rs++ [G]) σ.H∧σ.H q2=some (.list (ag (aN g order (gone++G) (G.map g))))) ?_ ?_
  ·generalize G.map g=due at hdl4 hdlen hdm
   refine S.for_ (It.range hA'.hand (E.callB (id:= "len") (fun P=>rfl) (by kernel_rfl) (I.cons (E.cell (v:= .ref dl) rfl c34 (I.nil (F.lenList hdl4 (by rw [ae];exact qk hdlen) ⟨due.length,by rw [ae],by exact m0 hdlen,?_⟩))))) (fun P=>rfl) (by kernel_rfl))
   let I11:Nat→St→Prop:=fun j σ=>σ.loc "rounds" =some (.ref rl)∧σ.loc "order" =some (.ref l)∧σ.loc "group" =some (.ref q2)∧RInv H L d rl gn2 (gone++G) (gs++ [q]) (Rs++ [G]) σ.H∧σ.H (L+3)=some (.cell (some (.ref dl)))∧σ.H dl=some (.list (ag due))∧ ∃ part,σ.H q2=some (.list (ag part))∧part++aN g order (gone++G) (due.drop j)=aN g order (gone++G) due∧part.length≤j
   refine⟨I11,⟨g1,g2,rfl,inv4,c34,hdl4,[],hq24,rfl,Nat.le_refl _⟩,fun j σ _=>Has.nil,?_,?_⟩
   ·rintro j ⟨loc2,He⟩ hj h3_;refine fb h3_ fun f1 f2 f3 iv fc3 fdl part fq2 fp fpl=>?_;clear h3_
    dsimp only at f1 f2 f3 iv fc3 fdl fq2
    show ∀ v,er v=_→_
    intro vi hvi
    obtain⟨v4,c4⟩:=iv.c4
    refine W.assignCell (c:=L+4) rfl c4 ?_
    rw [hvi]
    have iv4:=iv.cell4 n4 (some (.int (j:Nat) 0))
    have c44:(upd He (L+4) (.cell (some (.int (j:Nat) 0)))) (L+4)=some (.cell (some (.int (j:Nat) 0))):=ah ..
    have fc3:(upd He (L+4) (.cell (some (.int (j:Nat) 0)))) (L+3)=some (.cell (some (.ref dl))):=(af (aT L (by decide))).trans fc3
    have fdl:(upd He (L+4) (.cell (some (.int (j:Nat) 0)))) dl=some (.list (ag due)):=(af (aA fdl c4)).trans fdl
    have fq2:(upd He (L+4) (.cell (some (.int (j:Nat) 0)))) q2=some (.list (ag part)):=(af (aA fq2 c4)).trans fq2
    generalize upd He (L+4) (.cell (some (.int (j:Nat) 0)))=Hf at iv4 c44 fc3 fdl fq2
    have hjl:j<(ag due).length:=by rw [ae];exact hj
    have hxm:due.getD j default∈NM:=hdm _ (aF hj)
    have hdrop:due.drop j=due.getD j default::due.drop (j+1):=by
     rw [List.drop_eq_getElem_cons hj];simp [List.getD,List.getElem?_eq_getElem hj]
    have hitem:(ag due).getD j .none= .str (due.getD j default) 0:=ax hj
    rw [hdrop]at fp
    generalize due.getD j default=x at hxm hdrop hitem fp
    have el:=iv4.ext _ _ hl
    have ed:=iv4.ext _ _ hd
    refine W.hl fun hLn=>?_
    have hLn:Hf L=none:=hLn
    refine W.foldL ?_
    intro lc12_ q12_
    refine B.cons (S.assignFilter (cl:=_) hA'.hand rfl (E.local (v:= .ref l) f2 ⟨l,order,rfl,el,by exact iY hon,fun one=>decide (g one=x) && decide (one∉gone++G),?_,?_⟩))
    ·intro C m2 m H4 hk hC e4
     have hn:order.getD m2 default∈NM:=ho _ (aF hk)
     generalize order.getD m2 default=one at hn
     have up:∀ b o,b≠L→Hf b=some o→H4 b=some o:=fun b o hb h=>e4 _ _ ((af hb).trans h)
     have dlL:dl≠L:=fun e=>by rw [e]at fdl;exact nomatch hLn.symm.trans fdl
     have gnL:gn2≠L:=fun e=>by
      have:=iv4.hgn
      rw [e]at this;exact nomatch hLn.symm.trans this
     have c1C:=up (L+1) _ (dO L (by decide)) iv4.c1
     have c2C:=up (L+2) _ (dO L (by decide)) iv4.c2
     have c3C:=up (L+3) _ (dO L (by decide)) fc3
     have c4C:=up (L+4) _ (dO L (by decide)) c44
     have dlC:=up _ _ dlL fdl
     refine T.boolop (W.andCons (T.compare (E.goes (E.cell (v:= .ref d) rfl c1C ⟨_,rfl,E.local (v:= .str one 0) rfl ⟨one,g,ep,rfl,hn,up _ _ hdl ed,?_⟩⟩))))
     refine E.sub (T:= "list") (id:= "list.__getitem__") (by kernel_rfl) (E.cell (v:= .ref dl) rfl c3C (E.cell (v:= .int (j:Nat) 0) rfl c4C ⟨⟨_,dlC,rfl⟩,O.itemList dlC hjl (by exact pi hj hdlen) ?_⟩))
     rw [hitem]
     refine O.eqSS ⟨_,rfl,?_⟩
     by_cases h1:g one=x
     ·rw [beq_iff_eq.mpr h1]
      show W _ _ _ _ _ _
      refine W.andCons (T.compare (E.local (v:= .str one 0) rfl (E.cell (v:= .ref gn2) rfl c2C (O.notInStrs (up _ _ gnL iv4.hgn) ⟨_,rfl,?_⟩))))
      by_cases h2:one∉gone++G
      ·rw [decide_eq_true h2]
       show W _ _ _ _ _ _
       exact W.andNil ⟨by dsimp only;rw [decide_eq_true h1,decide_eq_true h2];rfl,rfl,Ext.refl _⟩
      ·rw [decide_eq_false h2]
       exact⟨by dsimp only;rw [decide_eq_true h1,decide_eq_false h2];rfl,rfl,Ext.refl _⟩
     ·rw [beq_eq_false_iff_ne.mpr h1]
      exact⟨by dsimp only;rw [decide_eq_false h1];rfl,rfl,Ext.refl _⟩
    intro la H4 e4 hla hH4
    have iv5:=iv4.mono e4
    have c35:=e4 _ _ fc3
    have c45:=e4 _ _ c44
    have dl5:=e4 _ _ fdl
    have q25:=e4 _ _ fq2
    have hP:(x∉due.drop (j+1)∧ ∀ one∈order,g one=x→one∈gone++G)↔(x∉due.drop (j+1)∧order.filter (fun one=>decide (g one=x) && decide (one∉gone++G))= []):=by
     constructor
     ·rintro⟨h1,h2⟩
      refine⟨h1,List.filter_eq_nil_iff.mpr fun one ho=>?_⟩
      intro q
      rw [Bool.and_eq_true,decide_eq_true_iff,decide_eq_true_iff]at q
      exact q.2 (h2 one ho q.1)
     ·rintro⟨h1,h2⟩
      refine⟨h1,fun one ho e=>?_⟩
      have:=List.filter_eq_nil_iff.mp h2 one ho
      rw [Bool.and_eq_true,decide_eq_true_iff,decide_eq_true_iff]at this
      exact Classical.not_not.mp fun q=>this ⟨e,q⟩
    refine W.foldL ?_
    intro lc13_ q13_
    refine B.cons (S.iteE (x∉due.drop (j+1)∧ ∀ one∈order,g one=x→one∈gone++G) ?_ (fun hp H5 e5=>?_) (fun hp H5 e5=>?_))
    ·refine T.boolop (W.andCons (T.compare (E.sub (T:= "list") (id:= "list.__getitem__") (by kernel_rfl) (E.cell (v:= .ref dl) rfl c35 (E.cell (v:= .int (j:Nat) 0) rfl c45 ⟨⟨_,dl5,rfl⟩,O.itemList dl5 hjl (by exact pi hj hdlen) ?_⟩)))))
     rw [hitem]
     refine E.sliceList (E.cell (v:= .ref dl) rfl c35 (.some (E.binop (E.cell (v:= .int (j:Nat) 0) rfl c45 (E.int (O.addII ⟨j+1,rfl,.none ⟨dl,_,rfl,dl5,aq (by rw [ae];exact iY hdlen),hjl,Nat.le_refl _,hjl,fun sl hsl=>?_⟩⟩))))))
     have hcut:cut (ag due) (some (j+1)) none=ag (due.drop (j+1)):=by
      unfold cut ag;rw [List.map_drop];simp [List.take_of_length_le]
     rw [hcut]
     refine O.notInStrs (ah ..) ⟨_,rfl,?_⟩
     have e6:=aa (o:= .list (ag (due.drop (j+1)))) hsl
     by_cases h1:x∉due.drop (j+1)
     ·rw [decide_eq_true h1]
      show W _ _ _ _ _ _
      refine W.andCons (T.not (T.value (E.local (v:= .ref la) rfl (T.trList (e6 _ _ hH4) (by rw [ae];have:=List.length_filter_le (fun one=>decide (g one=x) && decide (one∉gone++G)) order;exact sq this hon) ?_))))
      by_cases h2:order.filter (fun one=>decide (g one=x) && decide (one∉gone++G))= []
      ·rw [h2]
       show W _ _ _ _ _ _
       exact W.andNil ⟨by rw [decide_eq_true (hP.mpr ⟨h1,h2⟩)],rfl,e6⟩
      ·have:(!(!(ag (order.filter fun one=>decide (g one=x) && decide (one∉gone++G))).isEmpty))=false:=by
        cases hf:order.filter (fun one=>decide (g one=x) && decide (one∉gone++G))with
        | nil=>exact absurd hf h2
        | cons=>simp [ag]
       rw [this]
       exact⟨by rw [decide_eq_false fun q=>h2 (hP.mp q).2],rfl,e6⟩
     ·rw [decide_eq_false h1]
      exact⟨by rw [decide_eq_false fun q=>h1 q.1],rfl,e6⟩
    ·have fp':aN g order (gone++G) (x::due.drop (j+1))=x::aN g order (gone++G) (due.drop (j+1)):=by rw [aN,if_pos hp]
     rw [fp']at fp
     have q26:=e5 _ _ q25
     refine W.foldL ?_
     intro lc14_ q14_
     refine B.cons (S.expr (E.meth (T:= "list") (id:= "list.append") F.plainAttrs_list F.slot_list_append (by kernel_rfl) (E.local (v:= .ref q2) f3 ⟨⟨_,q26,rfl⟩,I.cons (E.sub (T:= "list") (id:= "list.__getitem__") (by kernel_rfl) (E.cell (v:= .ref dl) rfl (e5 _ _ c35) (E.cell (v:= .int (j:Nat) 0) rfl (e5 _ _ c45) ⟨⟨_,e5 _ _ dl5,rfl⟩,O.itemList (e5 _ _ dl5) hjl (by exact pi hj hdlen) ?_⟩)))⟩)))
     rw [hitem]
     refine I.nil (M.append q26 (by rw [ae];exact aq (by exact so fpl hj hdlen)) ?_)
     rw [← bc]
     refine B.nil (B.nil ⟨f1,f2,f3,(iv5.mono e5).group q20 q26 q2gn q2rl q2gs _,?_,?_,part++ [x],ah ..,by rw [← fp];simp,by simp;exact pn fpl⟩)
     ·exact(af (aA (e5 _ _ c35) q26)).trans (e5 _ _ c35)
     ·exact(af q2dl.symm).trans (e5 _ _ dl5)
    ·have fp':aN g order (gone++G) (x::due.drop (j+1))=aN g order (gone++G) (due.drop (j+1)):=by rw [aN,if_neg hp]
     rw [fp']at fp
     refine B.nil (B.nil ⟨f1,f2,f3,iv5.mono e5,e5 _ _ c35,e5 _ _ dl5,part,e5 _ _ q25,fp,by exact pw fpl⟩)
   ·rintro⟨loc2,He⟩ h1_;refine fb h1_ fun f1 f2 f3 iv fc3 fdl part fq2 fp fpl=>?_;clear h1_
    refine B.nil ⟨f1,f2,f3,iv,?_⟩
    rw [List.drop_eq_nil_of_le (Nat.le_refl _)]at fp
    rw [← fp];simpa [aN] using fq2
  ·rintro⟨loc2,He⟩ h1_;refine aD h1_ fun f1 f2 f3 iv fq2=>?_;clear h1_
   dsimp only at f1 f2 f3 iv fq2
   refine B.nil ⟨k,Nat.lt_succ_self _,f1,f2,q2,gn2,aN g order (gone++G) (G.map g),gone++G,gs++ [q],Rs++ [G],f3,iv,fq2,q20,q2rl.symm,?_,hS,?_,?_,?_,?_⟩
   ·rw [List.append_assoc];exact hR
   ·exact fun x hx=>hdm x (fM _ _ _ _ x hx)
   ·exact Nat.le_trans (jt ..) hdlen
   ·rw [List.length_append];exact sm hgl hGl
   ·rw [List.length_append,List.length_singleton];exact sk hgsl
 ·rintro⟨loc,Hs⟩ h1_;refine pP h1_ fun g1 g2 gs g3 g4=>?_;clear h1_
  dsimp only at g1 g2 g3 g4
  refine W.foldL ?_
  intro lc15_ q15_
  refine B.cons (S.ret (E.local (v:= .ref rl) g1 ?_))
  intro v' hv'
  exact⟨g2,rl,gs,hv',hrl0,g3,g4⟩
end Mine
end
section
open PySem PySem.W PyProof.Rows PySem.Calls PySem.SeqAt
open Builtin Builtin.ObjectAttr Builtin.Getset_descriptor
namespace Mine
section
variable {prog:Program}{w:World}{A:Around}{K:Frag}{x C:Addr}{s:Shared}{R:Result→Shared→Prop}
theorem og{ox:Obj}{od:Option Obj}{v:Value}{p i:Nat}(X:K.In s.heap)(I:InstAt s.heap x ox C od)(hp:slotIn K p C=some i)(hi:i<1000)
 (h:R (.ok (.ret .none)) { s with heap:=s.heap.update x fun o=> { o with slots:=(o.slots++Array.replicate (i+1-o.slots.size) none).setIfInBounds i (some v)}}):
 codeAny (model prog w) A (.call (.builtin "member_descriptor.__set__") ⟨[.ref p,.ref x,v],[]⟩) R s:=by
 refine fV (slot_of X hp) fun n tn owner behind tb d sl cd ho hc hm hb h12_=>?_;obtain rfl:=h12_
 obtain⟨hh,g,dr,t,os⟩:=s
 have L0:=I.type (M:=model prog w)
 have L1:=looks_mroIn (M:=model prog w) X hm
 have L2:Looks (model prog w) hh (Slots.slotNamesOf (.ref C)) cd.slotNames:=(looks_clsIn X hc).andThen .now
 have hx:=I.at_
 dsimp only at ho hx L0 L1
 have f0:=looks_field (M:=model prog w) ho 0 (v:= .str n tn) rfl
 have f1:=looks_field (M:=model prog w) ho 1 (v:=owner) rfl
 have f3:=looks_field (M:=model prog w) ho 3 (v:= .builtin "proto.slot#set") rfl
 have f4:=looks_field (M:=model prog w) ho 4 (v:= .int behind tb) rfl
 refine codeAny_call_builtin KF.slot_mset.plain KF.entry_mset (KF.slot_mset.check _ _ _ _ _ _ _ _ ⟨_,ho,rfl⟩ (KF.args_mset _ _ _) ?_)
 unfold Builtin.«member_descriptor.__set__» descrSet descrStoreThrough descrCheckInstance descrNameAndClass isInstance
 have f5:Looks (model prog w) hh (descrItself (.ref p)) [.ref p]:=((Looks.ld (part:=none) ho).andThen .now).andThen (Looks.of_pure (by kernel_rfl))
 repeat lk
 refine⟨Code.quiet_builtin _ (by decide+kernel),codeAny_builtin KF.entry_slotset ?_⟩
 unfold Builtin.«proto.slot#set» Slots.target
 repeat lk
 rw [if_neg hb]
 refine wpAny_pure (wpAny_bind ?_)
 unfold setSlotAt
 dsimp only
 rw [if_neg (by rw [sizeLine_eq];exact wO hi)]
 exact wpAny_updatePart hx (wpAny_pure h)
theorem o9{ox:Obj}{od:Option Obj}{dx:Addr}{name:Str}{tk:Tok}{v:Value}{m:Str→Option Value}(X:K.In s.heap)(I:InstAt s.heap x ox C od)(hd:ox.dict=some dx)(hp:plainOver K C=true)(ht:takerIn K C name=some none)
 (hh:(clsIn K C).any (·.hasDict)=true) (hn:s.heap.Ns1 dx m) {ns:List Str} (hw:Within m ns) (hns:ns.length≤100)
 (h:∀ h',h'.Ns1 dx (fun y=>if y=name then some v else m y)→Heap.SameBut dx s.heap h'→R (.ok (.ret .none)) { s with heap:=h',toks:=s.toks+1}):
 codeAny (model prog w) A (.call (.builtin "object.__setattr__") ⟨[.ref x,.str name tk,v],[]⟩) R s:=by
 refine osa_open X I hp ht fun b=>?_
 refine ai (any_some hh) fun cd hc hd'=>?_
 obtain⟨hx,hcl,hno,-⟩:=I
 obtain⟨oc,odi,oda,osl⟩:=ox
 dsimp only at hcl hd
 subst hcl hd
 refine wpAny_bind (wpAny_pure (wpAny_bind (wpAny_bind (wpAny_loadPart hx (wpAny_bind ((looks_clsIn X hc).here ?_))))))
 rw [hd']
 refine wpAny_pure (a:=some dx) (wpAny_bind (wpAny_pure (wpAny_bind ?_)))
 refine wpAny_nsSet1 hn fun h' hn' hs'=>?_
 refine iK (hn'.count (Within.cons name v hw)) fun oD esD epD hoD hdD hcD=>?_
 refine wpAny_bind (wpAny_lookBehind hoD (by rw [hdD];exact pastItsLine_dict (Nat.le_trans hcD (by rw [List.length_cons,sizeLine_eq];exact wN hns))) ?_)
 exact wpAny_pure (h h' hn' hs')
end
section
variable {D:Wd}{A:Around}{L:Addr}{α β:Type}{σ:St}{env:Env}{Φ:Frz}{H:AH}{s:Shared}{C x dx:Addr}{m:Str→Option Value}{name:Str}
theorem cx{o:Obj}{w:World}(h:AtO w o (.fld m))(name:Str):∃ r,lookIn name o=some r∧r.map er=m name:=by
 refine fz h fun es ep hd hk hu hm=>?_;clear h
 refine⟨nsFind es name,?_,hm name⟩
 unfold lookIn
 rw [hd]
 dsimp only
 unfold nsFind findBy
 rw [← Array.find?_toList]
 cases hf:es.toList.find? (fun e=>e.key.isStr name)with
 | some e=>rfl
 | none=>
  have:es.toList.any (·.refKey)=false:=by
   rw [List.any_eq_false]
   intro e he
   refine jC (hk e (Array.mem_toList_iff.mp he)) fun n t h=>?_
   simp [DictEntry.refKey,h]
  simp [this]
theorem Rel.inst(R:Rel D L Φ σ s)(hx:σ.H x=some (.inst C dx []))(hd:σ.H dx=some (.fld m)):∃ od,InstAt s.heap x { cls:= .ref C,dict:=some dx,data:= .plain,slots:= #[]} C (some od)∧AtO D.w od (.fld m)∧s.heap.get? dx=some od:=by
 refine dK (R.obj hx) fun o ho sl h3_ hsl=>?_;obtain rfl:=h3_
 refine ai (R.obj hd) fun od hod hf=>?_
 have:sl= #[]:=by
  obtain⟨l⟩:=sl
  cases l with
  | nil=>rfl
  | cons=>simp at hsl
 subst this
 exact⟨od,⟨ho,rfl,rfl,hod⟩,hf,hod⟩
noncomputable def gR:Value→Prop
 | .builtin _=>False
 | _=>True
theorem ce{v v':Value}(e:er v'=v)(h:gR v):handedIn v'=true:=by
 subst e
 cases v'<;> first | rfl | exact h.elim
noncomputable abbrev xn(C:Addr)(name:Str)(Q:Value→St→Prop):Value→St→Prop:=fun ov σ=> ∃ x dx m v,ov= .ref x∧σ.H x=some (.inst C dx [])∧σ.H dx=some (.fld m)∧m name=some v∧gR v∧Q v σ
theorem E.attrFld{o:Expr}{pos:Pos}{Q:Value→St→Prop}(hga:∀ P,findIn (K0 P) (.ref C) "__getattribute__" =some (some (.builtin "object.__getattribute__")))
 (hf:∀ P od v,lookIn name od=some (some v)→findObj (K0 P) C (some od) name=some (.value v))
 (h:WE D A L (eval o env) (xn C name Q) σ)
 (hbase:attributeBase o name env (eval o env)=eval o env:=by rfl):WE D A L (eval (.Attribute o name pos) env) Q σ:=fun Φ s R=>by
 rw [arm_eval_Attribute,hbase]
 refine wpAny_bind (wpAny_mono (h Φ s R) (fun ov s₁=>dE fun σ₁ R₁ x dx m v e hx hd hm hp q=>wpAny_bind (wpAny_standAt (wpAny_bind (wpAny_holding ?_)))) fun _ _ x=>x)
 rw [al e]
 refine aR (R₁.inst hx hd) fun od I hfl hod=>?_
 refine ai (cx hfl name) fun r hr er'=>?_
 rw [hm]at er'
 refine ai (aP er') fun v' h1_ e'=>?_;obtain rfl:=h1_
 refine get_value R₁.K I (hga _) (hf _ _ _ hr) (ce e' hp) ?_
 refine wpAny_bind (wpAny_letTemporaryGo (wpAny_pure ⟨σ₁,R₁.tok _,?_⟩))
 show Q (er v') σ₁
 rw [e'];exact q
theorem Within.er{m m':Str→Option Value}{ns:List Str}(h:∀ y,m y≠none→y∈ns)(e:∀ y,(m' y).map er=m y):Within m' ns:=fun y hy=>h y fun q=>hy (by
 have:=e y
 rw [q]at this
 cases hm:m' y with
 | none=>rfl
 | some v=>rw [hm]at this;cases this)
theorem W.setFld{vx vv v:Value}{ns:List Str}{Q:Unit→St→Prop}(hs:∀ P,findIn (K0 P) (.ref C) "__setattr__" =some (some (.builtin "object.__setattr__")))(hp:∀ P,plainOver (K0 P) C=true)
 (ht:∀ P,takerIn (K0 P) C name=some none) (hh:∀ P,(clsIn (K0 P) C).any (·.hasDict)=true) (hns:ns.length≤100) (ex:er vx= .ref x) (ev:er vv=v)
 (hx:σ.H x=some (.inst C dx [])) (hd':σ.H dx=some (.fld m)) (hw:∀ y,m y≠none→y∈ns) (h:Q () { σ with H:=upd σ.H dx (.fld (ca m name v))}):W D A L (setAttr vx name vv) Q σ:=fun Φ s R=>by
 rw [al ex]
 refine aR (R.inst hx hd') fun od I hfl hod=>?_
 refine fz hfl fun es ep hdat hk hu hm=>?_;clear hfl
 have hn:s.heap.Ns1 dx (fun y=>nsFind es y):=⟨od,es,ep,hod,hdat,hk,hu,fun _=>rfl⟩
 refine set_plain R.K I (hs _) (o9 (s:={ s with toks:=s.toks+1}) R.K I rfl (hp _) (ht _) (hh _) hn (Within.er hw hm) hns fun h' hn' hs'=>?_)
 refine hV hn' fun o' es' ep' ho' hd2 hk' hu' hm'=>?_;clear hn'
 refine⟨_,R.update (ao:= .fld (ca m name v)) (t:=s.toks+1+1) hd' (fun b o hb e=>(hs'.2 b hb).trans e) ⟨o',ho',es',ep',hd2,hk',hu',fun y=>?_⟩,h⟩
 rw [hm' y]
 unfold ca
 dsimp only
 by_cases q:y=name
 ·rw [if_pos q,if_pos q,Option.map_some,ev]
 ·rw [if_neg q,if_neg q];exact hm y
theorem S.assignAttr{o value:Expr}{p pos:Pos}{Q:Flow→St→Prop}
 (h:WE D A L (eval value env) (fun v σ₁=>WE D A L (eval o env) (fun ov σ₂=> ∀ v' ov',er v'=v→er ov'=ov→W D A L (setAttr ov' name v') (fun _ σ₃=>Q .next σ₃) σ₂) σ₁) σ)
 (hs:swapsWith value (some (.Attribute o name p)) pos.line env=Pure.pure false:=by rfl):WS D A L env (.Assign [.Attribute o name p] value pos) Q σ:=fun Φ s R=>
 plainObj_wpAny_Assign_Attribute (wpAny_mono (h Φ s R) (fun v s₁=>ar fun σ₁ R₁ h₁=>wpAny_mono (h₁ Φ s₁ R₁) (fun ov s₂=>ar fun σ₂ R₂ h₂=>h₂ v ov rfl rfl Φ s₂ R₂) fun _ _ x=>x) fun _ _ x=>x) hs
noncomputable def cj(sl:List (Option Value))(i:Nat)(v:Value):List (Option Value):=(sl++List.replicate (i+1-sl.length) none).set i (some v)
theorem Rel.instS{sl:List (Option Value)}(R:Rel D L Φ σ s)(hx:σ.H x=some (.inst C dx sl))(hd:σ.H dx=some (.raw emptyDict)):
 ∃ sl':Array (Option Value),InstAt s.heap x { cls:= .ref C,dict:=some dx,data:= .plain,slots:=sl'} C (some emptyDict)∧sl'.toList.map (fun v=>v.map er)=sl:=by
 refine dK (R.obj hx) fun o ho sl' h3_ hsl=>?_;obtain rfl:=h3_
 refine ai (R.obj hd) fun od hod hf=>?_
 have hf:od=emptyDict:=hf
 subst hf
 exact⟨sl',⟨ho,rfl,rfl,hod⟩,hsl⟩
noncomputable abbrev vr(C:Addr)(i:Nat)(Q:Value→St→Prop):Value→St→Prop:=fun ov σ=> ∃ x dx sl v,ov= .ref x∧σ.H x=some (.inst C dx sl)∧σ.H dx=some (.raw emptyDict)∧sl[i]?=some (some v)∧gR v∧Q v σ
theorem E.attrSlot{o:Expr}{pos:Pos}{p i:Nat}{Q:Value→St→Prop}(hga:∀ P,findIn (K0 P) (.ref C) "__getattribute__" =some (some (.builtin "object.__getattribute__")))
 (hf:∀ P,findObj (K0 P) C (some emptyDict) name=some (.bind (.builtin "member_descriptor.__get__") (.ref p))) (hk:∀ P,findIn (K0 P) (.ref C) "__getattr__" =some Option.none) (hp:∀ P,slotIn (K0 P) p C=some i)
 (h:WE D A L (eval o env) (vr C i Q) σ)
 (hbase:attributeBase o name env (eval o env)=eval o env:=by rfl):WE D A L (eval (.Attribute o name pos) env) Q σ:=fun Φ s R=>by
 rw [arm_eval_Attribute,hbase]
 refine wpAny_bind (wpAny_mono (h Φ s R) (fun ov s₁=>dE fun σ₁ R₁ x dx sl v e hx hd' hs hpl q=>wpAny_bind (wpAny_standAt (wpAny_bind (wpAny_holding ?_)))) fun _ _ x=>x)
 rw [al e]
 refine ai (R₁.instS hx hd') fun sl' I hsl=>?_
 subst hsl
 rw [List.getElem?_map]at hs
 obtain⟨w,hw,ew⟩:∃ w,sl'.toList[i]?=some w∧w.map er=some v:=by
  cases q:sl'.toList[i]? with
  | none=>rw [q]at hs;cases hs
  | some w=>rw [q]at hs;exact⟨w,rfl,Option.some.inj hs⟩
 refine ai (aP ew) fun v' h1_ ev=>?_;obtain rfl:=h1_
 refine get_bind R₁.K I (hga _) (hf _) (hk _) (wpAny_call (slot_get (s:={ s₁ with toks:=s₁.toks+1}) R₁.K I (hp _) (v:=v') (by rw [← Array.getElem?_toList,hw];rfl) ?_))
 show wpAny _ _ (handedOut v') _ _ _
 rw [handedOut_of (ce ev hpl)]
 refine wpAny_pure (wpAny_bind (wpAny_letTemporaryGo (wpAny_pure ⟨σ₁,R₁.tok _,?_⟩)))
 show Q (er v') σ₁
 rw [ev];exact q
theorem W.setSlot{vx vv v:Value}{p i:Nat}{sl:List (Option Value)}{Q:Unit→St→Prop}(hs:∀ P,findIn (K0 P) (.ref C) "__setattr__" =some (some (.builtin "object.__setattr__")))(hp:∀ P,plainOver (K0 P) C=true)
 (ht:∀ P,takerIn (K0 P) C name=some (some (.ref p))) (hT:∀ P,typeIn (K0 P) (.ref p)=some (.type "member_descriptor")) (hsl:∀ P,slotIn (K0 P) p C=some i) (hi:i<1000) (ex:er vx= .ref x) (ev:er vv=v)
 (hx:σ.H x=some (.inst C dx sl)) (hd':σ.H dx=some (.raw emptyDict)) (h:Q () { σ with H:=upd σ.H x (.inst C dx (cj sl i v))}):W D A L (setAttr vx name vv) Q σ:=fun Φ s R=>by
 rw [al ex]
 refine ai (R.instS hx hd') fun sl' I hsl'=>?_
 subst hsl'
 refine set_plain R.K I (hs _) (osa_descr KF.slot_mset (s:={ s with toks:=s.toks+1}) R.K I (hp _) (ht _) (hT _) (og (s:={ s with toks:=s.toks+1}) R.K I (hsl _) hi ?_))
 have hx':=I.at_
 refine⟨_,R.update (ao:= .inst C dx (cj (sl'.toList.map fun v=>v.map er) i v)) (t:=s.toks+1) hx (fun b o hb e=>(Heap.get?_update_other _ _ (Ne.symm hb)).trans e) ⟨_,Heap.get?_update_self _ hx' rfl,_,rfl,?_⟩,h⟩
 subst ev
 simp [cj,List.map_set]
end
end Mine
end
section
open PySem PySem.W PyProof.Rows PySem.Calls PySem.SeqAt
namespace Mine
section
variable {D:Wd}{A:Around}{L:Addr}{α β:Type}{σ:St}{env:Env}{Φ:Frz}{H:AH}{s:Shared}{C x dx:Addr}{m:Str→Option Value}{name:Str}
theorem ki{w:World}{P:Heap→Prop}{f:Value}{first:List Value}{R:Value→Shared→Prop}{trees:List (Bool×Sem Value)}(hplain:trees.any (·.1)=false)
 (h:wpAny (model PR w) A (spliced trees) (fun vs s₁=>P s₁.heap∧wpAny (model PR w) A (PySem.call f (first++vs)) R (fun _ _=>False) s₁) (fun _ _=>False) s) (h0:P s.heap):
 wpAny (model PR w) A (evalArgs f true trees []) (fun a s₁=>P s₁.heap∧wpAny (model PR w) A (PySem.call f (first++a.pos) a.kw) R (fun _ _=>False) s₁) (fun _ _=>False) s:=by
 cases trees with
 | nil=>
  refine PyProof.Rows.evalArgs_nil3 ⟨h0,?_⟩
  exact wpAny_bind (m:=spliced []) (f:=fun vs=>PySem.call f (first++vs)) (wpAny_mono h (fun vs s₁ q=>q.2) fun _ _ x=>x)
 | cons x r=>
  obtain⟨st,t⟩:=x
  have hst:st=false:=by
   simp only [List.any_cons,Bool.or_eq_false_iff]at hplain
   exact hplain.1
  subst hst
  exact Calls.evalArgs_plain h
theorem E.methOwn{o:Expr}{apos pos:Pos}{args:List Expr}{f:Addr}{Q:Value→St→Prop}(hga:∀ P,findIn (K0 P) (.ref C) "__getattribute__" =some (some (.builtin "object.__getattribute__")))
 (hk:∀ P,findIn (K0 P) (.ref C) "__getattr__" =some Option.none) (hf:∀ P,findIn (K0 P) (.ref C) name=some (some (.ref f))) (ht:∀ P,typeIn (K0 P) (.ref f)=some (.type "function")) (hkeep:∀ P,keepIn (K0 P) (.ref f)=true)
 (h:WE D A L (eval o env) (fun ov σ₁=> ∃ x dx m,ov= .ref x∧σ₁.H x=some (.inst C dx [])∧σ₁.H dx=some (.fld m)∧m name=Option.none∧
  WI D A L env pos args (fun vs σ₂=> ∀ vs',vs'.map er=vs→σ₂.H L=Option.none→Cd D A (.call (.ref f) ⟨.ref x::vs',[]⟩) (nT L σ₂ Q) (upd σ₂.H L (.ns σ₂.loc))) σ₁) σ)
 (hbase:attributeBase o name env (eval o env)=eval o env:=by rfl)
 (hfew:((backTo pos (starEach args env)).all (fun x=> !x.1) && (backToKw pos (keywordEach [] env)).all (fun x=>x.1.isSome) && decide (args.length+([]:List Keyword).length+(if ([]:List Keyword).isEmpty then 0 else 1)<30))=true:=by rfl)
 (hline:(apos.endLine==pos.line)=true:=by rfl) (hplain:(backTo pos (starEach args env)).any (·.1)=false:=by rfl):WE D A L (eval (.Call (.Attribute o name apos) args [] pos) env) Q σ:=fun Φ s R=>by
 have hform:methodCallForm (args.length+([]:List Keyword).length) (backTo pos (starEach args env)) (backToKw pos (keywordEach [] env))=true:=hfew
 have hpos:methodCallPos true o env apos pos=Pure.pure pos:=by unfold methodCallPos;simp [hline]
 rw [arm_eval_Call,hbase]
 refine wpAny_bind (wpAny_mono (h Φ s R) (fun ov s₁=>cW fun σ₁ R₁ x dx m e hx hd' hm hi=>wpAny_bind (wpAny_standAt ?_)) fun _ _ x=>x)
 rw [al e]
 refine aR (R₁.inst hx hd') fun od I hfl hod=>?_
 refine ai (cx hfl name) fun r hr er'=>?_
 have hr0:r=Option.none:=by rw [hm]at er';cases r with | none=>rfl | some v=>cases er'
 subst hr0
 unfold methodCall
 rw [hform]
 refine wpAny_bind (wpAny_holding (method_fn R₁.K I (hga _) (hk _) (hf _) (ht _) (by unfold shadowIn;dsimp only;rw [hr];rfl) ?_))
 refine wpAny_bind (wpAny_of_eq hpos ?_)
 refine callWith_of (P:=fun h=>(K0 D.w.params).In h) (by rw [hplain];rfl) (keeps_K (hkeep _)) ?_
 refine ki (P:=fun h=>(K0 D.w.params).In h) hplain (wpAny_mono (hi Φ s₁ R₁) (fun vs s₂=>ar fun σ₂ R₂ h₂=>⟨R₂.K,?_⟩) fun _ _ x=>x) R₁.K
 exact W.call (h₂ vs rfl R₂.HL) Φ s₂ R₂
theorem Cd.make{C fI:Addr}{rest:List Value}{ao:AO}{Q:Value→AH→Prop}{n:Nat}(hm:∀ P,makesIn (K0 P) C=true)(hi:∀ P,findIn (K0 P) (.ref C) "__init__" =some (some (.ref fI)))(hf:∀ P,typeIn (K0 P) (.ref fI)=some (.type "function"))
 (hao:∀ w,AtO w emptyDict ao) (hA:Ok A (n+1))
 (h:∀ x dx A',Ok A' n→H x=none→H dx=none→x≠dx→Cd D A' (.call (.ref fI) ⟨.ref x::rest,[]⟩) (fun r H'=>r= .none∧Q (.ref x) H') (upd (upd H dx ao) x (.inst C dx []))):Cd D A (.call (.ref C) ⟨rest,[]⟩) Q H:=fun Φ s R=>by
 have K:=R.K
 obtain⟨hh,g,dr,t,os⟩:=s
 refine make_core (makes_of K (hm _)) (looks_findIn K (hi _)) (fun self=>bind_fn K self (hf _)) (.inl rfl) ?_
 have R1:=R.alloc (t:=t) (ao:=ao) (Nat.le_refl hh.objs.size) (fun b o e=>Heap.get?_push_of_some emptyDict e) ⟨_,Heap.get?_push_size _ rfl,hao _⟩
 have hsz:(hh.push emptyDict).objs.size=hh.objs.size+1:=Heap.size_push ..
 have R2:=R1.alloc (t:=t) (a:=hh.objs.size+1) (ao:= .inst C hh.objs.size []) (by show(hh.push emptyDict).objs.size≤_;rw [hsz];exact Nat.le_refl _) (fun b o e=>Heap.get?_push_of_some (instObj C hh.objs.size) e)
  ⟨instObj C hh.objs.size,by have:=Heap.get?_push_size (hh.push emptyDict) (o:=instObj C hh.objs.size) rfl;rw [hsz]at this;exact this,#[],rfl,rfl⟩
 have ok':Ok (A.under (.builtin "type.__call__" ⟨.ref C::rest,[]⟩)) n:=⟨by
  have:=hA.depth
  show A.depth+1+n<900
  exact vR this,by
  have:=hA.units
  show A.units+1+20*n<9000
  exact vP this,hA.hand⟩
 have nx:H (hh.objs.size+1)=none:=R.ge _ (Nat.le_succ _)
 have nd:H hh.objs.size=none:=R.ge _ (Nat.le_refl _)
 refine codeAny_mono (h _ _ _ ok' nx nd (Nat.succ_ne_self _) Φ _ R2) fun r s'=>cG fun v H' e R' ev q=>?_
 subst e
 exact⟨iE ev,.ref (hh.objs.size+1),H',rfl,R',q⟩
end
end Mine
end
section
open PySem PySem.W PyProof.Rows PySem.Calls PySem.SeqAt
namespace Mine
variable {D:Wd}{A:Around}
theorem mv{H:AH}{x dx:Addr}{k:Str}{v u:Value}(hA:Ok A 5)(hv:er v= .ref x)(hu:er u= .str k 0)(hx:H x=some (.inst 174 dx []))(hd':H dx=some (.raw emptyDict)):
 Cd D A (.call (.ref 170) ⟨[v,u],[]⟩) (fun r H'=>r= .none∧ ∃ sa,H sa=none∧H' x=some (.inst 174 dx [some (.str k 0),some (.int 0 0),some (.ref sa)])∧H' sa=some (.list [])∧ ∀ b,b≠x→b≠sa→H' b=H b) H:=by
 obtain rfl:=al hv
 obtain⟨t,rfl⟩:=au hu
 have hxd:dx≠x:=fun e=>by rw [e]at hd';exact nomatch hx.symm.trans hd'
 refine Cd.fn (fun P=>rfl) rfl (fun P=>rfl) rfl hA (by decide) (locs rfl) (fun L hL hA'=>?_)
 refine WB.fold3 ?_
 intro A1_ env1_ Q1_
 refine W.foldL ?_
 intro lc2_ q2_
 refine B.cons (S.assignAttr (E.local (v:= .str k 0) rfl (E.local (v:= .ref x) rfl fun v' ov' e1 e2=>?_)))
 refine W.setSlot (C:=174) (p:=175) (i:=0) (fun P=>rfl) (fun P=>rfl) (fun P=>rfl) (fun P=>rfl) (fun P=>rfl) (by decide) e2 e1 hx hd' ?_
 have hd1:(upd H x (.inst 174 dx (cj [] 0 (.str k 0)))) dx=some (.raw emptyDict):=(af hxd).trans hd'
 refine W.foldL ?_
 intro lc3_ q3_
 refine B.cons (S.assignAttr (E.int (E.local (v:= .ref x) rfl fun v' ov' e1 e2=>?_)))
 refine W.setSlot (C:=174) (p:=176) (i:=1) (fun P=>rfl) (fun P=>rfl) (fun P=>rfl) (fun P=>rfl) (fun P=>rfl) (by decide) e2 e1 (ah ..) hd1 ?_
 rw [jL]
 have hd2:(upd H x (.inst 174 dx (cj (cj [] 0 (.str k 0)) 1 (.int 0 0)))) dx=some (.raw emptyDict):=(af hxd).trans hd'
 refine W.foldL ?_
 intro lc4_ q4_
 refine B.cons (S.assignAttr (E.list (I.nil ⟨Nat.zero_le _,fun sa hsa=>E.local (v:= .ref x) rfl fun v' ov' e1 e2=>?_⟩)))
 have hsa:(upd H x (.inst 174 dx (cj (cj [] 0 (.str k 0)) 1 (.int 0 0)))) sa=none:=hsa
 have hsx:sa≠x:=fun e=>by rw [e,ah]at hsa;cases hsa
 refine W.setSlot (C:=174) (p:=177) (i:=2) (sl:=cj (cj [] 0 (.str k 0)) 1 (.int 0 0)) (dx:=dx) (fun P=>rfl) (fun P=>rfl) (fun P=>rfl) (fun P=>rfl) (fun P=>rfl) (by decide) e2 e1 (aa hsa _ _ (ah ..)) (aa hsa _ _ hd2) ?_
 refine B.nil ⟨rfl,sa,(af hsx).symm.trans hsa,ah ..,?_,fun b h1 h2=>?_⟩
 ·exact(af hsx).trans (ah ..)
 ·exact(af h1).trans ((af h2).trans (af h1))
theorem hM{v:Value}:(v==Value.none)=decide (er v=Value.none):=by
 rw [Bool.eq_iff_iff,beq_iff_eq,decide_eq_true_iff]
 exact⟨fun e=>by rw [e];rfl,iE⟩
theorem O.isNotNone{D:Wd}{A:Around}{L:Addr}{σ:St}{a:Value}{Q:Value→St→Prop}(h:Q (.bool (decide (a≠Value.none))) σ):W2 D A L (compareOp .IsNot) a Value.none Q σ:=fun va vb ea eb Φ s R=>by
 rw [iE eb]
 refine PyProof.Rows.isnot_none_gen (bJ R h ?_)
 rw [hM,ea]
 by_cases q:a=Value.none<;> simp [q,er]
theorem O.isNone{D:Wd}{A:Around}{L:Addr}{σ:St}{a:Value}{Q:Value→St→Prop}(h:Q (.bool (decide (a=Value.none))) σ):W2 D A L (compareOp .Is) a Value.none Q σ:=fun va vb ea eb Φ s R=>by
 rw [iE eb]
 refine PyProof.Rows.is_none_gen (bJ R h ?_)
 rw [hM,ea]
 rfl
theorem O.isNotBool{D:Wd}{A:Around}{L:Addr}{σ:St}{a b:Bool}{Q:Value→St→Prop}(h:Q (.bool (a !=b)) σ):W2 D A L (compareOp .IsNot) (.bool a) (.bool b) Q σ:=fun va vb ea eb Φ s R=>by
 rw [eR ea,eR eb]
 refine wpAny_pure (bJ R h ?_)
 cases a<;> cases b<;> rfl
noncomputable def FLD:List Str:= [Str.ofString "_node2info",Str.ofString "_ready_nodes",Str.ofString "_npassedout",Str.ofString "_nfinished"]
theorem qa:FLD.length≤100:=by decide
theorem W.setF{D:Wd}{A:Around}{L:Addr}{σ:St}{x dx:Addr}{m:Str→Option Value}{name:Str}{vx vv v:Value}{Q:Unit→St→Prop}(ht:∀ P,takerIn (K0 P) 271 name=some Option.none)(ex:er vx= .ref x)(ev:er vv=v)
 (hx:σ.H x=some (.inst 271 dx [])) (hd':σ.H dx=some (.fld m)) (hw:∀ y,m y≠Option.none→y∈FLD) (h:Q () { σ with H:=upd σ.H dx (.fld (ca m name v))}):W D A L (setAttr vx name vv) Q σ:=
 W.setFld (C:=271) (ns:=FLD) (fun P=>rfl) (fun P=>rfl) ht (fun P=>rfl) qa ex ev hx hd' hw h
theorem cB{m:Str→Option Value}{name:Str}{v:Value}(hn:name∈FLD)(hw:∀ y,m y≠none→y∈FLD):∀ y,ca m name v y≠none→y∈FLD:=fun y hy=>by
 by_cases q:y=name
 ·rw [q];exact hn
 ·rw [dH q]at hy;exact hw y hy
theorem mP:Str.ofString "_node2info" ∈FLD∧Str.ofString "_ready_nodes" ∈FLD∧Str.ofString "_npassedout" ∈FLD∧Str.ofString "_nfinished" ∈FLD:=by decide
theorem jI{H:AH}{x dx:Addr}{v:Value}(hA:Ok A 5)(hv:er v= .ref x)(hx:H x=some (.inst 271 dx []))(hd':H dx=some (.fld fun _=>none)):
 Cd D A (.call (.ref 207) ⟨[v],[]⟩) (fun r H'=>r= .none∧ ∃ N m,H N=none∧H' N=some (.dict [] 0)∧H' dx=some (.fld m)∧m "_node2info" =some (.ref N)∧m "_ready_nodes" =some .none∧m "_npassedout" =some (.int 0 0)∧m "_nfinished" =some (.int 0 0)∧
  (∀ y,m y≠none→y∈FLD)∧ ∀ b,b≠dx→b≠N→H' b=H b) H:=by
 obtain rfl:=al hv
 have hxd:x≠dx:=fun e=>by rw [e]at hx;exact nomatch hx.symm.trans hd'
 refine cL mP fun f1 f2 f3 f4=>?_
 refine Cd.fnD (fun P=>rfl) rfl (fun P=>rfl) (fun s K=>BindsTo.of_defaults rfl (K 200 _ rfl) rfl rfl rfl) hA (by decide) (locs rfl) (fun L hL hA'=>?_)
 refine WB.fold3 ?_
 intro A5_ env5_ Q5_
 refine W.foldL ?_
 intro lc6_ q6_
 refine B.cons (S.assignAttr (E.dictEmpty fun N hN=>E.local (v:= .ref x) rfl fun v' ov' e1 e2=>?_))
 have hN:H N=none:=hN
 refine W.setF (fun P=>rfl) e2 e1 (aa hN _ _ hx) (aa hN _ _ hd') (fun y hy=>absurd rfl hy) ?_
 have x1:=(af (o:= .fld (ca (fun _=>none) "_node2info" (.ref N))) hxd).trans (aa (o:= .dict [] 0) hN _ _ hx)
 have w1:=cB (m:=fun _=>none) (v:= .ref N) f1 fun y hy=>absurd rfl hy
 refine W.foldL ?_
 intro lc7_ q7_
 refine B.cons (S.assignAttr (E.none (E.local (v:= .ref x) rfl fun v' ov' e1 e2=>?_)))
 refine W.setF (fun P=>rfl) e2 e1 x1 (ah ..) w1 ?_
 have w2:=cB (v:=Value.none) f2 w1
 refine W.foldL ?_
 intro lc8_ q8_
 refine B.cons (S.assignAttr (E.int (E.local (v:= .ref x) rfl fun v' ov' e1 e2=>?_)))
 refine W.setF (fun P=>rfl) e2 e1 ((af hxd).trans x1) (ah ..) w2 ?_
 have w3:=cB (v:= .int 0 0) f3 w2
 refine W.foldL ?_
 intro lc9_ q9_
 refine B.cons (S.assignAttr (E.int (E.local (v:= .ref x) rfl fun v' ov' e1 e2=>?_)))
 refine W.setF (fun P=>rfl) e2 e1 ((af hxd).trans ((af hxd).trans x1)) (ah ..) w3 ?_
 have w4:=cB (v:= .int 0 0) f4 w3
 have hNd:N≠dx:=fun e=>by rw [e]at hN;exact nomatch hN.symm.trans hd'
 refine W.foldL ?_
 intro lc10_ q10_
 refine B.cons (S.iteP False (T.compare (E.local (v:= .none) rfl (E.none (O.isNotNone ⟨_,rfl,by simp,rfl⟩)))) (fun h=>h.elim) (fun _=>?_))
 ·refine B.nil (B.nil ⟨rfl,N,_,hN,?_,ah ..,rfl,rfl,rfl,rfl,w4,fun b h1 h2=>?_⟩)
  ·exact(af hNd).trans ((af hNd).trans ((af hNd).trans ((af hNd).trans (ah ..))))
  ·exact(af h1).trans ((af h1).trans ((af h1).trans ((af h1).trans (af h2))))
end Mine
end
section
open PySem PySem.W PyProof.Rows PySem.Calls PySem.SeqAt
namespace Mine
section
variable {D:Wd}{A:Around}{L:Addr}{α β:Type}{σ:St}{env:Env}{Φ:Frz}{H:AH}{s:Shared}{C x dx:Addr}{m:Str→Option Value}{name:Str}
theorem W.getFld{vx v:Value}{Q:Value→St→Prop}(hga:∀ P,findIn (K0 P) (.ref C) "__getattribute__" =some (some (.builtin "object.__getattribute__")))
 (hf:∀ P od v,lookIn name od=some (some v)→findObj (K0 P) C (some od) name=some (.value v)) (ex:er vx= .ref x)
 (hx:σ.H x=some (.inst C dx [])) (hd':σ.H dx=some (.fld m)) (hm:m name=some v) (hp:gR v) (q:Q v σ):WE D A L (getAttr vx name true) Q σ:=fun Φ s R=>by
 rw [al ex]
 refine aR (R.inst hx hd') fun od I hfl hod=>?_
 refine ai (cx hfl name) fun r hr er'=>?_
 rw [hm]at er'
 refine ai (aP er') fun v' h1_ e'=>?_;obtain rfl:=h1_
 refine get_value R.K I (hga _) (hf _ _ _ hr) (ce e' hp) ⟨σ,R.tok _,?_⟩
 show Q (er v') σ
 rw [e'];exact q
theorem W.getSlot{vx v:Value}{p i:Nat}{sl:List (Option Value)}{Q:Value→St→Prop}(hga:∀ P,findIn (K0 P) (.ref C) "__getattribute__" =some (some (.builtin "object.__getattribute__")))
 (hf:∀ P,findObj (K0 P) C (some emptyDict) name=some (.bind (.builtin "member_descriptor.__get__") (.ref p))) (hk:∀ P,findIn (K0 P) (.ref C) "__getattr__" =some Option.none) (hp:∀ P,slotIn (K0 P) p C=some i) (ex:er vx= .ref x)
 (hx:σ.H x=some (.inst C dx sl)) (hd':σ.H dx=some (.raw emptyDict)) (hs:sl[i]?=some (some v)) (hpl:gR v) (q:Q v σ):WE D A L (getAttr vx name true) Q σ:=fun Φ s R=>by
 rw [al ex]
 refine ai (R.instS hx hd') fun sl' I hsl=>?_
 subst hsl
 rw [List.getElem?_map]at hs
 obtain⟨w,hw,ew⟩:∃ w,sl'.toList[i]?=some w∧w.map er=some v:=by
  cases q:sl'.toList[i]? with
  | none=>rw [q]at hs;cases hs
  | some w=>rw [q]at hs;exact⟨w,rfl,Option.some.inj hs⟩
 refine ai (aP ew) fun v' h1_ ev=>?_;obtain rfl:=h1_
 refine get_bind R.K I (hga _) (hf _) (hk _) (wpAny_call (slot_get (s:={ s with toks:=s.toks+1}) R.K I (hp _) (v:=v') (by rw [← Array.getElem?_toList,hw];rfl) ?_))
 show wpAny _ _ (handedOut v') _ _ _
 rw [handedOut_of (ce ev hpl)]
 refine wpAny_pure ⟨σ,R.tok _,?_⟩
 show Q (er v') σ
 rw [ev];exact q
theorem S.augAttr{o value:Expr}{tpos pos:Pos}{op:Operator}{Q:Flow→St→Prop}
 (h:WE D A L (eval o env) (fun ov σ₁=> ∀ ov',er ov'=ov→WE D A L (getAttr ov' name true) (fun old σ₂=>WE D A L (eval value env) (fun v σ₃=>W2 D A L (inplaceOp op) old v (fun new σ₄=> ∀ new',er new'=new→W D A L (setAttr ov' name new') (fun _ σ₅=>Q .next σ₅) σ₄) σ₃) σ₂) σ₁) σ):
 WS D A L env (.AugAssign (.Attribute o name tpos) op value pos) Q σ:=fun Φ s R=>
 wpAny_AugAssign_AttributeAny (wpAny_mono (h Φ s R) (fun ov s₁=>ar fun σ₁ R₁ h₁=>wpAny_mono (h₁ ov rfl Φ s₁ R₁) (fun old s₂=>ar fun σ₂ R₂ h₂=>wpAny_mono (h₂ Φ s₂ R₂) (fun v s₃=>ar fun σ₃ R₃ h₃=>
  wpAny_mono (h₃ old v rfl rfl Φ s₃ R₃) (fun new s₄=>ar fun σ₄ R₄ h₄=>h₄ new rfl Φ s₄ R₄) fun _ _ x=>x) fun _ _ x=>x) fun _ _ x=>x) fun _ _ x=>x)
theorem O.isubII{a b:Int}{Q:Value→St→Prop}(h:Q (.int (a-b) 0) σ):W2 D A L (inplaceOp .Sub) (.int a 0) (.int b 0) Q σ:=fun va vb ea eb F s R=>by
 obtain⟨t,rfl⟩:=aB ea
 obtain⟨u,rfl⟩:=aB eb
 exact PyProof.Rows.isub_int (done R h)
theorem O.geII{a b:Int}{Q:Value→St→Prop}(h:Q (.bool (decide (b≤a))) σ):W2 D A L (compareOp .GtE) (.int a 0) (.int b 0) Q σ:=fun va vb ea eb F s R=>by
 obtain⟨t,rfl⟩:=aB ea
 obtain⟨u,rfl⟩:=aB eb
 exact PyProof.Rows.ge_int (bJ R h)
end
end Mine
end
section
open PySem PySem.W PyProof.Rows PySem.Calls PySem.SeqAt
namespace Mine
section
variable {D:Wd}{A:Around}{L:Addr}{σ:St}{env:Env}
theorem E.named{x:Str}{px pos:Pos}{value:Expr}{Q:Value→St→Prop}(h:WE D A L (eval value env) (fun v σ₁=>Q v { σ₁ with loc:=ca σ₁.loc x v}) σ)(hL:env.locals=L:=by rfl)(hk:env.scope.kind= .function:=by rfl)(hl:env.kindOf x=some .local:=by rfl):
 WE D A L (eval (.NamedExpr (.Name x px) value pos) env) Q σ:=fun Φ s R=>
 wpAny_NamedExpr (wpAny_mono (h Φ s R) (fun v s₁=>ar fun σ₁ R₁ q=>W.assignLocal (Q:=fun _ σ'=>Q (er v) σ') q hL hk hl Φ s₁ R₁) fun _ _ x=>x)
theorem W.assignSub{o i:Expr}{p:Pos}{v:Value}{Q:Unit→St→Prop}(h:WE D A L (eval o env) (fun ov σ₁=>WE D A L (eval i env) (fun iv σ₂=> ∀ ov' iv',er ov'=ov→er iv'=iv→W D A L (setItem ov' iv' v) Q σ₂) σ₁) σ):
 W D A L (PySem.assign (.Subscript o i p) env v) Q σ:=by
 rw [assign_Subscript]
 refine W.bind (W.holding (W.mono h fun ov σ₁ h₁=>?_))
 refine W.bind (W.holding (W.mono h₁ fun iv σ₂ h₂=>?_))
 refine W.bind (W.standAt ?_)
 refine W.bind (W.holding (W.mono (h₂ ov iv rfl rfl) fun _ σ₃ q=>?_))
 exact W.release q
theorem S.assign2{t₁ t₂ value:Expr}{pos:Pos}{Q:Flow→St→Prop}(h:WE D A L (eval value env) (fun v σ₁=> ∀ v',er v'=v→W D A L (PySem.assign t₁ env v') (fun _ σ₂=>W D A L (PySem.assign t₂ env v') (fun _ σ₃=>Q .next σ₃) σ₂) σ₁) σ)
 (he:(assignEach [t₁,t₂] env).map (·.2)= [PySem.assign t₁ env,PySem.assign t₂ env]:=by rfl) (hw:swappedStores [t₁,t₂] value env=Pure.pure Option.none:=by rfl):WS D A L env (.Assign [t₁,t₂] value pos) Q σ:=fun Φ s R=>
 wpAny_Assign_two (wpAny_mono (h Φ s R) (fun v s₁=>ar fun σ₁ R₁ h₁=>wpAny_mono (h₁ v rfl Φ s₁ R₁) (fun _ s₂=>ar fun σ₂ R₂ h₂=>h₂ Φ s₂ R₂) fun _ _ x=>x) fun _ _ x=>x) he hw
end
variable {D:Wd}{A:Around}
structure Adr where
 a:Addr
 dx:Addr
 sa:Addr
structure Vw where
 ks:List Str
 np:Str→Int
 sc:Str→List Str
structure Sor (H:AH) (Sr SD N:Addr) (adr:Str→Adr) (V:Vw) (ready:Value) (po nf:Int):Prop where
 s:H Sr=some (.inst 271 SD [])
 f:∃ m,H SD=some (.fld m)∧m "_node2info" =some (.ref N)∧m "_ready_nodes" =some ready∧m "_npassedout" =some (.int po 0)∧m "_nfinished" =some (.int nf 0)∧ ∀ y,m y≠none→y∈FLD
 n:∃ ep,H N=some (.dict (V.ks.map fun t=>(t,Value.ref (adr t).a)) ep)
 i:∀ t∈V.ks,H (adr t).a=some (.inst 174 (adr t).dx [some (.str t 0),some (.int (V.np t) 0),some (.ref (adr t).sa)])∧H (adr t).dx=some (.raw emptyDict)∧H (adr t).sa=some (.list (ag (V.sc t)))
 nd:V.ks.Nodup
 sa:∀ t∈V.ks,∀ u∈V.ks,(adr t).sa=(adr u).sa→t=u
 out:∀ t,t∉V.ks→V.np t=0∧V.sc t= []
theorem Sor.mono{H H':AH}{Sr SD N:Addr}{adr:Str→Adr}{V:Vw}{ready:Value}{po nf:Int}(x:Sor H Sr SD N adr V ready po nf)(e:Ext H H'):Sor H' Sr SD N adr V ready po nf:=
 ⟨e _ _ x.s,let⟨m,a,r⟩:=x.f;⟨m,e _ _ a,r⟩,let⟨ep,h⟩:=x.n;⟨ep,e _ _ h⟩,fun t ht=>let⟨a,b,c⟩:=x.i t ht;⟨e _ _ a,e _ _ b,e _ _ c⟩,x.nd,x.sa,x.out⟩
theorem Sor.off{H:AH}{Sr SD N L:Addr}{adr:Str→Adr}{V:Vw}{ready:Value}{po nf:Int}{m:Str→Option Value}(x:Sor H Sr SD N adr V ready po nf)(hL:H L=some (.ns m)):Sor (del H L) Sr SD N adr V ready po nf:=by
 have g:∀ a o,H a=some o→(∀ m',o≠ .ns m')→del H L a=some o:=fun a o h hn=>(ay fun e=>by rw [e,hL]at h;exact hn _ (Option.some.inj h).symm).trans h
 exact⟨g _ _ x.s (by simp),let⟨m,a,r⟩:=x.f;⟨m,g _ _ a (by simp),r⟩,let⟨ep,h⟩:=x.n;⟨ep,g _ _ h (by simp)⟩,fun t ht=>let⟨a,b,c⟩:=x.i t ht;⟨g _ _ a (by simp),g _ _ b (by simp),g _ _ c (by simp)⟩,x.nd,x.sa,x.out⟩
noncomputable def Vw.touch(V:Vw)(k:Str):Vw:=⟨if k∈V.ks then V.ks else V.ks++ [k],V.np,V.sc⟩
noncomputable def Vw.setN(V:Vw)(k:Str)(n:Int):Vw:=⟨V.ks,fun y=>if y=k then n else V.np y,V.sc⟩
noncomputable def Vw.setS(V:Vw)(k:Str)(s:List Str):Vw:=⟨V.ks,V.np,fun y=>if y=k then s else V.sc y⟩
theorem Vw.mem_touch{V:Vw}{k:Str}:k∈(V.touch k).ks:=by
 unfold Vw.touch;dsimp only
 by_cases h:k∈V.ks<;> simp [h]
theorem Vw.touch_len{V:Vw}{k:Str}:(V.touch k).ks.length≤V.ks.length+1:=by
 unfold Vw.touch;dsimp only
 by_cases q:k∈V.ks<;> simp [q]
theorem Sor.inj{H:AH}{Sr SD N:Addr}{adr:Str→Adr}{V:Vw}{ready:Value}{po nf:Int}(x:Sor H Sr SD N adr V ready po nf){t u:Str}(ht:t∈V.ks)(hu:u∈V.ks)(e:(adr t).a=(adr u).a):t=u:=by
 have a:=(x.i t ht).1
 have b:=(x.i u hu).1
 rw [e,b]at a
 simp at a
 exact a.2.1.symm
theorem Sor.setN{H:AH}{Sr SD N:Addr}{adr:Str→Adr}{V:Vw}{ready:Value}{po nf:Int}{k:Str}(x:Sor H Sr SD N adr V ready po nf)(hk:k∈V.ks)(n:Int):
 Sor (upd H (adr k).a (.inst 174 (adr k).dx [some (.str k 0),some (.int n 0),some (.ref (adr k).sa)])) Sr SD N adr (V.setN k n) ready po nf:=by
 refine aE (x.i k hk) fun ka kb kc=>?_
 have g:∀ a o,H a=some o→(∀ sl dx,o≠ .inst 174 dx sl)→upd H (adr k).a (.inst 174 (adr k).dx [some (.str k 0),some (.int n 0),some (.ref (adr k).sa)]) a=some o:=fun a o h hn=>(af fun e=>by rw [e,ka]at h;exact hn _ _ (Option.some.inj h).symm).trans h
 refine⟨g _ _ x.s (by simp),let⟨m,a,r⟩:=x.f;⟨m,g _ _ a (by simp),r⟩,let⟨ep,h⟩:=x.n;⟨ep,g _ _ h (by simp)⟩,fun t ht=>?_,x.nd,x.sa,fun t ht=>?_⟩
 ·refine aE (x.i t ht) fun a b c=>?_
  refine⟨?_,g _ _ b (by simp),g _ _ c (by simp)⟩
  show _=some (AO.inst 174 (adr t).dx [_,some (.int (if t=k then n else V.np t) 0),_])
  by_cases e:t=k
  ·subst e;rw [ah,if_pos rfl]
  ·rw [if_neg e,af fun q=>e (x.inj ht hk q)];exact a
 ·have:t≠k:=fun e=>ht (e▸hk)
  show(if t=k then n else V.np t)=0∧V.sc t= []
  rw [if_neg this];exact x.out t ht
theorem Sor.setS{H:AH}{Sr SD N:Addr}{adr:Str→Adr}{V:Vw}{ready:Value}{po nf:Int}{k:Str}(x:Sor H Sr SD N adr V ready po nf)(hk:k∈V.ks)(s:List Str):
 Sor (upd H (adr k).sa (.list (ag s))) Sr SD N adr (V.setS k s) ready po nf:=by
 refine aE (x.i k hk) fun ka kb kc=>?_
 have g:∀ a o,H a=some o→(∀ l,o≠ .list l)→upd H (adr k).sa (.list (ag s)) a=some o:=fun a o h hn=>(af fun e=>by rw [e,kc]at h;exact hn _ (Option.some.inj h).symm).trans h
 refine⟨g _ _ x.s (by simp),let⟨m,a,r⟩:=x.f;⟨m,g _ _ a (by simp),r⟩,let⟨ep,h⟩:=x.n;⟨ep,g _ _ h (by simp)⟩,fun t ht=>?_,x.nd,x.sa,fun t ht=>?_⟩
 ·refine aE (x.i t ht) fun a b c=>?_
  refine⟨g _ _ a (by simp),g _ _ b (by simp),?_⟩
  show _=some (AO.list (ag (if t=k then s else V.sc t)))
  by_cases e:t=k
  ·subst e;rw [ah,if_pos rfl]
  ·rw [if_neg e,af fun q=>e (x.sa t ht k hk q)];exact c
 ·have:t≠k:=fun e=>ht (e▸hk)
  show V.np t=0∧(if t=k then s else V.sc t)= []
  rw [if_neg this];exact x.out t ht
theorem eX{es:List (Str×Value)}{k:Str}(h:k∉es.map (·.1)):valueAt es k=none:=by
 unfold valueAt
 rw [List.find?_eq_none.mpr fun p hp=>?_];rfl
 simp only [decide_eq_true_eq]
 exact fun e=>h (List.mem_map.mpr ⟨p,hp,e⟩)
theorem bF{f:Str→Value}:∀ {Tv:List Str} {k:Str},k∈Tv→valueAt (Tv.map fun t=>(t,f t)) k=some (f k)
 | [],k,h=>nomatch h
 | t::r,k,h=>by
  unfold valueAt
  rw [List.map_cons,List.find?_cons]
  by_cases e:t=k
  ·simp [e]
  ·simp only [e,decide_false]
   exact bF ((List.mem_cons.mp h).resolve_left fun q=>e q.symm)
theorem jw{f:Str→Value}(Tv:List Str):(Tv.map fun t=>(t,f t)).map (·.1)=Tv:=by simp [Function.comp_def]
theorem vF{H:AH}{Sr SD N:Addr}{adr:Str→Adr}{V:Vw}{ready:Value}{po nf:Int}{k:Str}{v u:Value}(hA:Ok A 9)(hv:er v= .ref Sr)(hu:er u= .str k 0)(X:Sor H Sr SD N adr V ready po nf)(hT:V.ks.length≤1000):
 Cd D A (.call (.ref 214) ⟨[v,u],[]⟩) (fun r H'=> ∃ adr',r= .ref (adr' k).a∧Sor H' Sr SD N adr' (V.touch k) ready po nf∧(∀ b o,b≠N→H b=some o→H' b=some o)∧(∀ t∈V.ks,adr' t=adr t)∧
  (k∉V.ks→H (adr' k).a=none∧H (adr' k).sa=none)) H:=by
 obtain rfl:=al hv
 obtain⟨t,rfl⟩:=au hu
 refine cz X.f fun m hm m1 m2 m3 m4 mw=>?_
 obtain⟨ep,hN⟩:=X.n
 refine Cd.fn (fun P=>rfl) rfl (fun P=>rfl) rfl hA (by decide) (locs rfl) (fun L hL hA'=>?_)
 refine WB.fold3 ?_
 intro A2_ env2_ Q2_
 let I1:St→Prop:=fun σ=> ∃ adr',σ.loc "result" =some (.ref (adr' k).a)∧Sor σ.H Sr SD N adr' (V.touch k) ready po nf∧(∀ b o,b≠N→H b=some o→σ.H b=some o)∧(∀ t∈V.ks,adr' t=adr t)∧(k∉V.ks→H (adr' k).a=none∧H (adr' k).sa=none)
 refine W.foldL ?_
 intro lc3_ q3_
 refine B.seq I1 ?_ ?_
 ·refine S.ite (T.compare (E.named (E.meth (T:= "dict") (id:= "dict.get") F.plainAttrs_dict F.slot_dict_get (by kernel_rfl) (E.attrFld (C:=271) (fun P=>rfl) (fun P od v h=>by show Option.bind (lookIn _ od) _=_;rw [h];rfl) (E.local (v:= .ref Sr) rfl ⟨Sr,SD,m,_,rfl,X.s,hm,m1,trivial,⟨_,hN,rfl⟩,I.cons (E.local (v:= .str k 0) rfl (I.nil (M.dictGet hN (E.none (O.isNone ⟨_,rfl,?_⟩)))))⟩)))))
  by_cases hk:k∈V.ks
  ·rw [bF hk]
   show WB _ _ _ _ [] _ _
   have ht:V.touch k=V:=by unfold Vw.touch;rw [if_pos hk]
   exact B.nil ⟨adr,rfl,by rw [ht];exact X,fun b o _ h=>h,fun t _=>rfl,fun h=>absurd hk h⟩
  ·rw [eX (by rw [jw];exact hk)]
   refine W.foldL ?_
   intro lc4_ q4_
   refine B.cons (S.assign2 (E.callFn (f:=174) (fun P=>rfl) (fun P=>rfl) (I.cons (E.local (v:= .str k 0) rfl (I.nil ?_)))))
   intro vs' hvs hLn
   have hLn:H L=none:=hLn
   refine d7 hvs fun v1 ev1=>?_
   refine Cd.make (C:=174) (fI:=170) (ao:= .raw emptyDict) (n:=7) (fun P=>rfl) (fun P=>rfl) (fun P=>rfl) (fun w=>rfl) hA' fun x dx A2 hA2 hx hdx hne=>?_
   refine Cd.mono (mv (hA2.mono (by decide)) rfl ev1 (ah ..) ((af hne.symm).trans (ah ..))) ?_
   rintro r H' h2_;refine o7 h2_ fun er0 sa hsa h1 h2 h3=>?_;clear h2_
   refine⟨er0,?_⟩
   have xL:x≠L:=fun e=>by rw [e]at hx;exact nomatch hx.symm.trans (ah ..)
   have dL:dx≠L:=fun e=>by rw [e]at hdx;exact nomatch hdx.symm.trans (ah ..)
   have hx0:H x=none:=(af xL).symm.trans hx
   have hd0:H dx=none:=(af dL).symm.trans hdx
   have sax:sa≠x:=fun e=>by rw [e,ah]at hsa;cases hsa
   have sad:sa≠dx:=fun e=>by rw [e,af hne.symm,ah]at hsa;cases hsa
   have sa1:=(af sad).symm.trans ((af sax).symm.trans hsa)
   have saL:sa≠L:=fun e=>by rw [e]at sa1;exact nomatch sa1.symm.trans (ah ..)
   have hsa0:H sa=none:=(af saL).symm.trans sa1
   have hL':H' L=some (.ns _):=(h3 L xL.symm saL.symm).trans ((af xL.symm).trans ((af dL.symm).trans (ah ..)))
   refine⟨hL',?_⟩
   have ext:Ext H (del H' L):=fun b o hb=>by
    have bL:b≠L:=fun e=>by rw [e,hLn]at hb;cases hb
    have bx:b≠x:=fun e=>by rw [e,hx0]at hb;cases hb
    have bd:b≠dx:=fun e=>by rw [e,hd0]at hb;cases hb
    have bs:b≠sa:=fun e=>by rw [e,hsa0]at hb;cases hb
    rw [ay bL,h3 b bx bs,af bx,af bd,af bL];exact hb
   have hx':del H' L x=some (.inst 174 dx [some (.str k 0),some (.int 0 0),some (.ref sa)]):=(ay xL).trans h1
   have hsa':del H' L sa=some (.list []):=(ay saL).trans h2
   have hdx':del H' L dx=some (.raw emptyDict):=(ay dL).trans ((h3 dx hne.symm sad.symm).trans ((af hne.symm).trans (ah ..)))
   have X1:=X.mono ext
   have hN1:=ext _ _ hN
   have hm1:=ext _ _ hm
   generalize del H' L=Hs at ext hx' hsa' hdx' X1 hN1 hm1
   intro v' ev'
   refine W.assignSub (E.attrFld (C:=271) (fun P=>rfl) (fun P od v h=>by show Option.bind (lookIn _ od) _=_;rw [h];rfl) (E.local (v:= .ref Sr) rfl ⟨Sr,SD,m,_,rfl,X1.s,hm1,m1,trivial,E.local (v:= .str k 0) rfl fun ov' iv' eo ei=>?_⟩))
   refine W.setDict eo ei ev' hN1 (aq (by rw [List.length_map];exact hT)) fun ep'=>?_
   rw [dn _ _ _ (by rw [jw];exact hk)]
   refine W.assignLocal ?_
   rw [ev']
   have hNx:N≠x:=aA hN1 hx'
   have hNd:N≠dx:=aA hN1 hdx'
   have hNs:N≠sa:=aA hN1 hsa'
   have hNm:N≠SD:=aA hN1 hm1
   have hNS:N≠Sr:=aA hN1 X1.s
   have ne:∀ t∈V.ks,t≠k:=fun t ht e=>hk (e▸ht)
   obtain⟨adr',ha⟩:∃ f:Str→Adr,f=fun y=>if y=k then⟨x,dx,sa⟩else adr y:=⟨_,rfl⟩
   have ak:adr' k=⟨x,dx,sa⟩:=by rw [ha];exact if_pos rfl
   have ao:∀ t∈V.ks,adr' t=adr t:=fun t ht=>by rw [ha];exact if_neg (ne t ht)
   clear ha
   refine B.nil ⟨adr',?_,?_,fun b o hb h=>(af hb).trans (ext _ _ h),ao,fun _=>by rw [ak];exact⟨hx0,hsa0⟩⟩
   ·rw [ak];rfl
   ·have ht:V.touch k=⟨V.ks++ [k],V.np,V.sc⟩:=by unfold Vw.touch;rw [if_neg hk]
    rw [ht]
    have old:∀ t∈V.ks,(adr t).sa≠sa:=fun t ht e=>by
     have:=(X.i t ht).2.2
     rw [e]at this;exact nomatch hsa0.symm.trans this
    refine⟨(af hNS.symm).trans X1.s,⟨m,(af hNm.symm).trans hm1,m1,m2,m3,m4,mw⟩,⟨ep',?_⟩,?_,?_,?_,?_⟩
    ·show upd _ _ _ _=some (AO.dict ((V.ks++ [k]).map _) _)
     rw [List.map_append,ah]
     congr 3
     ·exact List.map_congr_left fun t ht=>by rw [ao t ht]
     ·rw [List.map_cons,ak];rfl
    ·intro t ht
     rcases List.mem_append.mp ht with h | h
     ·rw [ao t h]
      refine aE (X1.i t h) fun i1 i2 i3=>?_
      exact⟨(af (aA i1 hN1)).trans i1,(af (aA i2 hN1)).trans i2,(af (aA i3 hN1)).trans i3⟩
     ·obtain⟨o1,o2⟩:=X.out k hk
      rw [List.mem_singleton.mp h,ak,o1,o2]
      exact⟨(af hNx.symm).trans hx',(af hNd.symm).trans hdx',(af hNs.symm).trans hsa'⟩
    ·exact List.nodup_append.mpr ⟨X1.nd,by simp,fun a ha b hb e=>by simp at hb;subst hb;subst e;exact hk ha⟩
    ·intro t ht u hu e
     rcases List.mem_append.mp ht with h | h<;> rcases List.mem_append.mp hu with h' | h'
     ·rw [ao t h,ao u h']at e;exact X.sa t h u h' e
     ·rw [List.mem_singleton.mp h',ao t h,ak]at e;exact absurd e (old t h)
     ·rw [List.mem_singleton.mp h,ao u h',ak]at e;exact absurd e.symm (old u h')
     ·rw [List.mem_singleton.mp h,List.mem_singleton.mp h']
    ·exact fun t ht=>X.out t fun q=>ht (List.mem_append_left _ q)
 ·rintro⟨loc,Hs⟩ h1_;refine ai h1_ fun adr' g1 g2=>?_;clear h1_
  refine W.foldL ?_
  intro lc5_ q5_
  refine B.cons (S.ret (E.local (v:= .ref (adr' k).a) g1 ?_))
  intro v' hv'
  exact⟨adr',hv',g2⟩
end Mine
end
section
open PySem PySem.W PyProof.Rows PySem.Calls PySem.SeqAt
namespace Mine
variable {D:Wd}{A:Around}
noncomputable def Foot(SD N:Addr)(adr:Str→Adr)(V:Vw)(b:Addr):Prop:=b=SD∨b=N∨ ∃ t∈V.ks,b=(adr t).a∨b=(adr t).sa
structure Grow (H H':AH) (P P':Addr→Prop):Prop where
 keep:∀ b o,H b=some o→ ¬ P b→H' b=some o
 foot:∀ b,P' b→P b∨H b=none
theorem Grow.refl{H:AH}{P:Addr→Prop}:Grow H H P P:=⟨fun _ _ h _=>h,fun _ h=> .inl h⟩
theorem Grow.trans{H H' H'':AH}{P P' P'':Addr→Prop}(x:Grow H H' P P')(y:Grow H' H'' P' P''):Grow H H'' P P'':=
 ⟨fun b o h n=>y.keep b o (x.keep b o h n) fun q=>(x.foot b q).elim n fun e=>(nomatch e.symm.trans h),fun b q=>(y.foot b q).elim (x.foot b) fun e=>by
  by_cases p:P b
  ·exact .inl p
  ·cases h:H b with
   | none=>exact .inr rfl
   | some o=>exact nomatch e.symm.trans (x.keep b o h p)⟩
theorem Grow.ext{H H':AH}{P:Addr→Prop}(e:Ext H H'):Grow H H' P P:=⟨fun b o h _=>e b o h,fun _ h=> .inl h⟩
theorem Grow.upd{H:AH}{P:Addr→Prop}{a:Addr}(o:AO)(h:P a):Grow H (Mine.upd H a o) P P:=⟨fun b o h' n=>(af fun e=>n (by rw [e];exact h)).trans h',fun _ h=> .inl h⟩
theorem Grow.off{H H':AH}{P P':Addr→Prop}{L:Addr}{o:AO}(hn:H L=none)(x:Grow (Mine.upd H L o) H' P P'):Grow H (del H' L) P P':=
 ⟨fun b o h n=>by
  have bL:b≠L:=fun e=>by rw [e,hn]at h;cases h
  rw [ay bL];exact x.keep b o ((af bL).trans h) n,fun b q=>(x.foot b q).imp id fun e=>by
  by_cases bL:b=L
  ·rw [bL];exact hn
  ·rw [af bL]at e;exact e⟩
theorem Sor.apart{H:AH}{Sr SD N b:Addr}{adr:Str→Adr}{V:Vw}{ready:Value}{po nf:Int}(x:Sor H Sr SD N adr V ready po nf){m:Str→Option Value}(h:H b=some (.ns m)):¬ Foot SD N adr V b:=by
 rintro(rfl | rfl | ⟨t,ht,rfl | rfl⟩)
 ·refine ai x.f fun _ e _=>?_;exact nomatch h.symm.trans e
 ·obtain⟨_,e⟩:=x.n;exact nomatch h.symm.trans e
 ·exact nomatch h.symm.trans (x.i t ht).1
 ·exact nomatch h.symm.trans (x.i t ht).2.2
theorem Sor.apartT{H:AH}{Sr SD N b:Addr}{adr:Str→Adr}{V:Vw}{ready:Value}{po nf:Int}(x:Sor H Sr SD N adr V ready po nf){vs:List Value}(h:H b=some (.tuple vs)):¬ Foot SD N adr V b:=by
 rintro(rfl | rfl | ⟨t,ht,rfl | rfl⟩)
 ·refine ai x.f fun _ e _=>?_;exact nomatch h.symm.trans e
 ·obtain⟨_,e⟩:=x.n;exact nomatch h.symm.trans e
 ·exact nomatch h.symm.trans (x.i t ht).1
 ·exact nomatch h.symm.trans (x.i t ht).2.2
theorem Cd.sor{c:Code}{H:AH}{L Sr SD N:Addr}{adr:Str→Adr}{V V':Vw}{ready ready':Value}{po nf po' nf':Int}{m:Str→Option Value}{P:Value→AH→(Str→Adr)→Prop}{Q:Value→St→Prop}(hn:H L=none)(X:Sor H Sr SD N adr V ready po nf)
 (h:Cd D A c (fun r H'=> ∃ adr',P r H' adr'∧Sor H' Sr SD N adr' V' ready' po' nf'∧Grow (upd H L (.ns m)) H' (Foot SD N adr V) (Foot SD N adr' V')) (upd H L (.ns m)))
 (k:∀ r adr' H1,P r H1 adr'→H1 L=some (.ns m)→Sor (del H1 L) Sr SD N adr' V' ready' po' nf'→Grow H (del H1 L) (Foot SD N adr V) (Foot SD N adr' V')→Q r ⟨m,del H1 L⟩):Cd D A c (nT L ⟨m,H⟩ Q) (upd H L (.ns m)):=h.mono fun r H'=>aK fun adr' p x g=>by
 have XL:=X.mono (aa (o:= .ns m) hn)
 have hL:=g.keep _ _ (ah H L (.ns m)) (XL.apart (m:=m) (ah ..))
 exact⟨hL,k r adr' H' p hL (x.off hL) (g.off hn)⟩
theorem pg{H:AH}{Sr SD N:Addr}{adr:Str→Adr}{V:Vw}{ready:Value}{po nf:Int}{k:Str}{v u:Value}(hA:Ok A 9)(hv:er v= .ref Sr)(hu:er u= .str k 0)(X:Sor H Sr SD N adr V ready po nf)(hT:V.ks.length≤1000):
 Cd D A (.call (.ref 214) ⟨[v,u],[]⟩) (fun r H'=> ∃ adr',(r= .ref (adr' k).a∧ ∀ t∈V.ks,adr' t=adr t)∧Sor H' Sr SD N adr' (V.touch k) ready po nf∧Grow H H' (Foot SD N adr V) (Foot SD N adr' (V.touch k))) H:=
 (vF hA hv hu X hT).mono fun r H'=>ln fun adr' e x g ad fr=>⟨adr',⟨e,ad⟩,x,fun b o h n=>g b o (fun e=>n (.inr (.inl e))) h,fun b q=>by
  rcases q with e | e | ⟨t,ht,e3⟩
  ·exact .inl (.inl e)
  ·exact .inl (.inr (.inl e))
  ·by_cases hk:t∈V.ks
   ·rw [ad t hk]at e3
    exact .inl (.inr (.inr ⟨t,hk,e3⟩))
   ·have:t=k:=by
     unfold Vw.touch at ht;dsimp only at ht
     by_cases q:k∈V.ks
     ·rw [if_pos q]at ht;exact absurd ht hk
     ·rw [if_neg q]at ht;simpa [hk] using ht
    subst this
    obtain⟨f1,f2⟩:=fr hk
    exact .inr (e3.elim (fun q=>q.symm▸f1) fun q=>q.symm▸f2)⟩
theorem bD{m:Str→Option Value}{name:Str}(hw:∀ y,m y≠none→y∈FLD)(h:name∉FLD):m name=none:=by
 cases q:m name with
 | none=>rfl
 | some v=>exact absurd (hw name (by rw [q];simp)) h
noncomputable def Vw.add(V:Vw)(k p:Str):Vw:=((((V.touch k).setN k (V.np k+1)).touch p).setS p (V.sc p++ [k]))
theorem F.lenTuple{L:Addr}{σ:St}{l:Addr}{vs:List Value}{Q:Value→St→Prop}(hl:σ.H l=some (.tuple vs))(hz:vs.length<2 ^ 62)(h:Q (.int vs.length 0) σ):Cb D A L "len" [.ref l] Q σ:=fun vs' e Φ s R=>by
 refine d7 e fun v1 e1=>?_;refine aV e1 ?_
 refine ai (R.tupleOf hl) fun its hi ei=>?_
 have hs:=aM ei
 exact PyProof.Rows.len_tuple hi (by exact rk hs hz) (done R h (by rw [hs];rfl))
theorem vH{H:AH}{Sr SD N:Addr}{adr:Str→Adr}{V:Vw}{po nf:Int}{k p:Str}{v u w:Value}(hA:Ok A 12)(hv:er v= .ref Sr)(hu:er u= .str k 0)(hw:er w= .str p 0)(X:Sor H Sr SD N adr V .none po nf)(hT:V.ks.length≤900)(hS:(V.sc p).length≤900):
 Cd D A (.call (.ref 221) ⟨[v,u,w],[]⟩) (fun r H'=> ∃ adr',(r= .none)∧Sor H' Sr SD N adr' (V.add k p) .none po nf∧Grow H H' (Foot SD N adr V) (Foot SD N adr' (V.add k p))) H:=by
 obtain rfl:=al hv
 obtain⟨t,rfl⟩:=au hu
 refine Cd.fnStar (pre:= [("self",.ref Sr),("node",.str k t)]) (nm:= "predecessors") (rest:= [w]) (fun P=>rfl) rfl (fun P=>rfl) rfl eg hA (by decide) (by intro t x hx;simp at hx;rcases hx with rfl | rfl | rfl<;> rfl) (fun tp L htp hL hA'=>?_)
 have hps:(upd H tp (.tuple ([w].map er))) tp=some (.tuple [.str p 0]):=by rw [ah];simp [hw]
 have X1:=X.mono (aa (o:= .tuple ([w].map er)) htp)
 have gr:Grow H (upd H tp (.tuple ([w].map er))) (Foot SD N adr V) (Foot SD N adr V):=Grow.ext (aa (o:= .tuple ([w].map er)) htp)
 have tpF:=X1.apartT (b:=tp) (vs:= [.str p 0]) hps
 generalize (upd H tp (.tuple ([w].map er)))=Ht at X1 gr hps
 refine cz X1.f fun m hm m1 m2 m3 m4 mw=>?_
 refine WB.fold3 ?_
 intro A1_ env1_ Q1_
 refine W.foldL ?_
 intro lc2_ q2_
 refine B.cons (S.iteP False (T.compare (E.attrFld (C:=271) (fun P=>rfl) (fun P od v h=>by show Option.bind (lookIn _ od) _=_;rw [h];rfl) (E.local (v:= .ref Sr) rfl ⟨Sr,SD,m,_,rfl,X1.s,hm,m2,trivial,E.none (O.isNotNone ⟨_,rfl,by simp,rfl⟩)⟩))) (fun h=>h.elim) (fun _=>?_))
 refine B.nil ?_
 refine W.foldL ?_
 intro lc3_ q3_
 refine B.cons (S.assign (E.methOwn (C:=271) (f:=214) (fun P=>rfl) (fun P=>rfl) (fun P=>rfl) (fun P=>rfl) (fun P=>rfl) (E.local (v:= .ref Sr) rfl ⟨Sr,SD,m,rfl,X1.s,hm,bD mw (by decide),I.cons (E.local (v:= .str k 0) rfl (I.nil ?_))⟩)))
 intro vs' hvs hLn
 refine d7 hvs fun v1 ev1=>?_
 refine Cd.sor hLn X1 (pg (hA'.mono (by decide)) rfl ev1 (X1.mono (aa hLn)) (by exact lD hT)) ?_
 rintro r adr1 H1 ⟨er1,ad1⟩ hL1 X2 g1
 subst er1
 generalize del H1 L=H2 at X2 g1
 have hk2:=Vw.mem_touch (V:=V) (k:=k)
 refine aE (X2.i k hk2) fun ka kb kc=>?_
 have hp2:=g1.keep _ _ hps tpF
 refine W.foldL ?_
 intro lc4_ q4_
 refine B.cons (S.augAttr (E.local (v:= .ref (adr1 k).a) rfl fun ov' eo=>?_))
 refine W.getSlot (C:=174) (p:=176) (i:=1) (fun P=>rfl) (fun P=>rfl) (fun P=>rfl) (fun P=>rfl) eo ka kb rfl trivial ?_
 refine E.callB (id:= "len") (fun P=>rfl) (by kernel_rfl) (I.cons (E.local (v:= .ref tp) rfl (I.nil (F.lenTuple hp2 (by show 1<2 ^ 62;decide) (O.iaddII ?_)))))
 intro new' en
 refine W.setSlot (C:=174) (p:=176) (i:=1) (fun P=>rfl) (fun P=>rfl) (fun P=>rfl) (fun P=>rfl) (fun P=>rfl) (by decide) eo en ka kb ?_
 have X3:=X2.setN hk2 (V.np k+1)
 have g2:=g1.trans (Grow.upd (AO.inst 174 (adr1 k).dx [some (.str k 0),some (.int (V.np k+1) 0),some (.ref (adr1 k).sa)]) (.inr (.inr ⟨k,hk2,.inl rfl⟩)))
 have hp3:=(af (o:=AO.inst 174 (adr1 k).dx [some (.str k 0),some (.int (V.np k+1) 0),some (.ref (adr1 k).sa)]) (aA hp2 ka)).trans hp2
 show WB _ _ _ _ _ _ ⟨_,upd H2 (adr1 k).a (AO.inst 174 (adr1 k).dx [some (.str k 0),some (.int (V.np k+1) 0),some (.ref (adr1 k).sa)])⟩
 generalize upd H2 (adr1 k).a _=H3 at X3 g2 hp3
 have gr3:=gr.trans g2
 clear gr g2 g1
 refine W.foldL ?_
 intro lc5_ q5_
 refine B.cons ?_
 let I6:Nat→St→Prop:=fun j σ=>σ.H tp=some (.tuple [.str p 0])∧(j=0→σ.H=H3∧σ.loc "self" =some (.ref Sr)∧σ.loc "node" =some (.str k 0))∧(j=1→ ∃ adr',Sor σ.H Sr SD N adr' (V.add k p) .none po nf∧Grow H σ.H (Foot SD N adr V) (Foot SD N adr' (V.add k p)))
 refine S.forTuple tp [.str p 0] I6 hA'.hand
  (E.local (v:= .ref tp) rfl ⟨rfl,hp3,fun _=>⟨rfl,rfl,rfl⟩,fun h=>by cases h⟩) (fun k σ h=>h.1) ?_ ?_
 ·rintro j ⟨loc,Hs⟩ v hj h4_;refine aE h4_ fun _ g2 _=>?_;clear h4_;rintro hv
  obtain rfl:j=0:=by simp at hj;exact hj
  obtain⟨rfl,l1,l2⟩:=g2 rfl
  dsimp only at l1 l2
  have hv:er v= .str p 0:=hv
  refine W.assignLocal ?_
  rw [hv]
  refine cz X3.f fun m hm m1 m2 m3 m4 mw=>?_
  refine W.foldL ?_
  intro lc7_ q7_
  refine B.cons (S.assign (E.methOwn (C:=271) (f:=214) (fun P=>rfl) (fun P=>rfl) (fun P=>rfl) (fun P=>rfl) (fun P=>rfl) (E.local (v:= .ref Sr) l1 ⟨Sr,SD,m,rfl,X3.s,hm,bD mw (by decide),I.cons (E.local (v:= .str p 0) rfl (I.nil ?_))⟩)))
  intro vs' hvs hLn
  refine d7 hvs fun v1 ev1=>?_
  refine Cd.sor hLn X3 (pg (hA'.mono (by decide)) rfl ev1 (X3.mono (aa hLn)) (by have:=Vw.touch_len (V:=V) (k:=k);show(V.touch k).ks.length≤_;exact uf this hT)) ?_
  rintro r adr2 H4 ⟨er2,ad2⟩ hL4 X4 g4
  subst er2
  have tpF3:=X3.apartT hp3
  have hp4:=g4.keep _ _ hp3 tpF3
  generalize del H4 L=H5 at X4 g4 hp4
  have hk4:=Vw.mem_touch (V:=(V.touch k).setN k (V.np k+1)) (k:=p)
  refine aE (X4.i p hk4) fun pa pb pc=>?_
  refine W.foldL ?_
  intro lc8_ q8_
  refine B.cons (S.expr (E.meth (T:= "list") (id:= "list.append") F.plainAttrs_list F.slot_list_append (by kernel_rfl) (E.attrSlot (C:=174) (p:=177) (i:=2) (fun P=>rfl) (fun P=>rfl) (fun P=>rfl) (fun P=>rfl) (E.local (v:= .ref (adr2 p).a) rfl ⟨_,_,_,_,rfl,pa,pb,rfl,trivial,⟨_,pc,rfl⟩,I.cons (E.local (v:= .str k 0) l2 (I.nil ?_))⟩))))
  refine M.append pc (aq (by rw [ae];show(V.sc p).length≤1000;exact lD hS)) ?_
  have X5:=X4.setS hk4 (V.sc p++ [k])
  have e5:ag (((V.touch k).setN k (V.np k+1)).touch p |>.sc p)++ [.str k 0]=ag (V.sc p++ [k]):=(bc ..).symm
  rw [e5]
  refine B.nil ?_
  refine⟨(af (aA hp4 pc)).trans hp4,fun h=>(nomatch h),fun _=>⟨adr2,X5,?_⟩⟩
  exact(gr3.trans g4).trans (Grow.upd _ (.inr (.inr ⟨p,hk4,.inr rfl⟩)))
 ·rintro⟨loc,Hs⟩ h1_;refine aE h1_ fun _ _ g=>?_;clear h1_
  refine ai (g rfl) fun adr' x g=>?_
  exact B.nil (B.nil ⟨adr',rfl,x,g⟩)
end Mine
end
section
open PySem PySem.W PyProof.Rows PySem.Calls PySem.SeqAt
namespace Mine
variable {D:Wd}{A:Around}
theorem E.info{L:Addr}{σ:St}{env:Env}{e i:Expr}{pos:Pos}{Q:Value→St→Prop}
 (h:WE D A L (eval e env) (fun o σ₁=> ∃ d,o= .ref d∧WE D A L (eval i env) (fun v σ₂=> ∃ (x:Str) (ks:List Str) (f:Str→Value) (ep:Nat),v= .str x 0∧x∈ks∧σ₂.H d=some (.dict (ks.map fun t=>(t,f t)) ep)∧Q (f x) σ₂) σ₁) σ)
 (hsl:∀ o j,subscripted i false o j=operate [o,j] (getItem o j):=by intro _ _;rfl):WE D A L (eval (.Subscript e i pos) env) Q σ:=
 E.sub (T:= "dict") (id:= "dict.__getitem__") (by kernel_rfl) (W.mono h fun o σ₁=>ar fun d eo h₁=>W.mono h₁ fun v σ₂=>eS fun x ks f ep ev hx hd q=>by
  rw [eo,ev]
  exact⟨⟨_,hd,rfl⟩,O.itemDict hd (bF hx) q⟩) hsl
structure SorR (H:AH) (Sr SD N:Addr) (adr:Str→Adr) (V:Vw) (q:Addr) (R:List Str) (po nf:Int):Prop where
 x:Sor H Sr SD N adr V (.ref q) po nf
 hq:H q=some (.list (ag R))
 nq:∀ t∈V.ks,q≠(adr t).sa
noncomputable def FootR(SD N:Addr)(adr:Str→Adr)(V:Vw)(q b:Addr):Prop:=Foot SD N adr V b∨b=q
section
variable {H H':AH}{Sr SD N q L:Addr}{adr:Str→Adr}{V:Vw}{ready:Value}{R:List Str}{po nf:Int}
theorem Sor.setReady(x:Sor H Sr SD N adr V ready po nf):∃ m,H SD=some (.fld m)∧m "_node2info" =some (.ref N)∧m "_ready_nodes" =some ready∧m "_npassedout" =some (.int po 0)∧m "_nfinished" =some (.int nf 0)∧(∀ y,m y≠none→y∈FLD)∧
 (∀ r',Sor (upd H SD (.fld (ca m "_ready_nodes" r'))) Sr SD N adr V r' po nf)∧(∀ p',Sor (upd H SD (.fld (ca m "_npassedout" (.int p' 0)))) Sr SD N adr V ready p' nf)∧(∀ n',Sor (upd H SD (.fld (ca m "_nfinished" (.int n' 0)))) Sr SD N adr V ready po n'):=by
 refine cz x.f fun m hm m1 m2 m3 m4 mw=>?_
 refine cL mP fun f1 f2 f3 f4=>?_
 have g:∀ mm a o,H a=some o→(∀ m',o≠ .fld m')→upd H SD (.fld mm) a=some o:=fun mm a o h hn=>(af fun e=>by rw [e,hm]at h;exact hn _ (Option.some.inj h).symm).trans h
 have go:∀ mm r' p' n',mm "_node2info" =some (.ref N)→mm "_ready_nodes" =some r'→mm "_npassedout" =some (.int p' 0)→mm "_nfinished" =some (.int n' 0)→(∀ y,mm y≠none→y∈FLD)→Sor (upd H SD (.fld mm)) Sr SD N adr V r' p' n':=fun mm r' p' n' a1 a2 a3 a4 aw=>
  ⟨g _ _ _ x.s (by simp),⟨mm,ah ..,a1,a2,a3,a4,aw⟩,let⟨ep,h⟩:=x.n;⟨ep,g _ _ _ h (by simp)⟩,fun t ht=>let⟨a,b,c⟩:=x.i t ht;⟨g _ _ _ a (by simp),g _ _ _ b (by simp),g _ _ _ c (by simp)⟩,x.nd,x.sa,x.out⟩
 refine⟨m,hm,m1,m2,m3,m4,mw,fun r'=>go _ _ _ _ ?_ ?_ ?_ ?_ (cB f2 mw),fun r'=>go _ _ _ _ ?_ ?_ ?_ ?_ (cB f3 mw),fun r'=>go _ _ _ _ ?_ ?_ ?_ ?_ (cB f4 mw)⟩<;>
  first
  | exact p4 ..
  | exact(dH (by decide)).trans m1
  | exact(dH (by decide)).trans m2
  | exact(dH (by decide)).trans m3
  | exact(dH (by decide)).trans m4
theorem SorR.mono(x:SorR H Sr SD N adr V q R po nf)(e:Ext H H'):SorR H' Sr SD N adr V q R po nf:=⟨x.x.mono e,e _ _ x.hq,x.nq⟩
theorem SorR.off{m:Str→Option Value}(x:SorR H Sr SD N adr V q R po nf)(hL:H L=some (.ns m)):SorR (del H L) Sr SD N adr V q R po nf:=
 ⟨x.x.off hL,(ay fun e=>by have:=x.hq;rw [e,hL]at this;cases this).trans x.hq,x.nq⟩
theorem SorR.setN{k:Str}(x:SorR H Sr SD N adr V q R po nf)(hk:k∈V.ks)(n:Int):
 SorR (upd H (adr k).a (.inst 174 (adr k).dx [some (.str k 0),some (.int n 0),some (.ref (adr k).sa)])) Sr SD N adr (V.setN k n) q R po nf:=
 ⟨x.x.setN hk n,(af (be x.hq (x.x.i k hk).1 (by simp))).trans x.hq,x.nq⟩
theorem SorR.setQ(x:SorR H Sr SD N adr V q R po nf)(R':List Str):SorR (upd H q (.list (ag R'))) Sr SD N adr V q R' po nf:=by
 have g:∀ a o,H a=some o→(∀ l,o≠ .list l)→upd H q (.list (ag R')) a=some o:=fun a o h hn=>(af fun e=>by rw [e,x.hq]at h;exact hn _ (Option.some.inj h).symm).trans h
 exact⟨⟨g _ _ x.x.s (by simp),let⟨m,a,r⟩:=x.x.f;⟨m,g _ _ a (by simp),r⟩,let⟨ep,h⟩:=x.x.n;⟨ep,g _ _ h (by simp)⟩,fun t ht=>let⟨a,b,c⟩:=x.x.i t ht;⟨g _ _ a (by simp),g _ _ b (by simp),(af (x.nq t ht).symm).trans c⟩,x.x.nd,x.x.sa,x.x.out⟩,ah ..,x.nq⟩
theorem SorR.setPo(x:SorR H Sr SD N adr V q R po nf):∃ m,H SD=some (.fld m)∧m "_node2info" =some (.ref N)∧m "_ready_nodes" =some (.ref q)∧m "_npassedout" =some (.int po 0)∧m "_nfinished" =some (.int nf 0)∧(∀ y,m y≠none→y∈FLD)∧
 (∀ p',SorR (upd H SD (.fld (ca m "_npassedout" (.int p' 0)))) Sr SD N adr V q R p' nf)∧(∀ n',SorR (upd H SD (.fld (ca m "_nfinished" (.int n' 0)))) Sr SD N adr V q R po n'):=by
 refine dc x.x.setReady fun m hm m1 m2 m3 m4 mw a b c=>?_
 have hq:∀ mm,upd H SD (.fld mm) q=some (.list (ag R)):=fun mm=>(af (aA x.hq hm)).trans x.hq
 exact⟨m,hm,m1,m2,m3,m4,mw,fun p'=>⟨b p',hq _,x.nq⟩,fun n'=>⟨c n',hq _,x.nq⟩⟩
theorem SorR.apart{b:Addr}(x:SorR H Sr SD N adr V q R po nf){m:Str→Option Value}(h:H b=some (.ns m)):¬ FootR SD N adr V q b:=fun e=>e.elim (x.x.apart h) fun e=>by
 rw [e]at h;exact nomatch h.symm.trans x.hq
noncomputable def Vw.outs(V:Vw)(R:List Str):Vw:=⟨V.ks,fun y=>if y∈R then -1 else V.np y,V.sc⟩
theorem Vw.outs_nil:V.outs []=V:=by unfold Vw.outs;simp
theorem Vw.outs_snoc(xs:List Str)(k:Str):(V.outs xs).setN k (-1)=V.outs (xs++ [k]):=by
 unfold Vw.outs Vw.setN
 congr 1
 funext y
 simp only [List.mem_append,List.mem_singleton]
 by_cases a:y=k
 ·simp [a]
 ·simp [a]
theorem br{xs:List Str}{j:Nat}(h:j<xs.length):xs.take (j+1)=xs.take j++ [xs.getD j default]:=by
 rw [List.take_succ,List.getElem?_eq_getElem h];simp [List.getD,h]
theorem pV{v:Value}(hA:Ok A 9)(hv:er v= .ref Sr)(X:SorR H Sr SD N adr V q R po nf)(hR:∀ t∈R,t∈V.ks)(hz:R.length≤900):
 Cd D A (.call (.ref 233) ⟨[v],[]⟩) (fun r H'=> ∃ a,r= .ref a∧H a=none∧H' a=some (.tuple (ag R))∧SorR H' Sr SD N adr (V.outs R) q [] (po+R.length) nf∧Grow H H' (FootR SD N adr V q) (FootR SD N adr V q)) H:=by
 obtain rfl:=al hv
 refine ba X.setPo fun m hm m1 m2 m3 m4 mw _ _=>?_
 obtain⟨ep,hN⟩:=X.x.n
 refine Cd.fn (fun P=>rfl) rfl (fun P=>rfl) rfl hA (by decide) (locs rfl) (fun L hL hA'=>?_)
 refine WB.fold3 ?_
 intro A1_ env1_ Q1_
 refine W.foldL ?_
 intro lc2_ q2_
 refine B.cons (S.iteP False (T.compare (E.attrFld (C:=271) (fun P=>rfl) (fun P od v h=>by show Option.bind (lookIn _ od) _=_;rw [h];rfl) (E.local (v:= .ref Sr) rfl ⟨Sr,SD,m,_,rfl,X.x.s,hm,m2,trivial,E.none (O.isNone ⟨_,rfl,by simp,rfl⟩)⟩))) (fun h=>h.elim) (fun _=>?_))
 refine B.nil ?_
 refine W.foldL ?_
 intro lc3_ q3_
 refine B.cons (S.assign (E.callT (T:= "tuple") (fun P=>rfl) (by kernel_rfl) (I.cons (E.attrFld (C:=271) (fun P=>rfl) (fun P od v h=>by show Option.bind (lookIn _ od) _=_;rw [h];rfl) (E.local (v:= .ref Sr) rfl ⟨Sr,SD,m,_,rfl,X.x.s,hm,m2,trivial,I.nil (F.tupleOfList X.hq (aq (by rw [ae];exact lD hz)) fun tp htp=>?_)⟩)))))
 have htp:H tp=none:=htp
 have X1:=X.mono (aa (o:= .tuple (ag R)) htp)
 have hp1:upd H tp (.tuple (ag R)) tp=some (.tuple (ag R)):=ah ..
 have hm1:=aa (o:= .tuple (ag R)) htp _ _ hm
 have hN1:=aa (o:= .tuple (ag R)) htp _ _ hN
 have gr:Grow H (upd H tp (.tuple (ag R))) (FootR SD N adr V q) (FootR SD N adr V q):=Grow.ext (aa htp)
 refine W.foldL ?_
 intro lc4_ q4_
 refine B.cons (S.assign (E.attrFld (C:=271) (fun P=>rfl) (fun P od v h=>by show Option.bind (lookIn _ od) _=_;rw [h];rfl) (E.local (v:= .ref Sr) rfl ⟨Sr,SD,m,_,rfl,X1.x.s,hm1,m1,trivial,?_⟩)))
 show WB _ _ _ _ _ _ ⟨_,upd H tp (.tuple (ag R))⟩
 generalize upd H tp (.tuple (ag R))=Ht at X1 hp1 gr
 let I5:St→Prop:=fun σ=>σ.loc "self" =some (.ref Sr)∧σ.loc "result" =some (.ref tp)∧SorR σ.H Sr SD N adr (V.outs R) q R po nf∧σ.H tp=some (.tuple (ag R))∧Grow H σ.H (FootR SD N adr V q) (FootR SD N adr V q)
 refine W.foldL ?_
 intro lc6_ q6_
 refine B.seq I5 ?_ ?_
 ·let I7:Nat→St→Prop:=fun j σ=>σ.loc "self" =some (.ref Sr)∧σ.loc "result" =some (.ref tp)∧σ.loc "n2i" =some (.ref N)∧SorR σ.H Sr SD N adr (V.outs (R.take j)) q R po nf∧σ.H tp=some (.tuple (ag R))∧Grow H σ.H (FootR SD N adr V q) (FootR SD N adr V q)
  refine S.forTuple tp (ag R) I7 hA'.hand
   (E.local (v:= .ref tp) rfl ⟨rfl,rfl,rfl,rfl,by rw [List.take_zero,Vw.outs_nil];exact X1,hp1,gr⟩) (fun k σ h=>h.2.2.2.2.1) ?_ ?_
  ·rintro j ⟨loc,Hs⟩ v hj h4_;refine aW h4_ fun g1 g2 g3 g4 g5 g6=>?_;clear h4_;rintro hv
   dsimp only at g1 g2 g3 g4 g5 g6
   rw [ae]at hj
   rw [ax hj]at hv
   have hk:R.getD j default∈V.ks:=hR _ (aF hj)
   have hk':R.getD j default∈(V.outs (R.take j)).ks:=hk
   refine W.assignLocal ?_
   rw [hv]
   obtain⟨ep,hN⟩:=g4.x.n
   refine aE (g4.x.i _ hk') fun ka kb kc=>?_
   refine W.foldL ?_
   intro lc8_ q8_
   refine B.cons (S.assignAttr (E.glob (v:= .int (-1) _) (fun P=>rfl) (E.info (E.local (v:= .ref N) g3 ⟨_,rfl,E.local (v:= .str (R.getD j default) 0) rfl ⟨_,_,fun t=> .ref (adr t).a,ep,rfl,hk',hN,fun v' ov' e1 e2=>?_⟩⟩))))
   refine W.setSlot (C:=174) (p:=176) (i:=1) (fun P=>rfl) (fun P=>rfl) (fun P=>rfl) (fun P=>rfl) (fun P=>rfl) (by decide) e2 e1 ka kb ?_
   refine B.nil ⟨g1,g2,g3,?_,(af (aA g5 ka)).trans g5,g6.trans (Grow.upd _ (.inl (.inr (.inr ⟨_,hk,.inl rfl⟩))))⟩
   rw [br hj,← Vw.outs_snoc]
   exact g4.setN hk' (-1)
  ·rintro⟨loc,Hs⟩ h1_;refine aW h1_ fun g1 g2 g3 g4 g5 g6=>?_;clear h1_
   rw [ae,List.take_length]at g4
   exact B.nil ⟨g1,g2,g4,g5,g6⟩
 ·rintro⟨loc,Hs⟩ h1_;refine aD h1_ fun g1 g2 g4 g5 g6=>?_;clear h1_
  dsimp only at g1 g2 g4 g5 g6
  refine ba g4.setPo fun m hm m1 m2 m3 m4 mw _ _=>?_
  refine W.foldL ?_
  intro lc9_ q9_
  refine B.cons (S.expr (E.meth (T:= "list") (id:= "list.clear") F.plainAttrs_list F.slot_list_clear (by kernel_rfl) (E.attrFld (C:=271) (fun P=>rfl) (fun P od v h=>by show Option.bind (lookIn _ od) _=_;rw [h];rfl) (E.local (v:= .ref Sr) g1 ⟨Sr,SD,m,_,rfl,g4.x.s,hm,m2,trivial,⟨_,g4.hq,rfl⟩,I.nil ?_⟩))))
  refine M.clear g4.hq (aq (by rw [ae];exact lD hz)) ?_
  have X2:=g4.setQ []
  have g7:=g6.trans (Grow.upd (AO.list (ag [])) (P:=FootR SD N adr V q) (.inr rfl))
  have g8:=(af (o:=AO.list (ag [])) (aA g5 g4.hq)).trans g5
  show WB _ _ _ _ _ _ ⟨loc,upd Hs q (AO.list (ag []))⟩
  generalize upd Hs q (AO.list (ag []))=H2 at X2 g7 g8
  refine ba X2.setPo fun m hm m1 m2 m3 m4 mw X3 _=>?_
  refine W.foldL ?_
  intro lc10_ q10_
  refine B.cons (S.augAttr (E.local (v:= .ref Sr) g1 fun ov' eo=>?_))
  refine W.getFld (C:=271) (fun P=>rfl) (fun P od v h=>by show Option.bind (lookIn _ od) _=_;rw [h];rfl) eo X2.x.s hm m3 trivial ?_
  refine E.callB (id:= "len") (fun P=>rfl) (by kernel_rfl) (I.cons (E.local (v:= .ref tp) g2 (I.nil (F.lenTuple g8 (by rw [ae];exact qn hz) (O.iaddII ?_)))))
  intro new' en
  refine W.setF (fun P=>rfl) eo en X2.x.s hm mw ?_
  have X4:=X3 (po+(ag R).length)
  have g9:=g7.trans (Grow.upd (AO.fld (ca m "_npassedout" (.int (po+(ag R).length) 0))) (P:=FootR SD N adr V q) (.inl (.inl rfl)))
  have g10:=(af (o:=AO.fld (ca m "_npassedout" (.int (po+(ag R).length) 0))) (aA g8 hm)).trans g8
  refine W.foldL ?_
  intro lc11_ q11_
  refine B.cons (S.ret (E.local (v:= .ref tp) g2 ?_))
  intro v' hv'
  refine⟨tp,hv',htp,g10,?_,g9⟩
  simpa only [ae] using X4
theorem oN{v:Value}(hA:Ok A 9)(hv:er v= .ref Sr)(X:SorR H Sr SD N adr V q R po nf)(hz:R.length≤900):
 Cd D A (.call (.ref 240) ⟨[v],[]⟩) (fun r H'=>r= .bool (decide (nf<po) || !R.isEmpty)∧Ext H H') H:=by
 obtain rfl:=al hv
 refine ba X.setPo fun m hm m1 m2 m3 m4 mw _ _=>?_
 refine Cd.fn (fun P=>rfl) rfl (fun P=>rfl) rfl hA (by decide) (locs rfl) (fun L hL hA'=>?_)
 refine B.cons (S.iteP False (T.compare (E.attrFld (C:=271) (fun P=>rfl) (fun P od v h=>by show Option.bind (lookIn _ od) _=_;rw [h];rfl) (E.local (v:= .ref Sr) rfl ⟨Sr,SD,m,_,rfl,X.x.s,hm,m2,trivial,E.none (O.isNone ⟨_,rfl,by simp,rfl⟩)⟩))) (fun h=>h.elim) (fun _=>?_))
 refine B.nil ?_
 refine B.cons (S.ret ?_)
 refine E.or2 (E.compare (E.attrFld (C:=271) (fun P=>rfl) (fun P od v h=>by show Option.bind (lookIn _ od) _=_;rw [h];rfl) (E.local (v:= .ref Sr) rfl ⟨Sr,SD,m,_,rfl,X.x.s,hm,m4,trivial,?_⟩)))
 refine E.attrFld (C:=271) (fun P=>rfl) (fun P od v h=>by show Option.bind (lookIn _ od) _=_;rw [h];rfl) (E.local (v:= .ref Sr) rfl ⟨Sr,SD,m,_,rfl,X.x.s,hm,m3,trivial,?_⟩)
 refine O.ltII (T.trBool ?_)
 by_cases h:nf<po
 ·rw [decide_eq_true h]
  show ∀ _,_
  intro v' hv'
  exact⟨by show er v'=_;rw [hv'];rfl,Ext.refl _⟩
 ·rw [decide_eq_false h]
  rw [if_neg Bool.false_ne_true]
  refine E.callT (T:= "bool") (fun P=>rfl) (by kernel_rfl) (I.cons (E.attrFld (C:=271) (fun P=>rfl) (fun P od v h=>by show Option.bind (lookIn _ od) _=_;rw [h];rfl) (E.local (v:= .ref Sr) rfl ⟨Sr,SD,m,_,rfl,X.x.s,hm,m2,trivial,I.nil (F.boolList X.hq (by rw [ae];exact qn hz) ?_)⟩)))
  intro v' hv'
  refine⟨?_,Ext.refl _⟩
  show er v'=_
  rw [hv']
  simp [ag,List.isEmpty_iff]
end
end Mine
end
section
open PySem PySem.W PyProof.Rows PySem.Calls PySem.SeqAt
namespace Mine
variable {D:Wd}{A:Around}
section
variable {H H':AH}{Sr SD N q L:Addr}{adr:Str→Adr}{V:Vw}{ready:Value}{R:List Str}{po nf:Int}{g:Str→Str}
noncomputable def fin(g:Str→Str)(x:Vw×List Str)(n:Str):Vw×List Str:=
 ((x.1.setN n (-2)).setN (g n) ((x.1.setN n (-2)).np (g n)-1),if (x.1.setN n (-2)).np (g n)-1=0 then x.2++ [g n]else x.2)
noncomputable def eQ(g:Str→Str)(x:Vw×List Str)(G:List Str):Vw×List Str:=G.foldl (fin g) x
theorem no(x:Vw×List Str)(G:List Str)(n:Str):eQ g x (G++ [n])=fin g (eQ g x G) n:=by simp [eQ]
theorem kh(G:List Str):∀ x:Vw×List Str,(eQ g x G).1.ks=x.1.ks:=by
 induction G with
 | nil=>exact fun x=>rfl
 | cons n r ih=>exact fun x=>(ih _).trans rfl
theorem nr(G:List Str):∀ x:Vw×List Str,(eQ g x G).1.sc=x.1.sc:=by
 induction G with
 | nil=>exact fun x=>rfl
 | cons n r ih=>exact fun x=>(ih _).trans rfl
theorem o4(G:List Str):∀ x:Vw×List Str,(eQ g x G).2.length≤x.2.length+G.length:=by
 induction G with
 | nil=>exact fun x=>Nat.le_refl _
 | cons n r ih=>
  intro x
  have h:=ih (fin g x n)
  have:(fin g x n).2.length≤x.2.length+1:=by
   unfold fin;dsimp only
   split<;> simp
  show(eQ g (fin g x n) r).2.length≤_
  rw [List.length_cons];exact tO h this
theorem kf{V':Vw}(h:V'.ks=V.ks):FootR SD N adr V' q=FootR SD N adr V q:=by
 funext b;unfold FootR Foot;rw [h]
theorem E.fld{env:Env}{o:Expr}{pos:Pos}{m:Str→Option Value}{σ:St}{Q:Value→St→Prop}{v:Value}{name:Str}(hf:∀ P od v,lookIn name od=some (some v)→findObj (K0 P) 271 (some od) name=some (.value v))
 (h:WE D A L (eval o env) (fun ov σ₁=>ov= .ref Sr∧σ₁.H Sr=some (.inst 271 SD [])∧σ₁.H SD=some (.fld m)∧m name=some v∧gR v∧Q v σ₁) σ) (hbase:attributeBase o name env (eval o env)=eval o env:=by rfl):WE D A L (eval (.Attribute o name pos) env) Q σ:=
 E.attrFld (C:=271) (fun P=>rfl) hf (W.mono h fun ov σ₁=>o5 fun a b c d e f=>⟨Sr,SD,m,v,a,b,c,d,e,f⟩) hbase
theorem rh{G:List Str}{v:Value}{vs:List Value}(hA:Ok A 9)(hv:er v= .ref Sr)(hvs:vs.map er=ag G)(X:SorR H Sr SD N adr V q R po nf)(hG:∀ n∈G,n∈V.ks∧g n∈V.ks∧V.sc n= [g n])(hz:R.length+G.length≤900)
 (ht:∀ j,j<G.length→(eQ g (V,R) (G.take j)).1.np (G.getD j default)= -1):
 Cd D A (.call (.ref 254) ⟨v::vs,[]⟩) (fun r H'=>r= .none∧SorR H' Sr SD N adr (eQ g (V,R) G).1 q (eQ g (V,R) G).2 po (nf+G.length)∧Grow H H' (FootR SD N adr V q) (FootR SD N adr V q)) H:=by
 obtain rfl:=al hv
 have hvl:vs.length=G.length:=by rw [← ae (xs:=G),← hvs,List.length_map]
 refine Cd.fnStar (pre:= [("self",.ref Sr)]) (nm:= "nodes") (rest:=vs) (fun P=>rfl) rfl (fun P=>rfl) (by cases vs<;> rfl) (aq (by exact tN hz hvl)) hA (by decide) (by intro t x hx;simp at hx;rcases hx with rfl | rfl<;> rfl) (fun tp L htp hL hA'=>?_)
 rw [hvs]at hL ⊢
 have X1:=X.mono (aa (o:= .tuple (ag G)) htp)
 have hp1:upd H tp (.tuple (ag G)) tp=some (.tuple (ag G)):=ah ..
 have gr:Grow H (upd H tp (.tuple (ag G))) (FootR SD N adr V q) (FootR SD N adr V q):=Grow.ext (aa htp)
 generalize upd H tp (.tuple (ag G))=Ht at X1 hp1 gr
 refine ba X1.setPo fun m hm m1 m2 m3 m4 mw _ _=>?_
 refine WB.fold3 ?_
 intro A1_ env1_ Q1_
 refine W.foldL ?_
 intro lc2_ q2_
 refine B.cons (S.iteP False (T.compare (E.fld (fun P od v h=>by show Option.bind (lookIn _ od) _=_;rw [h];rfl) (E.local (v:= .ref Sr) rfl ⟨rfl,X1.x.s,hm,m2,trivial,E.none (O.isNone ⟨_,rfl,by simp,rfl⟩)⟩))) (fun h=>h.elim) (fun _=>?_))
 refine B.nil ?_
 refine W.foldL ?_
 intro lc3_ q3_
 refine B.cons (S.assign (E.fld (fun P od v h=>by show Option.bind (lookIn _ od) _=_;rw [h];rfl) (E.local (v:= .ref Sr) rfl ⟨rfl,X1.x.s,hm,m1,trivial,?_⟩)))
 refine W.foldL ?_
 intro lc4_ q4_
 refine B.cons ?_
 refine S.forTuple tp (ag G) (fun j σ=>σ.loc "self" =some (.ref Sr)∧σ.loc "n2i" =some (.ref N)∧SorR σ.H Sr SD N adr (eQ g (V,R) (G.take j)).1 q (eQ g (V,R) (G.take j)).2 po (nf+j)∧σ.H tp=some (.tuple (ag G))∧Grow H σ.H (FootR SD N adr V q) (FootR SD N adr V q)) hA'.hand
  (E.local (v:= .ref tp) rfl ⟨rfl,rfl,rfl,by simpa [eQ] using X1,hp1,gr⟩) (fun k σ h=>h.2.2.2.1) ?_ ?_
 ·rintro j ⟨loc,Hs⟩ v hj h4_;refine aD h4_ fun g1 g2 g3 g4 g5=>?_;clear h4_;rintro hv
  dsimp only at g1 g2 g3 g4 g5
  rw [ae]at hj
  rw [ax hj]at hv
  refine aE (hG _ (aF hj)) fun n0 n1 n2=>?_
  have hst:=ht j hj
  have hsn:=no (g:=g) (V,R) (G.take j) (G.getD j default)
  rw [← br hj]at hsn
  have hks:=kh (g:=g) (G.take j) (V,R)
  have hsc:=nr (g:=g) (G.take j) (V,R)
  have hln:=o4 (g:=g) (G.take j) (V,R)
  have hlt:(G.take j).length=j:=by rw [List.length_take];exact tM hj
  rw [hlt]at hln
  generalize eQ g (V,R) (G.take j)=Y at g3 hst hsn hks hsc hln
  rw [hsn]
  obtain⟨Y1,Rw⟩:=Y
  dsimp only at g3 hst hks hsc hln
  generalize G.getD j default=n at hv n0 n1 n2 hst hsn
  rw [← hks]at n0 n1
  rw [← hsc]at n2
  rw [← kf hks]at g5 ⊢
  refine W.assignLocal ?_
  rw [hv]
  obtain⟨ep,hN⟩:=g3.x.n
  refine W.foldL ?_
  intro lc5_ q5_
  refine B.cons (S.ite (T.compare (E.named (E.meth (T:= "dict") (id:= "dict.get") F.plainAttrs_dict F.slot_dict_get (by kernel_rfl) (E.local (v:= .ref N) g2 ⟨⟨_,hN,rfl⟩,I.cons (E.local (v:= .str n 0) rfl (I.nil (M.dictGet hN (E.none (O.isNone ⟨_,rfl,?_⟩)))))⟩)))))
  rw [bF (f:=fun t=>Value.ref (adr t).a) n0]
  show WB _ _ _ _ [] _ _
  refine B.nil ?_
  refine aE (g3.x.i _ n0) fun ka kb kc=>?_
  refine W.foldL ?_
  intro lc6_ q6_
  refine B.cons (S.assign (E.attrSlot (C:=174) (p:=176) (i:=1) (fun P=>rfl) (fun P=>rfl) (fun P=>rfl) (fun P=>rfl) (E.local (v:= .ref (adr n).a) rfl ⟨_,_,_,_,rfl,ka,kb,rfl,trivial,?_⟩)))
  refine W.foldL ?_
  intro lc7_ q7_
  refine B.cons (S.iteP False (T.compare (E.local (v:= .int (Y1.np n) 0) rfl (E.glob (v:= .int (-1) _) (fun P=>rfl) (O.neII ⟨_,rfl,by rw [hst];rfl,rfl⟩)))) (fun h=>h.elim) (fun _=>?_))
  refine B.nil ?_
  refine W.foldL ?_
  intro lc8_ q8_
  refine B.cons (S.assignAttr (E.glob (v:= .int (-2) _) (fun P=>rfl) (E.local (v:= .ref (adr n).a) rfl fun v' ov' e1 e2=>?_)))
  refine W.setSlot (C:=174) (p:=176) (i:=1) (fun P=>rfl) (fun P=>rfl) (fun P=>rfl) (fun P=>rfl) (fun P=>rfl) (by decide) e2 e1 ka kb ?_
  have X2:=g3.setN n0 (-2)
  have gr2:=g5.trans (Grow.upd (AO.inst 174 (adr n).dx [some (.str n 0),some (.int (-2) 0),some (.ref (adr n).sa)]) (P:=FootR SD N adr Y1 q) (.inl (.inr (.inr ⟨n,n0,.inl rfl⟩))))
  have hp2:=(af (o:=AO.inst 174 (adr n).dx [some (.str n 0),some (.int (-2) 0),some (.ref (adr n).sa)]) (aA g4 ka)).trans g4
  show WB _ _ _ _ _ _ ⟨_,upd Hs (adr n).a (AO.inst 174 (adr n).dx [some (.str n 0),some (.int (-2) 0),some (.ref (adr n).sa)])⟩
  generalize upd Hs (adr n).a _=H2 at X2 gr2 hp2
  refine aE (X2.x.i _ n0) fun ka kb kc=>?_
  have kc':H2 (adr n).sa=some (.list [.str (g n) 0]):=by rw [kc];show some (AO.list (ag (Y1.sc n)))=_;rw [n2];rfl
  let I9:St→Prop:=fun σ=>σ.loc "self" =some (.ref Sr)∧σ.loc "n2i" =some (.ref N)∧SorR σ.H Sr SD N adr (fin g (Y1,Rw) n).1 q (fin g (Y1,Rw) n).2 po (nf+j)∧σ.H tp=some (.tuple (ag G))∧Grow H σ.H (FootR SD N adr Y1 q) (FootR SD N adr Y1 q)
  refine W.foldL ?_
  intro lc10_ q10_
  refine B.seq I9 ?_ ?_
  ·refine S.forList (adr n).sa [.str (g n) 0] (fun i σ=>σ.loc "self" =some (.ref Sr)∧σ.loc "n2i" =some (.ref N)∧σ.H tp=some (.tuple (ag G))∧Grow H σ.H (FootR SD N adr Y1 q) (FootR SD N adr Y1 q)∧σ.H (adr n).sa=some (.list [.str (g n) 0])∧(i=0→SorR σ.H Sr SD N adr (Y1.setN n (-2)) q Rw po (nf+j))∧(i=1→SorR σ.H Sr SD N adr (fin g (Y1,Rw) n).1 q (fin g (Y1,Rw) n).2 po (nf+j))) hA'.hand
    (E.attrSlot (C:=174) (p:=177) (i:=2) (fun P=>rfl) (fun P=>rfl) (fun P=>rfl) (fun P=>rfl) (E.local (v:= .ref (adr n).a) rfl ⟨_,_,_,_,rfl,ka,kb,rfl,trivial,⟨rfl,g1,g2,hp2,gr2,kc',fun _=>X2,fun h=>absurd h (by exact tK)⟩⟩)) (fun k σ h=>h.2.2.2.2.1) ?_ ?_
   ·rintro i ⟨loc',Hi⟩ v hi h4_;refine c5 h4_ fun l1 l2 l3 l4 l5 l6 _=>?_;clear h4_;rintro hv
    obtain rfl:i=0:=by simp at hi;exact hi
    have X3:=l6 rfl
    dsimp only at l1 l2 l3 l4 l5 X3
    have hv:er v= .str (g n) 0:=hv
    refine W.assignLocal ?_
    rw [hv]
    obtain⟨ep,hN⟩:=X3.x.n
    have n1':g n∈(Y1.setN n (-2)).ks:=n1
    refine W.foldL ?_
    intro lc11_ q11_
    refine B.cons (S.assign (E.info (E.local (v:= .ref N) l2 ⟨_,rfl,E.local (v:= .str (g n) 0) rfl ⟨_,_,fun t=> .ref (adr t).a,ep,rfl,n1',hN,?_⟩⟩)))
    refine aE (X3.x.i _ n1') fun ka kb kc=>?_
    refine W.foldL ?_
    intro lc12_ q12_
    refine B.cons (S.augAttr (E.local (v:= .ref (adr (g n)).a) rfl fun ov' eo=>?_))
    refine W.getSlot (C:=174) (p:=176) (i:=1) (fun P=>rfl) (fun P=>rfl) (fun P=>rfl) (fun P=>rfl) eo ka kb rfl trivial ?_
    refine E.int (O.isubII ?_)
    intro new' en
    refine W.setSlot (C:=174) (p:=176) (i:=1) (fun P=>rfl) (fun P=>rfl) (fun P=>rfl) (fun P=>rfl) (fun P=>rfl) (by decide) eo en ka kb ?_
    have X4:=X3.setN n1' ((Y1.setN n (-2)).np (g n)-1)
    have gr4:=l4.trans (Grow.upd (AO.inst 174 (adr (g n)).dx [some (.str (g n) 0),some (.int ((Y1.setN n (-2)).np (g n)-1) 0),some (.ref (adr (g n)).sa)]) (P:=FootR SD N adr Y1 q) (.inl (.inr (.inr ⟨g n,n1,.inl rfl⟩))))
    have hp4:=(af (o:=AO.inst 174 (adr (g n)).dx [some (.str (g n) 0),some (.int ((Y1.setN n (-2)).np (g n)-1) 0),some (.ref (adr (g n)).sa)]) (aA l3 ka)).trans l3
    have hs4:=(af (o:=AO.inst 174 (adr (g n)).dx [some (.str (g n) 0),some (.int ((Y1.setN n (-2)).np (g n)-1) 0),some (.ref (adr (g n)).sa)]) (aA l5 ka)).trans l5
    show WB _ _ _ _ _ _ ⟨_,upd Hi (adr (g n)).a (AO.inst 174 (adr (g n)).dx [some (.str (g n) 0),some (.int ((Y1.setN n (-2)).np (g n)-1) 0),some (.ref (adr (g n)).sa)])⟩
    generalize upd Hi (adr (g n)).a _=H4 at X4 gr4 hp4 hs4
    refine aE (X4.x.i _ n1') fun ka kb kc=>?_
    have hnp:((Y1.setN n (-2)).setN (g n) ((Y1.setN n (-2)).np (g n)-1)).np (g n)=(Y1.setN n (-2)).np (g n)-1:=if_pos rfl
    rw [hnp]at ka
    refine W.foldL ?_
    intro lc13_ q13_
    refine B.cons (S.iteP ((Y1.setN n (-2)).np (g n)-1=0) (T.compare (E.attrSlot (C:=174) (p:=176) (i:=1) (fun P=>rfl) (fun P=>rfl) (fun P=>rfl) (fun P=>rfl) (E.local (v:= .ref (adr (g n)).a) rfl ⟨_,_,_,_,rfl,ka,kb,rfl,trivial,E.int (O.eqII ⟨_,rfl,by rw [Bool.eq_iff_iff];simp,rfl⟩)⟩))) (fun h0=>?_) (fun h0=>?_))
    ·refine ba X4.setPo fun m hm m1 m2 m3 m4 mw _ _=>?_
     refine W.foldL ?_
     intro lc14_ q14_
     refine B.cons (S.expr (E.meth (T:= "list") (id:= "list.append") F.plainAttrs_list F.slot_list_append (by kernel_rfl) (E.fld (fun P od v h=>by show Option.bind (lookIn _ od) _=_;rw [h];rfl) (E.local (v:= .ref Sr) l1 ⟨rfl,X4.x.s,hm,m2,trivial,⟨_,X4.hq,rfl⟩,I.cons (E.local (v:= .str (g n) 0) rfl (I.nil ?_))⟩))))
     refine M.append X4.hq (aq (by rw [ae];exact tJ hz hln hj)) ?_
     have e5:ag Rw++ [Value.str (g n) 0]=ag (Rw++ [g n]):=(bc ..).symm
     rw [e5]
     refine B.nil (B.nil ?_)
     have X5:=X4.setQ (Rw++ [g n])
     refine⟨l1,l2,(af (aA hp4 X4.hq)).trans hp4,gr4.trans (Grow.upd _ (.inr rfl)),(af (X3.nq n n0).symm).trans hs4,fun h=>absurd h (by exact q5),fun _=>?_⟩
     unfold fin;dsimp only;rw [if_pos h0];exact X5
    ·refine B.nil (B.nil ?_)
     refine⟨l1,l2,hp4,gr4,hs4,fun h=>absurd h (by exact q5),fun _=>?_⟩
     unfold fin;dsimp only;rw [if_neg h0];exact X4
   ·rintro⟨loc',Hi⟩ h1_;refine c5 h1_ fun l1 l2 l3 l4 l5 _ l6=>?_;clear h1_
    exact B.nil ⟨l1,l2,l6 rfl,l3,l4⟩
  ·rintro⟨loc',Hi⟩ h1_;refine aD h1_ fun l1 l2 l3 l4 l5=>?_;clear h1_
   dsimp only at l1 l2 l3 l4 l5
   refine ba l3.setPo fun m hm m1 m2 m3 m4 mw _ X3=>?_
   refine W.foldL ?_
   intro lc15_ q15_
   refine B.cons (S.augAttr (E.local (v:= .ref Sr) l1 fun ov' eo=>?_))
   refine W.getFld (C:=271) (fun P=>rfl) (fun P od v h=>by show Option.bind (lookIn _ od) _=_;rw [h];rfl) eo l3.x.s hm m4 trivial ?_
   refine E.int (O.iaddII ?_)
   intro new' en
   refine W.setF (fun P=>rfl) eo en l3.x.s hm mw ?_
   have ej:nf+(j:Int)+1=nf+((j+1:Nat):Int):=by exact tI
   refine B.nil ⟨l1,l2,?_,(af (aA l4 hm)).trans l4,l5.trans (Grow.upd _ (.inl (.inl rfl)))⟩
   have:=X3 (nf+(j:Int)+1)
   rw [← ej];exact this
 ·rintro⟨loc,Hs⟩ h1_;refine aD h1_ fun g1 g2 g3 g4 g5=>?_;clear h1_
  rw [ae,List.take_length]at g3
  exact B.nil (B.nil ⟨rfl,g3,g5⟩)
end
end Mine
end
section
open PySem PySem.W PyProof.Rows PySem.Calls PySem.SeqAt
namespace Mine
noncomputable def rt(S:List Str)(w:World)(o:Obj):Prop:=∃ n,o.SetObjOf (PySem.strKind PR w) (fun k=>decide (k∈S)) n∧n≤S.length
noncomputable def bq(S:List Str):AO:= .sat (rt S)
section
variable {D:Wd}{A:Around}{L:Addr}{α β:Type}{σ:St}{env:Env}{Φ:Frz}{H:AH}{s:Shared}{a:Addr}{S:List Str}{k:Str}
theorem mD{w:World}{o:Obj}(h:rt S w o):o.cls= .type "set" ∧o.dict=Option.none:=by
 obtain⟨n,⟨hx,_⟩,_⟩:=h
 exact⟨hx.1,hx.2.1⟩
theorem Rel.setAt(R:Rel D L Φ σ s)(h:σ.H a=some (bq S))(hz:S.length≤1000):∃ n,s.heap.SetOf (PySem.strKind PR D.w) a (fun k=>decide (k∈S)) n∧n≤S.length:=by
 refine dK (R.obj h) fun o ho n hs hn=>?_
 exact⟨n,hs.setOf ho (by have:scanBound=4096:=rfl;exact uY hn this hz),hn⟩
theorem F.setNew{Q:Value→St→Prop}(h:New Q σ (bq [])):Ct D A L "set" [] Q σ:=fun vs' e Φ s R=>by
 obtain rfl:=map_nil e
 refine call_set_0 fun led=>?_
 have hp:rt [] D.w { cls:= .type "set",dict:=Option.none,data:= .set #[] 0 (.fresh 0 0 led)}:=⟨0,by simpa using setObjOf_fresh (knd:=PySem.strKind PR D.w) led,Nat.le_refl _⟩
 exact R.push _ (ao:=bq []) rfl hp h
theorem O.inSet{Q:Value→St→Prop}(hl:σ.H a=some (bq S))(hz:S.length≤1000)(h:Q (.bool (decide (k∈S))) σ):W2 D A L (compareOp .In) (.str k 0) (.ref a) Q σ:=fun va vb ea eb Φ s R=>by
 obtain⟨t,rfl⟩:=au ea
 obtain rfl:=al eb
 refine ai (R.setAt hl hz) fun n hs hn=>?_
 exact wpAny_inSet_of (knd:=PySem.strKind PR D.w) (k:=k) (by simp [PySem.strKind,Value.isStrOf]) rfl hs (done R h)
theorem M.setAdd{Q:Value→St→Prop}(hl:σ.H a=some (bq S))(hz:S.length≤900)(h:Q Value.none { σ with H:=upd σ.H a (bq (S++ [k]))}):Cb D A L "set.add" [.ref a,.str k 0] Q σ:=fun vs' e Φ s R=>by
 refine eA e fun v1 e1 v2 e2=>?_;refine aV e1 ?_;refine aU e2 fun t=>?_
 refine ai (R.setAt hl (by exact lD hz)) fun n hs hn=>?_
 refine call_set_add (knd:=PySem.strKind PR D.w) (k:=k) (by simp [PySem.strKind,Value.isStrOf]) rfl hs (by have:scanBound=4096:=rfl;exact uX hn this hz) fun h' hb hS=>?_
 refine ai hS.objOf fun o ho hS=>?_
 have this:(fun k'=>decide (k'∈S++ [k]))=(fun k'=>decide (k'∈S) || decide (k'=k)):=by funext k';simp
 have hp:rt (S++ [k]) D.w o:=⟨if decide (k∈S)=true then n else n+1,by rw [this];exact hS,by
  rw [List.length_append,List.length_singleton]
  split<;> (first | exact pw hn | exact uW hn)⟩
 exact⟨_,R.update (ao:=bq (S++ [k])) (t:=s.toks+1) hl (fun b o hne e=>(hb.2 b hne).trans e) ⟨o,ho,hp⟩,h⟩
end
end Mine
end
section
open PySem PySem.W PyProof.Rows PySem.Calls PySem.SeqAt
open Builtin Builtin.ObjectAttr
namespace Mine
noncomputable def aJ(l:Addr)(i:Int):Obj:={ cls:= .type "list_iterator",dict:=none,data:= .fields #[.ref l,.int i 0],slots:= #[]}
noncomputable def aY(it:Addr):Obj:={ cls:= .type "method-wrapper",data:= .fields #[.builtin "list_iterator.__next__",.ref it]}
theorem slot_li_ga:Slot "list_iterator" "__getattribute__" "object.__getattribute__" :=
 .of (owner:= "object") (n:= "__getattribute__") (by rw [typeLookup_type,builtinLookup_eq_fast];kernel_rfl) (by decide+kernel) (by decide+kernel) (by decide+kernel)
  (by first | exact .inl (by decide+kernel) | exact .inr (by decide+kernel)) (by rw [isSubtype_type];kernel_rfl)
theorem jd:typeOf (.builtin "list_iterator.__next__")=pure (.type "wrapper_descriptor"):=by show builtinType _=_;rw [builtinType_eq_fast];kernel_rfl
theorem slot_wd_get:Slot "wrapper_descriptor" "__get__" "wrapper_descriptor.__get__" :=
 .of (owner:= "wrapper_descriptor") (n:= "__get__") (by rw [typeLookup_type,builtinLookup_eq_fast];kernel_rfl) (by decide+kernel) (by decide+kernel) (by decide+kernel)
  (by first | exact .inl (by decide+kernel) | exact .inr (by decide+kernel)) (by rw [isSubtype_type];kernel_rfl)
theorem j8:entryFor table "wrapper_descriptor.__get__" =some Builtin.«wrapper_descriptor.__get__» :=entryFor_of_tree (by kernel_rfl)
theorem kF(a b c:Value):argsOk "wrapper_descriptor.__get__" ⟨[a,b,c],[]⟩:=by unfold argsOk;kernel_rfl
theorem lY:typeLookup (.type "list_iterator") "__getattr__" =pure none:=by rw [typeLookup_type,builtinLookup_eq_fast];kernel_rfl
theorem qN{prog:Program}{w:World}{A:Around}{E:Value→Shared→Prop}{s:Shared}{it l:Addr}{i:Int}{P:Fin→Shared→Prop}(hx:s.heap.get? it=some (aJ l i))(h:P (.done (.ret (.ref s.heap.objs.size))) { s with heap:=s.heap.push (aY it)}):
 wpAny (model prog w) A (Builtin.«wrapper_descriptor.__get__» ⟨[.builtin "list_iterator.__next__",.ref it,.type "list_iterator"],[]⟩) P E s:=by
 obtain⟨hp,g,d,tk,os⟩:=s
 have hT:(⟨hp,g,d,tk,os⟩:Shared).TypeIs (.ref it) "list_iterator" :=⟨_,hx,rfl⟩
 have f5:isSubtype (.type "list_iterator") (.type "list_iterator")=pure true:=by rw [isSubtype_type];kernel_rfl
 unfold Builtin.«wrapper_descriptor.__get__»
 refine wpAny_bind (wpAny_of_eq (a:=(.builtin "list_iterator.__next__",some (.ref it),some (.type "list_iterator"))) (by first | rfl | kernel_rfl) ?_)
 dsimp only
 have f6: ".".intercalate ("list_iterator.__next__".cutAt '.').dropLast= "list_iterator" :=by first | kernel_rfl | decide+kernel
 repeat (any_goals (first | assumption | wp_step))
 rw [f6]
 refine wpAny_of_eq f5 ?_
 refine KFB.if_not rfl (wpAny_pure ?_)
 exact wpAny_bind (wpAny_newObj_type (wpAny_pure h))
theorem qG:typeLookup (.type "wrapper_descriptor") "__get__" =pure (some (.builtin "wrapper_descriptor.__get__")):=by rw [typeLookup_type,builtinLookup_eq_fast];kernel_rfl
theorem qF:typeLookup (.type "wrapper_descriptor") "__set__" =pure none:=by rw [typeLookup_type,builtinLookup_eq_fast];kernel_rfl
theorem qH:typeLookup (.type "wrapper_descriptor") "__delete__" =pure none:=by rw [typeLookup_type,builtinLookup_eq_fast];kernel_rfl
theorem qK:isSubtype (.type "list_iterator") (.type "list_iterator")=pure true:=by rw [isSubtype_type];kernel_rfl
theorem i6(it l:Addr)(i:Int)(u:Tok):
 Meets (Builtin.«object.__getattribute__» ⟨[.ref it,.str "__next__" u],[]⟩) (fun A R s=>s.heap.get? it=some (aJ l i)∧R (.ok (.ret (.ref s.heap.objs.size))) { s with heap:=s.heap.push (aY it)}):=
 Meets.of_wp fun prog w A R s hs=>by
  obtain⟨hp,g,d,tk,os⟩:=s
  obtain⟨hx,hs⟩:=hs
  have hT:(⟨hp,g,d,tk,os⟩:Shared).TypeIs (.ref it) "list_iterator" :=⟨_,hx,rfl⟩
  have hl:=slot_listiter_next.lookup
  have f1:=jd
  have f2:=qG
  have f3:=qF
  have f4:=qH
  have f5:=qK
  unfold aJ at hx
  unfold Builtin.«object.__getattribute__»
  repeat (any_goals (first | assumption | wp_step))
  refine codeAny_call_builtin slot_wd_get.plain j8 (slot_wd_get.check _ _ _ _ _ _ _ _ jd (kF _ _ _) ?_)
  exact qN (i:=i) hx (wpAny_pure ⟨_,rfl,hs⟩)
theorem j5{prog:Program}{w:World}{A:Around}{E:Value→Shared→Prop}{s:Shared}{it l:Addr}{i:Int}{Q:Value→Shared→Prop}(hx:s.heap.get? it=some (aJ l i))
 (h:Q (.ref s.heap.objs.size) { s with heap:=s.heap.push (aY it),toks:=s.toks+1}):wpAny (model prog w) A (getAttr (.ref it) "__next__" true) Q E s:=by
 obtain⟨hp,g,d,tk,os⟩:=s
 have hT:∀ tk',(⟨hp,g,d,tk',os⟩:Shared).TypeIs (.ref it) "list_iterator" :=fun _=>⟨_,hx,rfl⟩
 have f3:=slot_li_ga.lookup
 have f4:=slot_li_ga.bind (.ref it)
 have f5:=lY
 unfold aJ at hx
 unfold getAttr getAttrBy
 repeat (any_goals (first | assumption | exact hT _ | ((with_reducible show wpAny _ _ (call (Value.builtin "object.__getattribute__") _ _) _ _ _);refine call_meets slot_li_ga (hT _) PySem.F.entry_object_getattribute (PySem.F.args_object_getattribute_2 _ _) (i6 it l i _) ⟨hx,?_⟩) | wp_step))
 show wpAny _ _ (handedOut (.ref _)) _ _ _
 exact wpAny_pure h
theorem iV{prog:Program}{w:World}{A:Around}{E:Value→Shared→Prop}{s:Shared}{m it:Addr}{pos:Pos}{Q:Value→Shared→Prop}(hm:s.heap.get? m=some (aY it))(h:wpAny (model prog w) A (call (.ref m) []) Q E s):
 wpAny (model prog w) A (callWith pos (.ref m) [] [] []) Q E s:=by
 unfold callWith
 refine wpAny_bind (wpAny_holding (PyProof.Rows.evalArgs_nil3 (wpAny_bind (wpAny_standAt ?_))))
 refine wpAny_bind (m:=keeperOf (.ref m)) ?_
 unfold keeperOf
 refine wpAny_bind (wpAny_load hm ?_)
 simp only [aY,show(Value.type "method-wrapper" !=Value.type "method")=true by decide,show(Value.type "method-wrapper" ==Value.type "builtin_function_or_method" || Value.type "method-wrapper" ==Value.type "method-wrapper")=true by decide,if_true]
 refine wpAny_pure ?_
 exact wpAny_bind (wpAny_mono h (fun r s₂ hr=>wpAny_bind (wpAny_holding (wpAny_point (wpAny_pure hr)))) fun _ _ x=>x)
theorem nG{prog:Program}{w:World}{A:Around}{E:Value→Shared→Prop}{s:Shared}{m it l:Addr}{i:Nat}{items:Array Value}{x:Value}{Q:Value→Shared→Prop}(hm:s.heap.get? m=some (aY it))(hit:s.heap.get? it=some (aJ l i))(hl:s.heap.IsList l items)(hx:items[i]?=some x)
 (h:∀ h',h'.get? it=some (aJ l (i+1))→Heap.SameBut it s.heap h'→Q x { s with heap:=h'}):wpAny (model prog w) A (call (.ref m) []) Q E s:=by
 refine wpAny_call (codeAny_of_tree ?_)
 show wpAny _ _ (callAny (.ref m) ⟨[],[]⟩) _ _ _
 unfold callAny
 refine wpAny_bind (wpAny_load hm ?_)
 unfold aY
 dsimp only
 rw [if_pos (by decide)]
 show wpAny _ _ (if (Value.type "method-wrapper" !=Value.type "method")=true then(do checkBoundCall "list_iterator.__next__" ⟨[.ref it],[]⟩;again (Code.builtin "list_iterator.__next__" ⟨[.ref it],[]⟩))else _) _ _ _
 rw [if_pos (by decide)]
 refine wpAny_bind (wpAny_of_eq (a:=()) (by kernel_rfl) ?_)
 refine wpAny_pure ⟨Code.quiet_builtin _ (by decide+kernel),codeAny_builtin entry_listiter_next ?_⟩
 refine pO hl fun ol hol _ nl hdl=>?_;clear hl
 show wpAny _ _ (field (.ref it) 0>>=_) _ _ s
 refine wpAny_bind (wpAny_field hit rfl (x:= .ref l) rfl ?_)
 show wpAny _ _ (if (Value.ref l==Value.none)=true then _ else _) _ _ s
 rw [if_neg (show ¬((Value.ref l==Value.none)=true)from Bool.false_ne_true)]
 show wpAny _ _ (field (.ref it) 1>>=_) _ _ s
 refine wpAny_bind (wpAny_field hit rfl (x:= .int i 0) rfl ?_)
 show wpAny _ _ (seqItems? (.ref l)>>=_) _ _ s
 refine wpAny_bind (wpAny_seqItems hol hdl ?_)
 simp only [Int.toNat_natCast,hx]
 refine wpAny_bind (wpAny_setField hit rfl (by simp) (wpAny_pure (h _ ?_ (Heap.SameBut.update ..))))
 rw [Heap.get?_update_self _ hit (Obj.isFreed_of_fields (Obj.data_mapFields (o:=aJ l i) rfl _))]
 rfl
section
variable {D:Wd}{A:Around}{L:Addr}{α β:Type}{σ:St}{env:Env}{Φ:Frz}{H:AH}{s:Shared}{l it m:Addr}{vs:List Value}{i:Nat}
theorem F.iterList{Q:Value→St→Prop}(hl:σ.H l=some (.list vs))(h:New Q σ (.raw (aJ l 0))):Cb D A L "iter" [.ref l] Q σ:=fun vs' e Φ s R=>by
 refine d7 e fun v1 e1=>?_;refine aV e1 ?_
 refine ai (R.listOf hl) fun its hi ei=>?_
 refine call_function_entry (by decide+kernel) (by decide+kernel) kdk_entry_iter (kdk_args_iter _) ?_
 unfold Builtin.«iter»
 refine wpAny_bind (m:=someArgs "iter" 1 2 _) (wpAny_of_eq (a:= [Value.ref l]) (by first | rfl | kernel_rfl!) ?_)
 show wpAny _ _ (pyIter (.ref l)>>=_) _ _ _
 refine wpAny_bind (wpAny_pyIter_list hi ?_)
 refine wpAny_pure ⟨_,rfl,?_⟩
 exact R.push _ (ao:= .raw (aJ l 0)) rfl rfl h
theorem E.attrNext{o:Expr}{pos:Pos}{Q:Value→St→Prop}(h:WE D A L (eval o env) (fun ov σ₁=> ∃ it l i,ov= .ref it∧σ₁.H it=some (.raw (aJ l i))∧New Q σ₁ (.raw (aY it))) σ)
 (hbase:attributeBase o "__next__" env (eval o env)=eval o env:=by rfl):WE D A L (eval (.Attribute o "__next__" pos) env) Q σ:=fun Φ s R=>by
 rw [arm_eval_Attribute,hbase]
 refine wpAny_bind (wpAny_mono (h Φ s R) (fun ov s₁=>hO fun σ₁ R₁ it l i e hx q=>wpAny_bind (wpAny_standAt (wpAny_bind (wpAny_holding ?_)))) fun _ _ x=>x)
 rw [al e]
 refine ai (R₁.obj hx) fun o' ho h2_=>?_;obtain rfl:=h2_
 refine j5 ho ?_
 refine wpAny_bind (wpAny_letTemporaryGo (wpAny_pure ?_))
 exact Rel.push (s:={ s₁ with toks:=s₁.toks+1}) (R₁.tok _) _ (ao:= .raw (aY it)) rfl rfl q
theorem E.callNext{v i':Expr}{p pos:Pos}{Q:Value→St→Prop}(h:WE D A L (eval (.Subscript v i' p) env) (fun fv σ₁=> ∃ m it l i vs,fv= .ref m∧σ₁.H m=some (.raw (aY it))∧σ₁.H it=some (.raw (aJ l (i:Nat)))∧σ₁.H l=some (.list vs)∧i<vs.length∧
 Q (vs.getD i .none) { σ₁ with H:=upd σ₁.H it (.raw (aJ l (i+1)))}) σ):WE D A L (eval (.Call (.Subscript v i' p) [] [] pos) env) Q σ:=fun Φ s R=>by
 rw [show eval (.Call (.Subscript v i' p) [] [] pos) env=(do callWith pos (← eval (.Subscript v i' p) env) [] [] [])from rfl]
 refine wpAny_bind (wpAny_mono (h Φ s R) (fun fv s₁=>fT fun σ₁ R₁ m it l i vs e hm hi hl hlt q=>?_) fun _ _ x=>x)
 rw [al e]
 refine ai (R₁.obj hm) fun om hom h2_=>?_;obtain rfl:=h2_
 refine ai (R₁.obj hi) fun oi hoi h2_=>?_;obtain rfl:=h2_
 refine ai (R₁.listOf hl) fun its hli ei=>?_
 refine ai (bj ei hlt) fun x hx ex=>?_
 refine iV hom (nG hom hoi hli hx fun h' hg hb=>?_)
 refine⟨_,R₁.update (ao:= .raw (aJ l (i+1))) (t:=s₁.toks) hi (fun b o hne e=>(hb.2 b hne).trans e) ⟨_,hg,rfl⟩,?_⟩
 show Q (er x) _
 rw [ex];exact q
end
end Mine
end
section
open PySem PySem.W PyProof.Rows PySem.Calls PySem.SeqAt
namespace Mine
variable {D:Wd}{A:Around}
noncomputable def gZ(row:List Str):List (Str×Value):=row.zipIdx.map fun p=>(p.1,Value.int (p.2:Nat) 0)
theorem mY(row:List Str)(x:Str):gZ (row++ [x])=gZ row++ [(x,.int row.length 0)]:=by
 unfold gZ;rw [List.zipIdx_append];simp
theorem j3(row:List Str):(gZ row).map (·.1)=row:=by
 unfold gZ;rw [List.map_map]
 show row.zipIdx.map (fun p=>p.1)=row
 simp [List.zipIdx_map_fst]
theorem oz(row:List Str):(gZ row).length=row.length:=by unfold gZ;simp
theorem cN:∀ (row:List Str) (n:Nat) {x:Str},x∈row→valueAt ((row.zipIdx n).map fun p=>(p.1,Value.int (p.2:Nat) 0)) x=some (.int ((n+row.idxOf x:Nat):Int) 0)
 | [],_,_,h=>nomatch h
 | y::r,n,x,h=>by
  unfold valueAt
  rw [List.zipIdx_cons,List.map_cons,List.find?_cons,List.idxOf_cons]
  by_cases e:y=x
  ·subst e;simp
  ·have:=cN r (n+1) ((List.mem_cons.mp h).resolve_left fun q=>e q.symm)
   unfold valueAt at this
   simp only [e,decide_false]
   rw [this]
   have:(y==x)=false:=by simpa using e
   rw [this]
   simp;exact tX
theorem fB{row:List Str}{x:Str}(h:x∈row):valueAt (gZ row) x=some (.int (row.idxOf x:Nat) 0):=by
 have:=cN row 0 h
 rw [Nat.zero_add]at this;exact this
theorem valueAt_idx_none{row:List Str}{x:Str}(h:x∉row):valueAt (gZ row) x=none:=eX (by rw [j3];exact h)
section
variable {H:AH}{Sr SD N:Addr}{adr:Str→Adr}{V:Vw}{ready:Value}{po nf:Int}{g:Str→Str}
structure CInv (H Hs:AH) (loc:Str→Option Value) (N st is se ni:Addr) (row:List Str) (node:Str):Prop where
 l1:loc "n2i" =some (.ref N)
 l2:loc "stack" =some (.ref st)
 l3:loc "itstack" =some (.ref is)
 l4:loc "seen" =some (.ref se)
 l5:loc "node2stacki" =some (.ref ni)
 l6:loc "node" =some (.str node 0)
 ext:Ext H Hs
 h1:Hs st=some (.list (ag row))
 h2:∃ ms,Hs is=some (.list ms)∧ms.length=row.length
 h3:Hs se=some (bq row)
 h4:∃ ep,Hs ni=some (.dict (gZ row) ep)
 ne:st≠is
 n1:H st=none
 n2:H is=none
 n3:H se=none
 n4:H ni=none
theorem nK{k0:Str}{rest:List Str}{v:Value}(hA:Ok A 9)(hv:er v= .ref Sr)(X:Sor H Sr SD N adr V ready po nf)(hk:V.ks=k0::rest)(hz:V.ks.length≤900)(hG:∀ n∈V.ks,n∈NM∧g n∈V.ks∧V.sc n= [g n])
 (hb:b9 g k0∈aQ g k0):
 Cd D A (.call (.ref 261) ⟨[v],[]⟩) (fun r H'=>Ext H H'∧ ∃ a,r= .ref a∧H a=none∧H' a=some (.list (ag (fH g k0)))) H:=by
 obtain rfl:=al hv
 refine cz X.f fun m hm m1 m2 m3 m4 mw=>?_
 obtain⟨ep0,hN⟩:=X.n
 refine Cd.fn (fun P=>rfl) rfl (fun P=>rfl) rfl hA (by decide) (locs rfl) (fun L hL hA'=>?_)
 refine WB.fold3 ?_
 intro A1_ env1_ Q1_
 refine W.foldL ?_
 intro lc2_ q2_
 refine B.cons (S.assign (E.fld (fun P od v h=>by show Option.bind (lookIn _ od) _=_;rw [h];rfl) (E.local (v:= .ref Sr) rfl ⟨rfl,X.s,hm,m1,trivial,?_⟩)))
 refine W.foldL ?_
 intro lc3_ q3_
 refine B.cons (S.assign (E.list (I.nil ⟨Nat.zero_le _,fun st hst=>?_⟩)))
 have hst:H st=none:=hst
 refine W.foldL ?_
 intro lc4_ q4_
 refine B.cons (S.assign (E.list (I.nil ⟨Nat.zero_le _,fun is his=>?_⟩)))
 have his:upd H st (.list []) is=none:=his
 have nsi:st≠is:=fun e=>by rw [e,ah]at his;cases his
 have his0:H is=none:=(af nsi.symm).symm.trans his
 have e1:Ext H (upd (upd H st (.list [])) is (.list [])):=(aa hst).trans (aa his)
 have a1:upd (upd H st (.list [])) is (.list []) st=some (.list []):=(af nsi).trans (ah ..)
 have a2:upd (upd H st (.list [])) is (.list []) is=some (.list []):=ah ..
 show WB _ _ _ _ _ _ ⟨_,upd (upd H st (.list [])) is (.list [])⟩
 generalize upd (upd H st (.list [])) is (.list [])=H1 at e1 a1 a2
 refine W.foldL ?_
 intro lc5_ q5_
 refine B.cons (S.assign (E.callT (T:= "set") (fun P=>rfl) (by kernel_rfl) (I.nil (F.setNew fun se hse=>?_))))
 have hse:H1 se=none:=hse
 have hse0:H se=none:=az (fun a o e=>e1 a o e) hse
 have e2:=e1.trans (aa (o:=bq []) hse)
 have b1:=aa (o:=bq []) hse _ _ a1
 have b2:=aa (o:=bq []) hse _ _ a2
 have b3:upd H1 se (bq []) se=some (bq []):=ah ..
 show WB _ _ _ _ _ _ ⟨_,upd H1 se (bq [])⟩
 generalize upd H1 se (bq [])=H2 at e2 b1 b2 b3
 refine W.foldL ?_
 intro lc6_ q6_
 refine B.cons (S.assign (E.dictEmpty fun ni hni=>?_))
 have hni:H2 ni=none:=hni
 have hni0:H ni=none:=az (fun a o e=>e2 a o e) hni
 have e3:=e2.trans (aa (o:= .dict [] 0) hni)
 have c1:=aa (o:= .dict [] 0) hni _ _ b1
 have c2:=aa (o:= .dict [] 0) hni _ _ b2
 have c3:=aa (o:= .dict [] 0) hni _ _ b3
 have c4:upd H2 ni (.dict [] 0) ni=some (.dict [] 0):=ah ..
 show WB _ _ _ _ _ _ ⟨_,upd H2 ni (.dict [] 0)⟩
 generalize upd H2 ni (.dict [] 0)=H3 at e3 c1 c2 c3 c4
 refine W.foldL ?_
 intro lc7_ q7_
 refine B.cons ?_
 refine S.for_ (It.of (E.local (v:= .ref N) rfl ⟨_,_,_,fun v hv=>by rw [al hv];exact oa hA'.hand,Has.one (e3 _ _ hN),fun k σ=>k=0∧σ.H=H3∧σ.loc "n2i" =some (.ref N)∧σ.loc "stack" =some (.ref st)∧σ.loc "itstack" =some (.ref is)∧σ.loc "seen" =some (.ref se)∧σ.loc "node2stacki" =some (.ref ni),⟨rfl,rfl,rfl,rfl,rfl,rfl,rfl⟩,fun k σ h=>by rw [h.2.1];exact Has.one (e3 _ _ hN),?_,?_⟩))
 ·rintro k ⟨loc,Hs⟩ hlt h3_;refine c5 h3_ fun h30_ eH l1 l2 l3 l4 l5=>?_;clear h3_;obtain rfl:=h30_;rintro v hv
  dsimp only at eH l1 l2 l3 l4 l5
  subst eH
  have hv:er v= .str k0 0:=by rw [hv,hk];rfl
  refine W.assignLocal ?_
  rw [hv]
  have l6:ca loc "node" (.str k0 0) "node" =some (.str k0 0):=rfl
  refine W.foldL ?_
  intro lc8_ q8_
  refine B.cons (S.iteP False (T.compare (E.local (v:= .str k0 0) rfl (E.local (v:= .ref se) l4 (O.inSet c3 (Nat.zero_le _) ⟨_,rfl,by simp,rfl⟩)))) (fun h=>h.elim) (fun _=>?_))
  refine B.nil ?_
  have hk0:k0∈V.ks:=by rw [hk];exact .head _
  refine W.foldL ?_
  intro lc9_ q9_
  refine B.cons ?_
  let I10:Nat→St→Prop:=fun n σ=> ∃ row node,CInv H σ.H σ.loc N st is se ni row node∧((∃ j,n=j+1∧node∉row∧row.length+1+j=9∧(row++ [node]).Nodup∧(∀ x∈row++ [node],x∈V.ks)∧dQ g j (row++ [node])=aQ g k0)∨(row=aQ g k0∧node=b9 g k0))
  refine S.while_ I10 9
   ⟨[],k0,⟨l1,l2,l3,l4,l5,l6,e3,c1,⟨_,c2,rfl⟩,c3,⟨_,c4⟩,nsi,hst,his0,hse0,hni0⟩,.inl ⟨8,rfl,by simp,rfl,by simp,by simpa using hk0,rfl⟩⟩ ?_
  rintro n ⟨lc,Hc⟩ h2_;refine b6 h2_ fun row node C hcase=>?_;clear h2_
  dsimp only at C
  refine T.value (E.bool (T.trBool ?_))
  obtain⟨m1',m2'⟩:=C.h2
  obtain⟨m2',m3'⟩:=m2'
  obtain⟨epi,hni4⟩:=C.h4
  rcases hcase with⟨j,rfl,hnot,hlen,hnd,hsub,hwalk⟩ | ⟨hrow,hback⟩
  ·have hnode:node∈V.ks:=hsub node (by simp)
   refine aE (hG node hnode) fun g1 g2 g3=>?_
   let I11:St→Prop:=fun σ=>CInv H σ.H (ca σ.loc "node" (.str (g node) 0)) N st is se ni (row++ [node]) (g node)∧ ∃ ms mm it,σ.H is=some (.list (ms++ [.ref mm]))∧σ.H mm=some (.raw (aY it))∧σ.H it=some (.raw (aJ (adr node).sa (0:Nat)))∧H it=none
   refine W.foldL ?_
   intro lc12_ q12_
   refine B.seq I11 ?_ ?_
   ·refine S.iteP False (T.compare (E.local (v:= .str node 0) C.l6 (E.local (v:= .ref se) C.l4 (O.inSet C.h3 (by exact pq hlen) ⟨_,rfl,by simp [hnot],rfl⟩)))) (fun h=>h.elim) (fun _=>?_)
    refine W.foldL ?_
    intro lc13_ q13_
    refine B.cons (S.expr (E.meth (T:= "set") (id:= "set.add") F.plainAttrs_set F.slot_set_add (by kernel_rfl) (E.local (v:= .ref se) C.l4 ⟨⟨_,C.h3,fun w o h=>mD h⟩,I.cons (E.local (v:= .str node 0) C.l6 (I.nil (M.setAdd C.h3 (by exact tW hlen) ?_)))⟩)))
    have d1:=(af (o:=bq (row++ [node])) (be C.h1 C.h3 (by simp [bq]))).trans C.h1
    have d2:=(af (o:=bq (row++ [node])) (be m2' C.h3 (by simp [bq]))).trans m2'
    have d3:upd Hc se (bq (row++ [node])) se=some (bq (row++ [node])):=ah ..
    have d4:=(af (o:=bq (row++ [node])) (be hni4 C.h3 (by simp [bq]))).trans hni4
    have e4:=C.ext.upd (bq (row++ [node])) C.n3
    show WB _ _ _ _ _ _ ⟨lc,upd Hc se (bq (row++ [node]))⟩
    generalize upd Hc se (bq (row++ [node]))=K1 at d1 d2 d3 d4 e4
    have XK:=X.mono e4
    obtain⟨epn,hNn⟩:=XK.n
    refine aE (XK.i node hnode) fun ka kb kc=>?_
    refine W.foldL ?_
    intro lc14_ q14_
    refine B.cons (S.expr (E.meth (T:= "list") (id:= "list.append") F.plainAttrs_list F.slot_list_append (by kernel_rfl) (E.local (v:= .ref is) C.l3 ⟨⟨_,d2,rfl⟩,I.cons (E.attrNext (E.callB (id:= "iter") (fun P=>rfl) (by kernel_rfl) (I.cons (E.attrSlot (C:=174) (p:=177) (i:=2) (fun P=>rfl) (fun P=>rfl) (fun P=>rfl) (fun P=>rfl)
     (E.info (E.local (v:= .ref N) C.l1 ⟨_,rfl,E.local (v:= .str node 0) C.l6 ⟨_,_,fun t=> .ref (adr t).a,epn,rfl,hnode,hNn,⟨_,_,_,_,rfl,ka,kb,rfl,trivial,I.nil (F.iterList kc fun it hit=>?_)⟩⟩⟩))))))⟩)))
    refine⟨it,(adr node).sa,0,rfl,ah ..,fun mm hmm=>I.nil ?_⟩
    have hit:K1 it=none:=hit
    have hmm:upd K1 it (.raw (aJ (adr node).sa 0)) mm=none:=hmm
    have e5:Ext K1 (upd (upd K1 it (.raw (aJ (adr node).sa 0))) mm (.raw (aY it))):=(aa hit).trans (aa hmm)
    have f1:upd (upd K1 it (.raw (aJ (adr node).sa 0))) mm (.raw (aY it)) it=some (.raw (aJ (adr node).sa 0)):=aa hmm _ _ (ah ..)
    have f2:upd (upd K1 it (.raw (aJ (adr node).sa 0))) mm (.raw (aY it)) mm=some (.raw (aY it)):=ah ..
    show Cb _ _ _ _ _ _ ⟨lc,upd (upd K1 it (.raw (aJ (adr node).sa 0))) mm (.raw (aY it))⟩
    generalize upd (upd K1 it (.raw (aJ (adr node).sa 0))) mm (.raw (aY it))=K2 at e5 f1 f2
    have hit0:H it=none:=az (fun a o e=>e4 a o e) hit
    have d1:=e5 _ _ d1
    have d2:=e5 _ _ d2
    have d3:=e5 _ _ d3
    have d4:=e5 _ _ d4
    have e6:=e4.trans e5
    refine M.append d2 (aq (by exact tV hlen m3')) ?_
    have f1:=(af (o:= .list (m1'++ [.ref mm])) (aA f1 d2)).trans f1
    have f2:=(af (o:= .list (m1'++ [.ref mm])) (aA f2 d2)).trans f2
    have d1:=(af (o:= .list (m1'++ [.ref mm])) C.ne).trans d1
    have d3:=(af (o:= .list (m1'++ [.ref mm])) (be d3 d2 (by simp [bq]))).trans d3
    have d4:=(af (o:= .list (m1'++ [.ref mm])) (aA d4 d2)).trans d4
    have e6:=e6.upd (.list (m1'++ [.ref mm])) C.n2
    have d2:upd K2 is (.list (m1'++ [.ref mm])) is=some (.list (m1'++ [.ref mm])):=ah ..
    show WB _ _ _ _ _ _ ⟨lc,upd K2 is (.list (m1'++ [.ref mm]))⟩
    generalize upd K2 is (.list (m1'++ [.ref mm]))=K3 at d1 d2 d3 d4 e6 f1 f2
    refine W.foldL ?_
    intro lc15_ q15_
    refine B.cons (S.assignSub (E.callB (id:= "len") (fun P=>rfl) (by kernel_rfl) (I.cons (E.local (v:= .ref st) C.l2 (I.nil (F.lenList d1 (by rw [ae];exact tU hlen) (E.local (v:= .ref ni) C.l5 (E.local (v:= .str node 0) C.l6 fun v' ov' iv' e1 e2 e3=>?_))))))))
    refine W.setDict e2 e3 e1 d4 (aq (by rw [oz];exact pq hlen)) fun ep'=>?_
    rw [dn _ _ _ (by rw [j3];exact hnot),ae,← mY]
    have f1:=(af (o:= .dict (gZ (row++ [node])) ep') (aA f1 d4)).trans f1
    have f2:=(af (o:= .dict (gZ (row++ [node])) ep') (aA f2 d4)).trans f2
    have d1:=(af (o:= .dict (gZ (row++ [node])) ep') (aA d1 d4)).trans d1
    have d2:=(af (o:= .dict (gZ (row++ [node])) ep') (aA d2 d4)).trans d2
    have d3:=(af (o:= .dict (gZ (row++ [node])) ep') (be d3 d4 (by simp [bq]))).trans d3
    have e6:=e6.upd (.dict (gZ (row++ [node])) ep') C.n4
    have d4:upd K3 ni (.dict (gZ (row++ [node])) ep') ni=some (.dict (gZ (row++ [node])) ep'):=ah ..
    show WB _ _ _ _ _ _ ⟨lc,upd K3 ni (.dict (gZ (row++ [node])) ep')⟩
    generalize upd K3 ni (.dict (gZ (row++ [node])) ep')=K4 at d1 d2 d3 d4 e6 f1 f2
    refine W.foldL ?_
    intro lc16_ q16_
    refine B.cons (S.expr (E.meth (T:= "list") (id:= "list.append") F.plainAttrs_list F.slot_list_append (by kernel_rfl) (E.local (v:= .ref st) C.l2 ⟨⟨_,d1,rfl⟩,I.cons (E.local (v:= .str node 0) C.l6 (I.nil (M.append d1 (aq (by rw [ae];exact pq hlen)) ?_)))⟩)))
    rw [← bc]
    refine B.nil ⟨⟨C.l1,C.l2,C.l3,C.l4,C.l5,rfl,e6.upd _ C.n1,ah ..,⟨_,(af C.ne.symm).trans d2,by simp [m3']⟩,(af (be d3 d1 (by simp [bq]))).trans d3,⟨ep',(af (aA d4 d1)).trans d4⟩,C.ne,C.n1,C.n2,C.n3,C.n4⟩,_,mm,it,(af C.ne.symm).trans d2,(af (aA f2 d1)).trans f2,(af (aA f1 d1)).trans f1,hit0⟩
   ·rintro⟨lc',Hd⟩ ⟨C',ms,mm,it,q1,q2,q3,q4⟩
    dsimp only at C' q1 q2 q3 q4
    have XK:=X.mono C'.ext
    refine aE (XK.i node hnode) fun ka kb kc=>?_
    have kc':Hd (adr node).sa=some (.list [.str (g node) 0]):=by rw [kc,g3];rfl
    have l2':lc' "stack" =some (.ref st):=(dH (by decide)).symm.trans C'.l2
    have l3':lc' "itstack" =some (.ref is):=(dH (by decide)).symm.trans C'.l3
    refine W.foldL ?_
    intro lc17_ q17_
    refine B.cons ?_
    let I18:Nat→St→Prop:=fun n σ=>n=1∧σ=⟨lc',Hd⟩
    refine S.while_ I18 1 ⟨rfl,rfl⟩ ?_
    rintro _ _ ⟨rfl,rfl⟩
    refine T.value (E.local (v:= .ref st) l2' (T.trList C'.h1 (by rw [ae,List.length_append,List.length_singleton];exact tT hlen) ?_))
    have hne:(ag (row++ [node])).isEmpty=false:=by rw [List.isEmpty_eq_false_iff];intro h;have:=congrArg List.length h;simp at this
    rw [hne]
    refine W.foldL ?_
    intro lc19_ q19_
    refine B.cons (S.tryOk (B.cons (S.assign (E.callNext (E.sub (T:= "list") (id:= "list.__getitem__") (by kernel_rfl) (E.local (v:= .ref is) l3' (E.negInt ⟨⟨_,q1,rfl⟩,O.itemLast q1 ⟨mm,it,(adr node).sa,0,_,rfl,q2,q3,kc',by simp,?_⟩⟩)) (by intro _ _;rfl))))))
    show WB _ _ _ _ _ _ ⟨_,upd Hd it (.raw (aJ (adr node).sa 1))⟩
    refine W.foldL ?_
    intro lc20_ q20_
    refine B.cons (S.brk ?_)
    show WB _ _ _ _ [] _ _
    refine B.nil ?_
    have C'':CInv H (upd Hd it (.raw (aJ (adr node).sa 1))) (ca lc' "node" (.str (g node) 0)) N st is se ni (row++ [node]) (g node):=by
     refine ai C'.h2 fun ms' y1 y2=>?_
     obtain⟨ep',y3⟩:=C'.h4
     exact⟨C'.l1,C'.l2,C'.l3,C'.l4,C'.l5,C'.l6,C'.ext.upd _ q4,(af (aA C'.h1 q3)).trans C'.h1,⟨ms',(af (aA y1 q3)).trans y1,y2⟩,(af (be C'.h3 q3 (by simp [bq]))).trans C'.h3,⟨ep',(af (aA y3 q3)).trans y3⟩,C'.ne,C'.n1,C'.n2,C'.n3,C'.n4⟩
    have hlen8:=kQ hnd fun x hx=>(hG x (hsub x hx)).1
    rw [ie,List.length_append,List.length_singleton]at hlen8
    obtain⟨j,rfl⟩:∃ i,j=i+1:=⟨j-1,by exact tS hlen hlen8⟩
    have hlast:(row++ [node]).getLastD default=node:=by simp
    rw [dQ,hlast]at hwalk
    by_cases hin:g node∈row++ [node]
    ·rw [if_pos hin]at hwalk
     refine⟨0,by exact tR,row++ [node],g node,C'',.inr ⟨hwalk,?_⟩⟩
     unfold b9 bU
     rw [← hwalk,hlast]
    ·rw [if_neg hin]at hwalk
     refine⟨j+1,by exact tQ,row++ [node],g node,C'',.inl ⟨j,rfl,hin,by rw [List.length_append,List.length_singleton];exact tP hlen,?_,?_,hwalk⟩⟩
     ·rw [List.nodup_append]
      exact⟨hnd,by simp,fun x hx y hy e=>by simp at hy;subst hy;exact hin (e▸hx)⟩
     ·intro x hx
      rcases List.mem_append.mp hx with q | q
      ·exact hsub x q
      ·simp at q;rw [q];exact g2
  ·have hwl:row.length≤9:=by rw [hrow];have:=dP g 8 [k0];exact Nat.le_trans this (by simp)
   have hmem:node∈row:=by rw [hrow,hback];exact hb
   have hlt:=List.idxOf_lt_length_of_mem hmem
   refine W.foldL ?_
   intro lc21_ q21_
   refine B.cons (S.iteP True (T.compare (E.local (v:= .str node 0) C.l6 (E.local (v:= .ref se) C.l4 (O.inSet C.h3 (by exact pp hwl) ⟨_,rfl,by simp [hmem],rfl⟩)))) (fun _=>?_) (fun h=>absurd trivial h))
   refine W.foldL ?_
   intro lc22_ q22_
   refine B.cons (S.iteP True (T.compare (E.local (v:= .str node 0) C.l6 (E.local (v:= .ref ni) C.l5 (O.inDict hni4 ⟨_,rfl,by rw [fB hmem];simp,rfl⟩)))) (fun _=>?_) (fun h=>absurd trivial h))
   refine W.foldL ?_
   intro lc23_ q23_
   refine B.cons ?_
   refine S.ret ?_
   refine E.binop ?_
   refine E.sliceList (E.local (v:= .ref st) C.l2 (.some (E.sub (T:= "dict") (id:= "dict.__getitem__") (by kernel_rfl) (E.local (v:= .ref ni) C.l5 (E.local (v:= .str node 0) C.l6 ⟨⟨_,hni4,rfl⟩,O.itemDict hni4 (fB hmem) ⟨_,rfl,?_⟩⟩)) (by intro _ _;rfl))))
   refine .none ⟨st,_,rfl,C.h1,by rw [ae];exact aq (by exact pp hwl),by rw [ae];exact Nat.le_of_lt hlt,Nat.le_refl _,by rw [ae];exact Nat.le_of_lt hlt,fun c hc=>?_⟩
   have hcut:cut (ag row) (some (row.idxOf node)) none=ag (row.drop (row.idxOf node)):=by
    unfold cut ag;rw [List.map_drop];simp [List.take_of_length_le]
   rw [hcut]
   refine E.list (I.cons (E.local (v:= .str node 0) C.l6 (I.nil ⟨eg,fun b hb'=>?_⟩)))
   have hc1:=aa (o:= .list [Value.str node 0]) hb' c _ (ah ..)
   refine O.addLists hc1 (ah ..) (by rw [ae];exact aq (by simp;exact q6 hwl)) fun q hq=>?_
   intro v' hv'
   have e5:Ext Hc (upd (upd Hc c (.list (ag (row.drop (row.idxOf node))))) b (.list [Value.str node 0])):=(aa hc).trans (aa hb')
   exact⟨(C.ext.trans e5).trans (aa hq),q,hv',az (fun a o e=>(C.ext.trans e5) a o e) hq,by
    show upd _ _ _ _=_
    rw [ah];unfold fH;rw [← hrow,← hback];unfold ag;simp⟩
 ·rintro⟨loc,Hs⟩ ⟨h,_⟩
  rw [List.length_map,hk]at h;cases h
end
end Mine
end
section
open PySem PySem.W PyProof.Rows PySem.Calls PySem.SeqAt
namespace Mine
section
variable {D:Wd}{A:Around}{L:Addr}{α β:Type}{σ:St}{env:Env}{Φ:Frz}{H:AH}{s:Shared}{outer:List Env}{e:Addr}{cls:Value}{vs:List Value}
noncomputable def FrOn(H:AH)(outer:List Env):Prop:=∀ env∈outer,env.scope.kind≠ .module∧ ∃ L m,env.frame=some L∧H L=some (.ns m)
structure KeepsIn (D:Wd) (Φ:Frz) (H:AH) (base:Heap):Prop where
 frz:∀ b o,Φ b=some o→base.get? b=some o
 obj:∀ a ao,H a=some ao→(∀ m,ao≠ .ns m)→ ∃ o,base.get? a=some o∧AtO D.w o ao
noncomputable def Fly(D:Wd)(Φ:Frz)(H:AH)(outer:List Env)(e:Addr)(cls:Value)(vs:List Value)(s:Shared):Prop:=
 Rel0 D Φ H s∧ ∃ base t,Heap.FlyingW base outer e cls (.ref t) s.heap∧base.get? t=none∧s.heap.TupAt t vs∧KeepsIn D Φ H base
theorem Rel0.slots{h':Heap}{base:Heap}(R:Rel0 D Φ H s)(k:KeepsIn D Φ H base)(hs:base.StaysIn h')(hu:s.heap.UpToSlots h'):Rel0 D Φ H { s with heap:=h'}:=
 ⟨R.base,fun b o q=>hs b o (k.frz b o q),fun a ao q=>by
  obtain⟨hF,ha⟩:=R.obj a ao q
  refine⟨hF,?_⟩
  by_cases hm:∃ m,ao= .ns m
  ·obtain⟨m,rfl⟩:=hm
   refine cZ ha fun o ho es ep hd hk hv=>?_;clear ha
   obtain⟨sl,hsl⟩:=hu a o ho fun vs q=>by rw [hd]at q;cases q
   exact⟨_,hsl,es,ep,hd,hk,hv⟩
  ·refine ai (k.obj a ao q fun m e=>hm ⟨m,e⟩) fun o ho x=>?_
   exact⟨o,hs a o ho,x⟩,R.os,R.gens,R.hi⟩
theorem FrOn.frames(R:Rel0 D Φ H s){as:List Addr}:∀ {l:List Env},FrOn H l→(∀ env∈l,∀ a,env.frame=some a→a∈as)→s.heap.FunFrames (hideAll s.heap as) l
 | [],_,_=>trivial
 | env::r,h,hin=>by
  refine cq (h env (.head _)) fun hk L m hf hL=>?_
  refine cZ ((R.obj _ _ hL).2) fun o ho es ep hd _ _=>?_
  exact⟨hk,⟨L,o,hf,hideAll_none _ (hin env (.head _) L hf),ho,fun vs q=>by rw [hd]at q;cases q⟩,FrOn.frames R (fun e he=>h e (.tail _ he)) fun e he=>hin e (.tail _ he)⟩
theorem KeepsIn.hide(R:Rel0 D Φ H s){l:List Env}(h:FrOn H l):KeepsIn D Φ H (hideAll s.heap (l.filterMap (·.frame))) where
 frz:=fun b o q=>hideAll_get _ (R.frz b o q) fun hm=>by
  refine ai (List.mem_filterMap.mp hm) fun env he hf=>?_
  refine cq (h env he) fun _ L m hf' hL=>?_
  obtain rfl:L=b:=Option.some.inj (hf'.symm.trans hf)
  exact nomatch q.symm.trans (R.obj _ _ hL).1
 obj:=fun a ao q hn=>by
  refine lu (R.obj a ao q) fun _ o ho x=>?_
  refine⟨o,hideAll_get _ ho fun hm=>?_,x⟩
  refine ai (List.mem_filterMap.mp hm) fun env he hf=>?_
  refine cq (h env he) fun _ L m hf' hL=>?_
  obtain rfl:L=a:=Option.some.inj (hf'.symm.trans hf)
  exact hn m (Option.some.inj (q.symm.trans hL))
theorem Fly.start{h':Heap}{Q:Unit→Shared→Prop}{E:Value→Shared→Prop}(hfr:A.frames=some (env::outer))(hf:env.frame=some L)(R:Rel0 D Φ H s)(hon:FrOn H (env::outer))(hx:Heap.MadeExcOf s.heap h' e cls vs)
 (hQ:∀ s',Fly D Φ H outer e cls vs s'→Q () s'):wpAny (model PR D.w) A (leaving env (.ref e)) Q E { s with heap:=h'}:=by
 refine wpAny_leaves_madeW (h:=s.heap) (base:=hideAll s.heap ((env::outer).filterMap (·.frame))) hfr hf (fun b o q=>of_hideAll _ q) (FrOn.frames R hon fun env he a ha=>List.mem_filterMap.mpr ⟨env,he,ha⟩) hx fun h'' t x1 x2 x3 x4=>?_
 have k:=KeepsIn.hide R hon
 have hu:s.heap.UpToSlots h'':=(Heap.UpToSlots.of_keeps hx.keeps).trans x4
 exact hQ _ ⟨R.slots k x1.1 hu,_,t,x1,x3,x2,k⟩
noncomputable def WX(D:Wd)(A:Around)(L:Addr)(t:Sem α)(cls:Value)(X:List Value→St→Prop)(σ:St):Prop:=
 ∀ Φ s,Rel D L Φ σ s→wpAny (model PR D.w) A t (fun _ _=>False) (fun v s'=> ∃ e s₂ σ' vs h',v= .ref e∧Heap.MadeExcOf s₂.heap h' e cls vs∧s'= { s₂ with heap:=h'} ∧Rel D L Φ σ' s₂∧X (vs.map er) σ') s
theorem X.skip{st:Stmt}{r:List Stmt}{X:List Value→St→Prop}(h:WS D A L env st (fun f σ₁=>f= .next∧WX D A L (execs r env) cls X σ₁) σ):WX D A L (execs (st::r) env) cls X σ:=fun Φ s R=>by
 rw [execs_cons]
 refine wpAny_bind (wpAny_mono (h Φ s R) (fun f s₁=>aK fun σ₁ R₁ e h₁=>?_) fun _ _ x=>x.elim)
 subst e
 exact h₁ Φ s₁ R₁
theorem X.here{st:Stmt}{r:List Stmt}{X:List Value→St→Prop}(h:WX D A L (exec st env) cls X σ):WX D A L (execs (st::r) env) cls X σ:=fun Φ s R=>by
 rw [execs_cons]
 exact wpAny_bind (wpAny_mono (h Φ s R) (fun _ _ x=>x.elim) fun _ _ x=>x)
theorem X.iteT{t:Expr}{b o:List Stmt}{pos:Pos}{X:List Value→St→Prop}(h:WT D A L env t (fun c σ₁=>c=true∧WX D A L (execs b env) cls X σ₁) σ):WX D A L (exec (.If t b o pos) env) cls X σ:=fun Φ s R=>
 wpAny_If (wpAny_mono (h Φ s R) (fun c s₁=>aK fun σ₁ R₁ e h₁=>by subst e;exact h₁ Φ s₁ R₁) fun _ _ x=>x.elim)
theorem X.iteF{t:Expr}{b o:List Stmt}{pos:Pos}{X:List Value→St→Prop}(h:WT D A L env t (fun c σ₁=>c=false∧WX D A L (execs o env) cls X σ₁) σ):WX D A L (exec (.If t b o pos) env) cls X σ:=fun Φ s R=>
 wpAny_If (wpAny_mono (h Φ s R) (fun c s₁=>aK fun σ₁ R₁ e h₁=>by subst e;exact h₁ Φ s₁ R₁) fun _ _ x=>x.elim)
noncomputable def CdX(D:Wd)(A:Around)(c:Code)(outer:List Env)(cls:Value)(X:List Value→AH→Prop)(H:AH):Prop:=
 ∀ Φ s,Rel0 D Φ H s→codeAny (model PR D.w) A c (fun r s'=> ∃ e vs H',r= .error (.ref e)∧Fly D Φ H' outer e cls vs s'∧X (vs.map er) H') s
theorem CdX.fn{f:Addr}{oc:Value}{od:Option Addr}{fd:FuncData}{osl:Array (Option Value)}{body:List Stmt}{args:Args}{binds:List (Str×Value)}{X:List Value→AH→Prop}{n:Nat}
 (hf:∀ P,(K0 P).lookup f=some ⟨oc,od,.func fd,osl⟩) (hbody:fd.body= .stmts body) (hcd:∀ P,codeIn (K0 P) fd.code fd.qualname=true)
 (hbind:bindArgs fd args=Pure.pure binds) (hA:Ok A (n+1)) (hfr:A.frames=some outer) (hcell:∀ x∈fd.scope.names,x.2≠ .cell) (hloc:∀ x∈binds,fd.scope.names.lookup x.1=some .local)
 (h:∀ L',(∀ a,L'≤a→H a=none)→Ok (A.deeper (callEnv fd L' f)) n→WX D (A.deeper (callEnv fd L' f)) L' (execs body (callEnv fd L' f)) cls (fun vs σ'=>FrOn σ'.H outer∧X vs σ'.H) ⟨fun x=>(binds.reverse.lookup x).map er,H⟩)
 (hco:fd.scope.isCoroutine=false:=by rfl) (hgen:fd.scope.isGenerator=false:=by rfl) (hk:fd.scope.kind= .function:=by rfl):CdX D A (.call (.ref f) args) outer cls X H:=fun Φ s R=>by
 refine codeAny_call_def (fd:=fd) (body:=body) (binds:=binds) (by have:=hA.depth;show A.depth<1000;exact zq7 this) (R.K _ _ (hf _)) rfl R.sta.nolimit (codeRec_of R.K (hcd _)) hbody (BindsTo.of_eq hbind) hcell hloc (fun h₁ hns hk₁=>?_) hco hgen hk
 have R₁:Rel D s.heap.objs.size Φ ⟨fun x=>(binds.reverse.lookup x).map er,H⟩ { s with heap:=h₁,toks:=s.toks+binds.length}:=
  ⟨R.ext hk₁,R.geF _ (Nat.le_refl _),R.ge _ (Nat.le_refl _),At.of_ns hns fun _=>rfl,R.big⟩
 refine wpAny_mono (h _ R.ge (hA.deeper _) Φ _ R₁) (fun fl s' x=>x.elim) fun v s'=>cF fun e s₂ σ' vs h' ev hm es R₂ hon x=>?_
 subst ev es
 refine Fly.start (H:=upd σ'.H s.heap.objs.size (.ns σ'.loc)) (Around.frames_deeper hfr) rfl R₂.push0 ?_ hm fun s' y=>?_
 ·intro env he
  rcases List.mem_cons.mp he with rfl | he
  ·exact⟨by show fd.scope.kind≠_;rw [hk];simp,_,_,rfl,ah ..⟩
  ·refine cq (hon env he) fun a L' m b c=>?_
   exact⟨a,L',m,b,aa R₂.HL _ _ c⟩
 ·refine⟨e,vs,σ'.H,rfl,?_,x⟩
  refine df y fun y1 base t y2 y3 y4 y5=>?_;clear y
  have ext:=aa (o:=AO.ns σ'.loc) R₂.HL
  exact⟨y1.mono fun a o q=>ext a o q,base,t,y2,y3,y4,y5.frz,fun a ao q hn=>y5.obj a ao (ext _ _ q) hn⟩
end
end Mine
end
section
open PySem PySem.W PyProof.Rows PySem.Calls PySem.SeqAt
namespace Mine
section
variable {D:Wd}{A:Around}{L:Addr}{α β:Type}{σ:St}{env:Env}{Φ:Frz}{H:AH}{s:Shared}{outer:List Env}{e:Addr}{cls:Value}{vs:List Value}
theorem lz{M:Model}{f:Value}{trees:List (Bool×Sem Value)}{Q:Args→Shared→Prop}{E:Value→Shared→Prop}(hplain:trees.any (·.1)=false)(h:wpAny M A (spliced trees) (fun vs s₁=>Q ⟨vs,[]⟩ s₁) E s):wpAny M A (evalArgs f true trees []) Q E s:=by
 cases trees with
 | nil=>
  unfold evalArgs
  show wpAny M A (spliced []>>=_) Q E s
  refine wpAny_bind (wpAny_mono h (fun vs s₁ q=>?_) fun _ _ x=>x)
  refine wpAny_bind (wpAny_pure ?_)
  refine wpAny_holding ?_
  exact wpAny_bind (wpAny_pure (wpAny_bind (wpAny_pure (wpAny_pure q))))
 | cons x r=>
  obtain⟨st,t⟩:=x
  have hst:st=false:=by
   simp only [List.any_cons,Bool.or_eq_false_iff]at hplain
   exact hplain.1
  subst hst
  exact evalArgs_kw rfl (wpAny_mono h (fun vs s₁ q=>wpAny_evalAll_nil q) fun _ _ x=>x)
noncomputable def qI:List Value:= [.type "ValueError",.type "Exception",.type "BaseException",.type "object"]
theorem mJ{P:Params}{h₀:Heap}(X:(K0 P).In h₀):
 ∃ bm N nm q bs hdct sn sub ab col dd k0 k1 k2 k3 k5 mN,h₀.get? 189=some (excClassObj nm q 189 N bs bm hdct sn sub ab col dd k0 k1 k2 k3 k5 "ValueError.__new__")∧h₀.Ns N mN∧mN "__init__" =none∧OwnTail h₀ qI bm:=
 ⟨_,_,_,_,_,_,_,_,_,_,_,_,_,_,_,_,_,X 189 _ rfl,.of_isNs (isNs_of_in X (by kernel_rfl)),nsMap_none_of_in X (by kernel_rfl) (by kernel_rfl),tail_of_in X (by kernel_rfl)⟩
theorem X.raiseOwn{x:Str}{np cpos pos:Pos}{args:List Expr}{C:Addr}{X:List Value→St→Prop}(hh:A.handled=none)(hx:∀ P,nsIn (K0 P) mainGlobals x=some (some (.ref C)))(hq:C=189)
 (h:WI D A L env cpos args (fun vs σ₁=>vs.length≤sizeLine∧X vs σ₁) σ) (hplain:(backTo cpos (starEach args env)).any (·.1)=false:=by rfl) (hg:env.globals=mainGlobals:=by rfl) (hk:env.scope.kind= .function:=by rfl) (hl:env.kindOf x=some .globalImplicit:=by rfl) (hdb:(x==("__debug__" :Str))=false:=by decide):
 WX D A L (exec (.Raise (some (.Call (.Name x np) args [] cpos)) none pos) env) (.ref C) X σ:=fun Φ s R=>by
 subst hq
 refine bw (mJ D.sta.K) fun bm N nm q bs hdct sn sub ab col dd k0 k1 k2 k3 k5 mN hC hN hni T=>?_
 have hbase:bm.contains (.type "BaseException")=true:=T.hasType (b:=true) (by decide)
 refine wpAny_Raise_call_subU (C:=189) (nm:=nm) (q:=q) (N:=N) (bs:=bs) (bm:=bm) (hdct:=hdct) (sn:=sn) (sub:=sub) (ab:=ab) (col:=col) (dd:=dd) (k0:=k0) (k1:=k1) (k2:=k2) (k3:=k3) (k5:=k5) PySem.F.excBase_ValueError (bmB:=qI) (by decide) PySem.F.excBase_ValueError hbase hh hplain hni ?_
 refine wpAny_mono (E.glob (Q:=fun v σ'=>v= .ref 189∧σ'=σ) hx ⟨rfl,rfl⟩ hg hk hl hdb Φ s R) (fun v s₁=>aK fun σ₁ R₁ ev eσ=>⟨al ev,?_⟩) fun _ _ x=>x.elim
 subst eσ
 refine lz hplain (wpAny_mono (h Φ s₁ R₁) (fun vs s₂=>aK fun σ₂ R₂ hz x=>⟨rfl,by simpa using hz,R₂.rel.keep _ _ hC,hN.keeps R₂.rel.keep,T.keeps R₂.rel.keep,fun h' e hm=>⟨e,s₂,σ₂,vs,h',rfl,hm,rfl,R₂,x⟩⟩) fun _ _ x=>x.elim)
theorem X.raiseVE{np cpos pos:Pos}{args:List Expr}{X:List Value→St→Prop}(hh:A.handled=none)(hx:∀ P,nsIn (K0 P) mainGlobals "ValueError" =some none)
 (h:WI D A L env cpos args (fun vs σ₁=>vs.length≤sizeLine∧X vs σ₁) σ) (hplain:(backTo cpos (starEach args env)).any (·.1)=false:=by rfl) (hg:env.globals=mainGlobals:=by rfl) (hb:env.builtins=builtinsNs:=by rfl) (hk:env.scope.kind= .function:=by rfl) (hl:env.kindOf "ValueError" =some .globalImplicit:=by rfl):
 WX D A L (exec (.Raise (some (.Call (.Name "ValueError" np) args [] cpos)) none pos) env) (.type "ValueError") X σ:=fun Φ s R=>by
 refine wpAny_Raise_call PySem.F.excCall_ValueError PySem.F.excRaise_ValueError hh hplain ?_
 refine wpAny_mono (E.builtin (v:= .type "ValueError") (Q:=fun v σ'=>v= .type "ValueError" ∧σ'=σ) hx (by kernel_rfl) ⟨rfl,rfl⟩ hg hb hk hl (by decide) (by decide) Φ s R) (fun v s₁=>aK fun σ₁ R₁ ev eσ=>⟨cE ev,?_⟩) fun _ _ x=>x.elim
 subst eσ
 exact lz hplain (wpAny_mono (h Φ s₁ R₁) (fun vs s₂=>aK fun σ₂ R₂ hz x=>⟨rfl,by simpa using hz,fun h' e hm=>⟨e,s₂,σ₂,vs,h',rfl,hm.of,rfl,R₂,x⟩⟩) fun _ _ x=>x.elim)
end
end Mine
end
section
open PySem PySem.W PyProof.Rows PySem.Calls PySem.SeqAt
namespace Mine
section
variable {D:Wd}{A:Around}{L:Addr}{α β:Type}{σ:St}{env:Env}{Φ:Frz}{H:AH}{s:Shared}{outer:List Env}{e:Addr}{cls:Value}{vs:List Value}{C x dx:Addr}{m:Str→Option Value}{name:Str}
noncomputable def oQ(D:Wd)(A:Around)(L:Addr)(t:Sem α)(outer:List Env)(cls:Value)(X:List Value→St→Prop)(σ:St):Prop:=
 ∀ Φ s,Rel D L Φ σ s→wpAny (model PR D.w) A t (fun _ _=>False) (fun v s'=> ∃ e vs H' m,v= .ref e∧Fly D Φ H' outer e cls vs s'∧H' L=some (.ns m)∧X (vs.map er) ⟨m,del H' L⟩) s
theorem Y.here{st:Stmt}{r:List Stmt}{X:List Value→St→Prop}(h:oQ D A L (exec st env) outer cls X σ):oQ D A L (execs (st::r) env) outer cls X σ:=fun Φ s R=>by
 rw [execs_cons]
 exact wpAny_bind (wpAny_mono (h Φ s R) (fun _ _ x=>x.elim) fun _ _ x=>x)
theorem Y.ret{e:Expr}{pos:Pos}{X:List Value→St→Prop}(h:oQ D A L (eval e env) outer cls X σ):oQ D A L (exec (.Return (some e) pos) env) outer cls X σ:=fun Φ s R=>
 wpAny_Return_some (wpAny_mono (h Φ s R) (fun _ _ x=>x.elim) fun _ _ x=>x)
theorem Y.expr{e:Expr}{pos:Pos}{X:List Value→St→Prop}(h:oQ D A L (eval e env) outer cls X σ)(hi:interactive env=false:=by rfl)(hs:swapsWith e Option.none pos.line env=Pure.pure false:=by rfl):oQ D A L (exec (.Expr e pos) env) outer cls X σ:=fun Φ s R=>
 wpAny_Expr_any (wpAny_mono (h Φ s R) (fun _ _ x=>x.elim) fun _ _ x=>x) hi hs
theorem S.tryOwn{x:Str}{np hpos pos:Pos}{body:List Stmt}{b₀:Stmt}{suite:List Stmt}{C:Addr}{Q:Flow→St→Prop}{outer:List Env}(hfr:A.frames=some (env::outer))(hf:env.frame=some L)
 (hx:∀ P,nsIn (K0 P) mainGlobals x=some (some (.ref C))) (hq:C=189)
 (h:oQ D A L (execs body env) (env::outer) (.ref C) (fun _ σ₁=> ∀ e',WB D (A.mark (some (.ref e'))) L env (b₀::suite) Q σ₁) σ)
 (hg:env.globals=mainGlobals:=by rfl) (hk:env.scope.kind= .function:=by rfl) (hl:env.kindOf x=some .globalImplicit:=by rfl) (hdb:(x==("__debug__" :Str))=false:=by decide):
 WS D A L env (.Try body [.ExceptHandler (some (.Name x np)) Option.none (b₀::suite) hpos] [] [] pos) Q σ:=fun Φ s R=>by
 refine wpAny_Try_except (wpAny_mono (h Φ s R) (fun _ _ x=>x.elim) fun v s'=>eS fun e vs H' m ev hx hL hb=>?_)
 obtain⟨R',base,t,hfl,ht,htup,k⟩:=hx
 subst ev
 refine wpAny_looks_onW hfr hf hfl fun h₄ hheld₄ hsm₄=>wpAny_landsW hheld₄ fun h₅ hfl₅ hsm₅=>?_
 have u₅:=hsm₄.trans hsm₅
 have R₅:=Rel.pop0 (R'.slots k hfl₅.1 u₅) hL
 refine ai hfl₅.there fun ob hob hobc=>?_
 subst hq
 refine bw (mJ R₅.K) fun bm N nm q bs hdct sn sub ab col dd k0 k1 k2 k3 k5 mN hC hN hni T=>?_
 have hbase:bm.contains (.type "BaseException")=true:=T.hasType (b:=true) (by decide)
 refine wpAny_handleBy_cons (codeAny_handlers_test ?_) (by intro q;cases q)
 obtain⟨mg,hG⟩:=R₅.sta.g
 refine Name_function_global hk hl (loadGlobal_global (env:=env) (by rw [hg];exact hG) (mg_of R₅.K hG (hx _)) ?_) hdb
 obtain⟨hp,g,d,tk,os⟩:=s'
 refine wpAny_excMatches_sub_self hC hob hobc hbase (codeAny_handlers_suite ?_)
 refine lands_againW hfl₅ fun h₆ hfl₆ hsm₆=>?_
 have R₆:=Rel.pop0 (R'.slots k hfl₆.1 (u₅.trans hsm₆)) hL
 refine wpAny_passesOwnAt PassesOwnAt.never ?_
 exact hb e Φ _ R₆
theorem Y.methOwn{o:Expr}{apos pos:Pos}{args:List Expr}{f:Addr}{X:List Value→St→Prop}(hga:∀ P,findIn (K0 P) (.ref C) "__getattribute__" =some (some (.builtin "object.__getattribute__")))
 (hk:∀ P,findIn (K0 P) (.ref C) "__getattr__" =some Option.none) (hf:∀ P,findIn (K0 P) (.ref C) name=some (some (.ref f))) (ht:∀ P,typeIn (K0 P) (.ref f)=some (.type "function")) (hkeep:∀ P,keepIn (K0 P) (.ref f)=true)
 (h:WE D A L (eval o env) (fun ov σ₁=> ∃ x dx m,ov= .ref x∧σ₁.H x=some (.inst C dx [])∧σ₁.H dx=some (.fld m)∧m name=Option.none∧
  WI D A L env pos args (fun vs σ₂=> ∀ vs',vs'.map er=vs→σ₂.H L=Option.none→CdX D A (.call (.ref f) ⟨.ref x::vs',[]⟩) outer cls (fun xs H'=>H' L=some (.ns σ₂.loc)∧X xs ⟨σ₂.loc,del H' L⟩) (upd σ₂.H L (.ns σ₂.loc))) σ₁) σ)
 (hbase:attributeBase o name env (eval o env)=eval o env:=by rfl)
 (hfew:((backTo pos (starEach args env)).all (fun x=> !x.1) && (backToKw pos (keywordEach [] env)).all (fun x=>x.1.isSome) && decide (args.length+([]:List Keyword).length+(if ([]:List Keyword).isEmpty then 0 else 1)<30))=true:=by rfl)
 (hline:(apos.endLine==pos.line)=true:=by rfl) (hplain:(backTo pos (starEach args env)).any (·.1)=false:=by rfl):oQ D A L (eval (.Call (.Attribute o name apos) args [] pos) env) outer cls X σ:=fun Φ s R=>by
 have hform:methodCallForm (args.length+([]:List Keyword).length) (backTo pos (starEach args env)) (backToKw pos (keywordEach [] env))=true:=hfew
 have hpos:methodCallPos true o env apos pos=Pure.pure pos:=by unfold methodCallPos;simp [hline]
 rw [arm_eval_Call,hbase]
 refine wpAny_bind (wpAny_mono (h Φ s R) (fun ov s₁=>cW fun σ₁ R₁ x dx m e hx hd' hm hi=>wpAny_bind (wpAny_standAt ?_)) fun _ _ x=>x.elim)
 rw [al e]
 refine aR (R₁.inst hx hd') fun od I hfl hod=>?_
 refine ai (cx hfl name) fun r hr er'=>?_
 have hr0:r=Option.none:=by rw [hm]at er';cases r with | none=>rfl | some v=>cases er'
 subst hr0
 unfold methodCall
 rw [hform]
 refine wpAny_bind (wpAny_holding (method_fn R₁.K I (hga _) (hk _) (hf _) (ht _) (by unfold shadowIn;dsimp only;rw [hr];rfl) ?_))
 refine wpAny_bind (wpAny_of_eq hpos ?_)
 refine callWith_of (P:=fun h=>(K0 D.w.params).In h) (by rw [hplain];rfl) (keeps_K (hkeep _)) ?_
 refine lz hplain (wpAny_mono (hi Φ s₁ R₁) (fun vs s₂=>ar fun σ₂ R₂ h₂=>⟨R₂.K,?_⟩) fun _ _ x=>x.elim)
 refine wpAny_call (codeAny_mono (h₂ vs rfl R₂.HL Φ _ R₂.push0) fun r s'=>fS fun e xs H' e1 fl hL x=>?_)
 subst e1
 exact⟨e,xs,H',_,rfl,fl,hL,x⟩
end
end Mine
end
section
open PySem PySem.W PyProof.Rows PySem.Calls PySem.SeqAt
namespace Mine
variable {D:Wd}{A:Around}
theorem E.joined1{L:Addr}{σ:St}{env:Env}{v:Expr}{pos:Pos}{Q:Value→St→Prop}(h:WE D A L (eval v env) Q σ):WE D A L (eval (.JoinedStr [v] pos) env) Q σ:=fun Φ s R=>wpAny_JoinedStr_one (h Φ s R)
theorem FrOn.grow{H H':AH}{outer:List Env}{Sr SD N:Addr}{adr:Str→Adr}{V:Vw}{ready:Value}{po nf:Int}{P':Addr→Prop}(h:FrOn H outer)(X:Sor H Sr SD N adr V ready po nf)(g:Grow H H' (Foot SD N adr V) P'):FrOn H' outer:=fun env he=>
 let⟨a,L,m,b,c⟩:=h env he;⟨a,L,m,b,g.keep _ _ c (X.apart c)⟩
section
variable {H:AH}{Sr SD N:Addr}{adr:Str→Adr}{V:Vw}{ready:Value}{po nf:Int}{g:Str→Str}{outer:List Env}
theorem nI{k0:Str}{rest:List Str}{v:Value}(hA:Ok A 12)(hv:er v= .ref Sr)(S0:Sor H Sr SD N adr V .none po nf)(hk:V.ks=k0::rest)(hz:V.ks.length≤900)(hG:∀ n∈V.ks,n∈NM∧g n∈V.ks∧V.sc n= [g n])
 (hb:b9 g k0∈aQ g k0) (hfr:A.frames=some outer) (hon:FrOn H outer):
 CdX D A (.call (.ref 226) ⟨[v],[]⟩) outer (.ref 189) (fun _ H'=> ∃ q,H q=none∧SorR H' Sr SD N adr V q (V.ks.filter fun t=>decide (V.np t=0)) po nf∧Grow H H' (Foot SD N adr V) (FootR SD N adr V q)) H:=by
 obtain rfl:=al hv
 refine dc S0.setReady fun m hm m1 m2 m3 m4 mw setR _ _=>?_
 obtain⟨ep0,hN⟩:=S0.n
 refine CdX.fn (fun P=>rfl) rfl (fun P=>rfl) rfl hA hfr (by decide) (locs rfl) (fun L hL hA'=>?_)
 refine X.skip (S.iteP False (T.compare (E.fld (fun P od v h=>by show Option.bind (lookIn _ od) _=_;rw [h];rfl) (E.local (v:= .ref Sr) rfl ⟨rfl,S0.s,hm,m2,trivial,E.none (O.isNotNone ⟨_,rfl,by simp,rfl⟩)⟩))) (fun h=>h.elim) (fun _=>?_))
 refine B.nil ⟨rfl,?_⟩
 refine X.skip (S.assignAttr (E.listComp (cl:=_) rfl (It.of (E.meth (T:= "dict") (id:= "dict.values") F.plainAttrs_dict F.slot_dict_values (by kernel_rfl) (E.fld (fun P od v h=>by show Option.bind (lookIn _ od) _=_;rw [h];rfl) (E.local (v:= .ref Sr) rfl ⟨rfl,S0.s,hm,m1,trivial,⟨_,hN,rfl⟩,I.nil (M.values hN fun vw hvw=>?_)⟩))))))
 have hvw:H vw=none:=hvw
 have hN1:=aa (o:=AO.raw (cA N)) hvw _ _ hN
 refine⟨_,_,_,fun v hv=>by rw [al hv];exact lG (d:=N) (es:=V.ks.map fun t=>(t,Value.ref (adr t).a)) (ep:=ep0) hA'.hand,?_,?_⟩
 ·intro p hp
  rcases List.mem_cons.mp hp with rfl | hp
  ·exact hN1
  ·rw [List.mem_singleton.mp hp];exact ah ..
 have X1:=S0.mono (aa (o:=AO.raw (cA N)) hvw)
 show _∧_
 have hn:(V.ks.map fun t=>(t,Value.ref (adr t).a)).length=V.ks.length:=List.length_map _
 rw [hn]
 refine⟨aq (by exact lD hz),fun k=>decide (V.np (V.ks.getD k default)=0),fun k v _=>v= .str (V.ks.getD k default) 0,fun k v H H' q _=>q,?_,?_⟩
 ·intro C k m H' hlt hC hext
  have hmem:V.ks.getD k default∈V.ks:=aF hlt
  show ∀ v,er v=_→_
  intro v hv
  have hv:er v= .ref (adr (V.ks.getD k default)).a:=by rw [hv];simp [List.getD,List.getElem?_eq_getElem hlt]
  have XL:=S0.mono ((aa (hL L (Nat.le_refl _))).trans ((Ext.upd_mono (aa (o:=AO.raw (cA N)) hvw) L _).trans hext))
  refine aE (XL.i _ hmem) fun ka kb kc=>?_
  refine W.assignLocal ?_
  rw [hv]
  refine W.testsOne ?_
  refine T.compare (E.attrSlot (C:=174) (p:=176) (i:=1) (fun P=>rfl) (fun P=>rfl) (fun P=>rfl) (fun P=>rfl) (E.local (v:= .ref (adr (V.ks.getD k default)).a) rfl ⟨_,_,_,_,rfl,ka,kb,rfl,trivial,E.int (O.eqII ⟨_,rfl,?_⟩)⟩))
  refine⟨by rw [Bool.eq_iff_iff];simp,?_⟩
  first | split | (dsimp only [gV,bv];split)
  ·exact E.attrSlot (C:=174) (p:=175) (i:=0) (fun P=>rfl) (fun P=>rfl) (fun P=>rfl) (fun P=>rfl) (E.local (v:= .ref (adr (V.ks.getD k default)).a) rfl ⟨_,_,_,_,rfl,ka,kb,rfl,trivial,Ext.refl _,rfl⟩)
  ·exact Ext.refl _
 ·intro q H2 ys hext hq hys hp
  have eH:Ext H H2:=(aa hvw).trans hext
  have hq0:H q=none:=az (fun a o e=>aa (o:=AO.raw (cA N)) hvw a o e) hq
  rw [bH hp,cP (fun t=>decide (V.np t=0))]at hys
  have S2:=S0.mono eH
  refine dc S2.setReady fun m hm m1 m2 m3 m4 mw setR _ _=>?_
  refine E.local (v:= .ref Sr) rfl fun v' ov' e1 e2=>?_
  refine W.setF (fun P=>rfl) e2 e1 S2.s hm mw ?_
  have S3:=setR (.ref q)
  have hq3:=(af (o:=AO.fld (ca m "_ready_nodes" (.ref q))) (aA hys hm)).trans hys
  have g3:Grow H (upd H2 SD (AO.fld (ca m "_ready_nodes" (.ref q)))) (Foot SD N adr V) (Foot SD N adr V):=(Grow.ext eH).trans (Grow.upd _ (.inl rfl))
  refine⟨rfl,?_⟩
  show WX _ _ _ _ _ _ ⟨_,upd H2 SD (AO.fld (ca m "_ready_nodes" (.ref q)))⟩
  generalize upd H2 SD (AO.fld (ca m "_ready_nodes" (.ref q)))=H3 at S3 hq3 g3
  refine bp S3.setReady fun m hm m1 m2 m3 m4 mw _=>?_
  refine X.skip (S.assign (E.methOwn (C:=271) (f:=261) (fun P=>rfl) (fun P=>rfl) (fun P=>rfl) (fun P=>rfl) (fun P=>rfl) (E.local (v:= .ref Sr) rfl ⟨Sr,SD,m,rfl,S3.s,hm,bD mw (by decide),I.nil ?_⟩)))
  intro vs' hvs hLn
  obtain rfl:=map_nil hvs
  refine Cd.new hLn (nK (hA'.mono (by decide)) rfl (S3.mono (aa hLn)) hk hz hG hb) (fun a H4 e4 ha hH4=>⟨rfl,?_⟩)
  refine X.here (X.iteT (T.value (E.local (v:= .ref a) rfl (T.trList hH4 ?_ ⟨?_,?_⟩))))
  ·rw [ae];unfold fH;have:=dP g 8 [k0];rw [List.length_append,List.length_drop];unfold aQ;simp at this ⊢;exact sI this
  ·rw [Bool.not_eq_true',List.isEmpty_eq_false_iff];unfold fH ag;simp
  ·refine X.here (X.raiseOwn (C:=189) hA'.hand (fun P=>rfl) rfl (I.cons (E.joined1 (E.str (I.cons (E.local (v:= .ref a) rfl (I.nil ⟨bZ,?_⟩)))))))
   have S4:=S3.mono e4
   have g4:=g3.trans (Grow.ext e4)
   refine⟨hon.grow S0 g4,q,hq0,⟨S4,e4 _ _ hq3,fun t ht e=>?_⟩,g4.keep,fun b hb=>?_⟩
   ·have:=(S0.i t ht).2.2
    rw [← e,hq0]at this;cases this
   ·rcases hb with hb | rfl
    ·exact g4.foot b hb
    ·exact .inr hq0
end
end Mine
end
section
open PySem PySem.W PyProof.Rows PySem.Calls PySem.SeqAt
namespace Mine
variable {D:Wd}{A:Around}
theorem CdX.mono{c:Code}{outer:List Env}{cls:Value}{X Y:List Value→AH→Prop}{H:AH}(h:CdX D A c outer cls X H)(k:∀ vs H',X vs H'→Y vs H'):CdX D A c outer cls Y H:=fun Φ s R=>
 codeAny_mono (h Φ s R) fun r s'=>lm fun e vs H' a b x=>⟨e,vs,H',a,b,k _ _ x⟩
theorem FrOn.push{H:AH}{outer:List Env}{L:Addr}{m:Str→Option Value}{env:Env}(h:FrOn H outer)(hn:H L=none)(hf:env.frame=some L)(hk:env.scope.kind≠ .module):FrOn (upd H L (.ns m)) (env::outer):=fun e he=>by
 rcases List.mem_cons.mp he with rfl | he
 ·exact⟨hk,L,m,hf,ah ..⟩
 ·refine cq (h e he) fun a L' m' b c=>?_
  exact⟨a,L',m',b,aa hn _ _ c⟩
section
variable {H:AH}{Sr SD N:Addr}{adr:Str→Adr}{V:Vw}{po nf:Int}{g:Str→Str}{outer:List Env}
theorem mt{k0:Str}{rest:List Str}{v:Value}(hA:Ok A 14)(hv:er v= .ref Sr)(S0:Sor H Sr SD N adr V .none po nf)(hk:V.ks=k0::rest)(hz:V.ks.length≤900)(hG:∀ n∈V.ks,n∈NM∧g n∈V.ks∧V.sc n= [g n])
 (hb:b9 g k0∈aQ g k0) (hfr:A.frames=some outer) (hon:FrOn H outer):
 Cd D A (.call (.ref 344) ⟨[v],[]⟩) (fun r H'=>r= .str "ring" 0∧ ∃ q,H q=none∧SorR H' Sr SD N adr V q (V.ks.filter fun t=>decide (V.np t=0)) po nf∧Grow H H' (Foot SD N adr V) (FootR SD N adr V q)) H:=by
 obtain rfl:=al hv
 refine bp S0.setReady fun m hm m1 m2 m3 m4 mw _=>?_
 refine Cd.fn (fun P=>rfl) rfl (fun P=>rfl) rfl hA (by decide) (locs rfl) (fun L hL hA'=>?_)
 refine WB.fold3 ?_
 intro A1_ env1_ Q1_
 refine W.foldL ?_
 intro lc2_ q2_
 refine B.cons (S.tryOwn (C:=189) (Around.frames_deeper hfr) rfl (fun P=>rfl) rfl (Y.here (Y.ret (Y.methOwn (C:=271) (f:=226) (fun P=>rfl) (fun P=>rfl) (fun P=>rfl) (fun P=>rfl) (fun P=>rfl) (E.local (v:= .ref Sr) rfl ⟨Sr,SD,m,rfl,S0.s,hm,bD mw (by decide),I.nil ?_⟩)))))
 intro vs' hvs hLn
 obtain rfl:=map_nil hvs
 have hLn:H L=none:=hLn
 have SL:∀ mm,Sor (upd H L (.ns mm)) Sr SD N adr V .none po nf:=fun mm=>S0.mono (aa hLn)
 refine(nI (hA'.mono (by decide)) rfl (SL _) hk hz hG hb (Around.frames_deeper hfr) (hon.push hLn rfl (by show ScopeKind.function≠ScopeKind.module;decide))).mono ?_
 rintro xs H' h2_;refine aR h2_ fun q hq SR gr=>?_;clear h2_
 have hL':=gr.keep _ _ (ah ..) ((SL fun _=>none).apart (m:=fun _=>none) (ah ..))
 refine⟨hL',fun e'=>?_⟩
 refine W.foldL ?_
 intro lc3_ q3_
 refine B.cons (S.ret (E.str ?_))
 intro v' hv'
 have qL:q≠L:=fun e=>by rw [e,ah]at hq;cases hq
 exact⟨hv',q,(af qL).symm.trans hq,SR.off hL',gr.off hLn⟩
end
end Mine
end
section
open PySem PySem.W PyProof.Rows PySem.Calls PySem.SeqAt
namespace Mine
section
variable {D:Wd}{A:Around}{L:Addr}{α β:Type}{σ:St}{env:Env}{Φ:Frz}{H:AH}{s:Shared}{outer:List Env}{e:Addr}{cls:Value}{vs:List Value}{C x dx:Addr}{m:Str→Option Value}{name:Str}
theorem S.tryVE{n:Str}{np hpos pos sp np2 cpos rpos:Pos}{body:List Stmt}{Q:Flow→St→Prop}{outer:List Env}(hu:A.units+40<cLine)(hfr:A.frames=some (env::outer))(hf:env.frame=some L)
 (hx:∀ P,nsIn (K0 P) mainGlobals "ValueError" =some Option.none) (hs:∀ P,nsIn (K0 P) mainGlobals "str" =some Option.none)
 (h:oQ D A L (execs body env) (env::outer) (.type "ValueError") (fun vs σ₁=> ∃ msg,vs= [.str msg 0]∧ ∀ m' v',er v'= .str msg 0→Q (.ret v') ⟨m',σ₁.H⟩) σ)
 (hL:env.locals=L:=by rfl) (hg:env.globals=mainGlobals:=by rfl) (hb:env.builtins=builtinsNs:=by rfl) (hk:env.scope.kind= .function:=by rfl) (hl:env.kindOf "ValueError" =some .globalImplicit:=by rfl) (hls:env.kindOf "str" =some .globalImplicit:=by rfl) (hln:env.kindOf n=some .local:=by rfl) (hdb:(n==("__debug__" :Str))=false:=by decide)
 (hplain:(backTo cpos (starEach [.Name n np2] env)).any (·.1)=false:=by rfl):
 WS D A L env (.Try body [.ExceptHandler (some (.Name "ValueError" np)) (some n) [.Return (some (.Call (.Name "str" sp) [.Name n np2] [] cpos)) rpos] hpos] [] [] pos) Q σ:=fun Φ s R=>by
 refine wpAny_Try_except (wpAny_mono (h Φ s R) (fun _ _ x=>x.elim) fun v s'=>j9 fun e vs H' m ev hx hHL msg hmsg hq=>?_)
 obtain⟨R',base,t,hfl,ht,htup,k⟩:=hx
 subst ev
 obtain⟨w1,r1,rfl,ew,f1⟩:=map_cons hmsg;obtain rfl:=map_nil f1;obtain⟨tk,rfl⟩:=au ew
 refine wpAny_looks_onW hfr hf hfl fun h₄ hheld₄ hsm₄=>wpAny_landsW hheld₄ fun h₅ hfl₅ hsm₅=>?_
 have u₅:=hsm₄.trans hsm₅
 have R₅:=Rel.pop0 (R'.slots k hfl₅.1 u₅) hHL
 refine ai hfl₅.there fun ob hob hobc=>?_
 obtain⟨mg,hG⟩:=R₅.sta.g
 refine ai R₅.sta.b fun mb hB hb'=>?_
 refine wpAny_handleBy_builtin_as (X:= "ValueError") (T:= "ValueError") (b:=true) (by rw [isSubtype_type];kernel_rfl) (by rw [isSubtype_type];kernel_rfl) (by rw [isSubtype_type];kernel_rfl) ?_
 refine Name_function_global hk hl (loadGlobal_builtin (env:=env) (by rw [hg];exact hG) (mg_none_of R₅.K hG (hx _)) (by rw [hb];exact hB) ((hb' _ (by decide)).trans (by kernel_rfl)) ⟨rfl,⟨ob,hob,hobc⟩,?_⟩) (by decide)
 rw [if_pos rfl]
 refine lands_againW hfl₅ fun h₆ hfl₆ hsm₆=>?_
 have u₆:=u₅.trans hsm₆
 have R₆:=Rel.pop0 (R'.slots k hfl₆.1 u₆) hHL
 refine ai R₆.nsOf fun m₆ hn₆ hm₆=>?_
 subst hL
 refine wpAny_storeName_local hln hn₆ (fun h₇ hn₇ hs₇=>?_) (by rw [hk];rfl)
 have R₇:=R₆.setLoc (m:=ca m n (.ref e)) (t:=s'.toks+1) (fun b hb=>hs₇.2 b hb) (At.of_ns hn₇ fun y=>by
  unfold ca
  by_cases q:y=n
  ·rw [if_pos q,if_pos q];rfl
  ·rw [if_neg q,if_neg q];exact hm₆ y)
 refine fz hfl₆.first fun oe ws hoe hoec hoed hoe0=>?_
 refine cY (htup.of_slots u₆) fun ot nt hot hotc hotd=>?_
 refine iK hn₆ fun oL esL epL hoL hdL _=>?_;clear hn₆
 have eL:e≠env.locals:=fun q=>by rw [q,hoL]at hoe;cases hoe;rw [hdL]at hoed;cases hoed
 have tL:t≠env.locals:=fun q=>by rw [q,hoL]at hot;cases hot;rw [hdL]at hotd;cases hotd
 have xe:h₇.ExcAt e "ValueError" (.ref t):=⟨oe,ws,(hs₇.2 e eL).trans hoe,hoec,hoed,hoe0⟩
 have xt:h₇.TupAt t [.str msg tk]:=⟨ot,nt,(hs₇.2 t tL).trans hot,hotc,hotd⟩
 obtain⟨mg,hG⟩:=R₇.sta.g
 refine ai R₇.sta.b fun mb hB hb'=>?_
 rw [execs_cons]
 refine wpAny_bind (wpAny_Return_some ?_)
 rw [show eval (.Call (.Name "str" sp) [.Name n np2] [] cpos) env=(do callWith cpos (← eval (.Name "str" sp) env) [] (backTo cpos (starEach [.Name n np2] env)) [])from rfl]
 refine wpAny_bind (Name_function_global hk hls (loadGlobal_builtin (env:=env) (v:= .type "str") (by rw [hg];exact hG) (mg_none_of R₇.K hG (hs _)) (by rw [hb];exact hB) ((hb' _ (by decide)).trans (by kernel_rfl)) ?_) (by decide))
 refine PyProof.Rows.callWith_type hplain (lz hplain ?_)
 refine wpAny_items_cons ?_ rfl
 refine wpAny_Name (wpAny_loadName_local hk hln hn₇ (if_pos rfl) ?_) hdb
 refine spliced_nil ?_
 refine P.str_of_exc_one PySem.F.excStr_ValueError (by show A.units+2<cLine;exact wm hu) xe xt ?_
 refine wpAny_pure ?_
 refine wpAny_nameGoes_keeps hln hn₇ (by rw [hk];rfl) fun h₈ v hn₈ hs₈=>?_
 have R₈:=R₇.setLoc (m:=fun y=>if y=n then v.map er else ca m n (.ref e) y) (t:=s'.toks+1+1) (fun b hb=>hs₈.2 b hb) (At.of_ns hn₈ fun y=>by
  by_cases q:y=n
  ·simp only [if_pos q]
  ·simp only [if_neg q,ca];exact hm₆ y)
 exact⟨_,R₈,hq _ _ rfl⟩
end
end Mine
end
section
open PySem PySem.W PyProof.Rows PySem.Calls PySem.SeqAt
namespace Mine
section
variable {D:Wd}{A:Around}{L:Addr}{α β:Type}{σ:St}{env:Env}{Φ:Frz}{H:AH}{s:Shared}
noncomputable def WJ(D:Wd)(A:Around)(L:Addr)(parts:List (Sem Value))(acc:Str)(Q:Str→St→Prop)(σ:St):Prop:=
 ∀ Φ s,Rel D L Φ σ s→Joins (model PR D.w) A (fun _ _=>False) parts acc (fun out s₁=> ∃ σ',Rel D L Φ σ' s₁∧Q out σ') s
theorem gW{M:Model}{A:Around}{E:Value→Shared→Prop}:∀ (parts:List (Sem Value)) {acc:Str} {Q Q':Str→Shared→Prop} {s:Shared},Joins M A E parts acc Q s→(∀ o s,Q o s→Q' o s)→Joins M A E parts acc Q' s
 | [],_,_,_,_,h,k=>k _ _ h
 | x::r,_,_,_,_,h,k=>wpAny_mono h (fun v s₁=>cV fun y t e hz j=>⟨y,t,e,hz,gW r j k⟩) fun _ _ x=>x
theorem J.nil{acc:Str}{Q:Str→St→Prop}(h:Q acc σ):WJ D A L [] acc Q σ:=fun Φ s R=>⟨σ,R,h⟩
theorem J.cons{x:Sem Value}{r:List (Sem Value)}{acc:Str}{Q:Str→St→Prop}(h:WE D A L x (fun v σ₁=> ∃ y,v= .str y 0∧(acc++y).length≤sizeLine∧WJ D A L r (acc++y) Q σ₁) σ):WJ D A L (x::r) acc Q σ:=fun Φ s R=>
 wpAny_mono (h Φ s R) (fun v s₁=>fy fun σ₁ R₁ y e hz j=>by
  obtain⟨t,rfl⟩:=au e
  exact⟨y,t,rfl,hz,j Φ s₁ R₁⟩) fun _ _ x=>x
theorem E.joined{v₁ v₂:Expr}{rest:List Expr}{pos:Pos}{Q:Value→St→Prop}(h:WJ D A L (evalEach (v₁::v₂::rest) env) Str.empty (fun out σ₁=>out.length≤sizeLine∧Q (.str out 0) σ₁) σ):
 WE D A L (eval (.JoinedStr (v₁::v₂::rest) pos) env) Q σ:=fun Φ s R=>
 wpAny_JoinedStr (gW _ (h Φ s R) fun out s₁=>aK fun σ₁ R₁ hz q=>⟨hz,σ₁,R₁.tok _,q⟩)
theorem E.fmtRepr{value:Expr}{pos:Pos}{Q:Value→St→Prop}(h:WE D A L (eval value env) (fun v σ₁=> ∃ x,v= .str x 0∧(reprText x).length≤sizeLine∧Q (.str (reprText x) 0) σ₁) σ):
 WE D A L (eval (.FormattedValue value 114 Option.none pos) env) Q σ:=fun Φ s R=>
 wpAny_FormattedValue_repr (wpAny_mono (h Φ s R) (fun v s₁=>fy fun σ₁ R₁ x e hz q=>by
  obtain⟨t,rfl⟩:=au e
  exact wpAny_pyReprObj_gives (typeIs_str _ _ _) PySem.F.slot_str_repr PySem.F.entry_str_repr (PySem.F.args_str_repr_1 _) (gives_str_repr x t)
   (wpAny_formatField_str ⟨σ₁,R₁.tok _,q⟩ ⟨σ₁,(R₁.tok _).tok _,q⟩ hz) rfl hz) fun _ _ x=>x)
end
end Mine
end
section
open PySem PySem.W PyProof.Rows PySem.Calls PySem.SeqAt
namespace Mine
section
variable {D:Wd}{A:Around}{H:AH}{outer:List Env}{cls:Value}
end
end Mine
end
section
open PySem PySem.W PyProof.Rows PySem.Calls PySem.SeqAt
namespace Mine
section
variable {D:Wd}{A:Around}{L:Addr}{α β:Type}{σ:St}{env:Env}{Φ:Frz}{H:AH}{s:Shared}{outer:List Env}{e:Addr}{cls:Value}{vs:List Value}
noncomputable def Held(D:Wd)(Φ:Frz)(H:AH)(L:Addr)(outer:List Env)(e:Addr)(cls:Value)(vs:List Value)(s:Shared):Prop:=
 Rel0 D Φ H s∧ ∃ base t,Heap.HeldW base outer e cls (.ref t) L s.heap∧base.get? t=none∧s.heap.TupAt t vs∧KeepsIn D Φ H base
theorem Held.leaves{Q:Unit→Shared→Prop}{E:Value→Shared→Prop}(hf:env.frame=some L)(x:Held D Φ H L (env::outer) e cls vs s)(hQ:∀ s',Fly D Φ H outer e cls vs s'→Q () s'):
 wpAny (model PR D.w) A (leaving env (.ref e)) Q E s:=by
 refine df x fun R base t hh ht htup k=>?_;clear x
 unfold leaving
 refine wpAny_bind (wpAny_noteFrame_againW hf hh.2.2.2 ?_)
 refine wpAny_landsW hh fun h' hfl hsm=>?_
 obtain⟨k1,k2,⟨_,_,k3⟩,k4⟩:=hfl
 exact hQ _ ⟨R.slots k k1 hsm,base,t,⟨k1,k2,k3,k4⟩,ht,htup.of_slots hsm,k⟩
theorem Held.start{h':Heap}{Q:Unit→Shared→Prop}{E:Value→Shared→Prop}(hfr:A.frames=some (env::outer))(hf:env.frame=some L)(R:Rel0 D Φ H s)(hon:FrOn H (env::outer))(hx:Heap.MadeExcOf s.heap h' e cls vs)
 (hQ:∀ s',Held D Φ H L (env::outer) e cls vs s'→Q () s'):wpAny (model PR D.w) A (noteFrame (.ref e) env) Q E { s with heap:=h'}:=by
 refine aR hx.there fun t he htn ht=>?_
 have hb:(hideAll s.heap ((env::outer).filterMap (·.frame))).StaysIn s.heap:=fun b o q=>of_hideAll _ q
 have fresh:∀ b,s.heap.get? b=none→(hideAll s.heap ((env::outer).filterMap (·.frame))).get? b=none:=fun b hn=>by
  cases q:(hideAll s.heap ((env::outer).filterMap (·.frame))).get? b with
  | none=>rfl
  | some o=>have:=hb b o q;rw [hn]at this;cases this
 have hl:=FrOn.frames R hon (as:=(env::outer).filterMap (·.frame)) fun env he a ha=>List.mem_filterMap.mpr ⟨env,he,ha⟩
 have hl':h'.FunFrames (hideAll s.heap ((env::outer).filterMap (·.frame))) (env::outer):=hl.of_keeps fun b o q _=>⟨o,hx.keeps b o q,rfl⟩
 have k:=KeepsIn.hide R hon
 unfold noteFrame
 simp only [hf]
 refine wpAny_bind (wpAny_field he rfl (x:= .none) rfl ?_)
 rw [if_neg (by decide)]
 refine wpAny_entryW (base:=hideAll s.heap ((env::outer).filterMap (·.frame))) (s:={ s with heap:=h'}) (a0:= .ref t) hfr hl' hf he (fun b o q=>hx.keeps b o (hb b o q)) (fresh e hx.new) rfl (by simp) rfl fun h''=>qV fun x1 x2 x3 x4=>?_
 have hu:s.heap.UpToSlots h'':=(Heap.UpToSlots.of_keeps hx.keeps).trans x4
 exact hQ _ ⟨R.slots k x1 hu,_,t,⟨x1,fresh e hx.new,x2,x3⟩,fresh t htn,Heap.TupAt.of_slots ⟨_,_,ht,rfl,rfl⟩ x4,k⟩
theorem Held.back{E:Value→Shared→Prop}(hf:env.frame=some L)(x:Held D Φ H L (env::outer) e cls vs s)(hQ:∀ s',Held D Φ H L (env::outer) e cls vs s'→E (.ref e) s'):
 cameBackBy (model PR D.w) A env E (.ref e) s:=by
 obtain⟨R,base,t,⟨hkb,hen,hl,oe,ws,T,oT,ts,he,hcls,hd',h1,hnT,hTe,hT,hdT,h3⟩,ht,htup,k⟩:=x
 have hsz3:3<ts.size:=(Array.getElem?_eq_some_iff.mp h3).1
 have other:∀ b,b≠T→(s.heap.update T (Obj.mapFields (·.setIfInBounds 3 (rawInt L)))).get? b=s.heap.get? b:=
  fun b hb=>Heap.get?_update_other _ _ (Ne.symm hb)
 have noRecord:∀ b o,s.heap.get? b=some o→(∀ vs,o.data≠ .fields vs)→b≠T:=fun b o hb hnf q=>by
  rw [q,hT]at hb;injection hb with hb;subst hb;exact hnf ts hdT
 unfold cameBackBy
 refine wpAny_bind (wpAny_field he hd' h1 ?_)
 rw [if_neg (show ¬((Value.ref T==Value.none)=true)from by simp)]
 unfold setFlight
 rw [hf]
 refine wpAny_bind (wpAny_field he hd' h1 ?_)
 rw [if_pos (show(Value.ref T !=Value.none)=true from by simp)]
 have hk':∀ b o,base.get? b=some o→(s.heap.update T (Obj.mapFields (·.setIfInBounds 3 (rawInt L)))).get? b=some o:=fun b o hbo=>(other b fun q=>by rw [q,hnT]at hbo;cases hbo).trans (hkb b o hbo)
 have hu:s.heap.UpToSlots (s.heap.update T (Obj.mapFields (·.setIfInBounds 3 (rawInt L)))):=fun b o hb hn=>⟨o.slots,(other b (noRecord b o hb hn)).trans hb⟩
 refine wpAny_setField hT hdT hsz3 (hQ _ ⟨R.slots k hk' hu,base,t,⟨hk',hen,hl.of_keeps fun b o hb hnf=>⟨o,(other b (noRecord b o hb hnf)).trans hb,rfl⟩,?_⟩,ht,htup.of_slots hu,k⟩)
 exact⟨oe,ws,T,_,_,(other e (Ne.symm hTe)).trans he,hcls,hd',h1,hnT,hTe,Heap.get?_update_self _ hT (Obj.isFreed_of_fields (Obj.data_mapFields hdT _)),Obj.data_mapFields hdT _,by simp [hsz3]⟩
end
end Mine
end
section
open PySem PySem.W PyProof.Rows PySem.Calls PySem.SeqAt
namespace Mine
section
variable {D:Wd}{A:Around}{L:Addr}{α β:Type}{σ:St}{env:Env}{Φ:Frz}{H:AH}{s:Shared}{outer:List Env}{e:Addr}{cls:Value}{vs:List Value}
theorem Rel0.less{Φ':Frz}(R:Rel0 D Φ' H s)(hb:∀ b o,D.h₀.get? b=some o→Φ b=some o)(k:∀ b o,Φ b=some o→Φ' b=some o):Rel0 D Φ H s:=
 ⟨hb,fun b o q=>R.frz b o (k b o q),fun a ao q=>⟨az k (R.obj a ao q).1,(R.obj a ao q).2⟩,R.os,R.gens,R.hi⟩
theorem Held.less{Φ':Frz}(x:Held D Φ' H L outer e cls vs s)(hb:∀ b o,D.h₀.get? b=some o→Φ b=some o)(k:∀ b o,Φ b=some o→Φ' b=some o):Held D Φ H L outer e cls vs s:=
 let⟨R,base,t,a,b,c,d⟩:=x;⟨R.less hb k,base,t,a,b,c,⟨fun b o q=>d.frz b o (k b o q),d.obj⟩⟩
noncomputable def WH(D:Wd)(A:Around)(L:Addr)(t:Sem α)(outer:List Env)(cls:Value)(X:List Value→St→Prop)(σ:St):Prop:=
 ∀ Φ s,Rel D L Φ σ s→wpAny (model PR D.w) A t (fun _ _=>False) (fun v s'=> ∃ e vs H' m,v= .ref e∧Held D Φ H' L outer e cls vs s'∧H' L=some (.ns m)∧X (vs.map er) ⟨m,del H' L⟩) s
theorem Z.here{st:Stmt}{r:List Stmt}{X:List Value→St→Prop}(h:WH D A L (exec st env) outer cls X σ):WH D A L (execs (st::r) env) outer cls X σ:=fun Φ s R=>by
 rw [execs_cons]
 exact wpAny_bind (wpAny_mono (h Φ s R) (fun _ _ x=>x.elim) fun _ _ x=>x)
theorem Z.skip{st:Stmt}{r:List Stmt}{X:List Value→St→Prop}(h:WS D A L env st (fun f σ₁=>f= .next∧WH D A L (execs r env) outer cls X σ₁) σ):WH D A L (execs (st::r) env) outer cls X σ:=fun Φ s R=>by
 rw [execs_cons]
 refine wpAny_bind (wpAny_mono (h Φ s R) (fun f s₁=>aK fun σ₁ R₁ e h₁=>?_) fun _ _ x=>x.elim)
 subst e
 exact h₁ Φ s₁ R₁
theorem Z.for1{target iter:Expr}{body orelse:List Stmt}{pos:Pos}{X:List Value→St→Prop}(hfr:A.frames=some (env::outer))(hf:env.frame=some L)(hk:env.scope.kind≠ .module)
 (h:It D A L env target iter (fun n itm g σ₁=>0<n∧mW (itm 0) (fun v σ'=>W D A L (PySem.assign target env v) (fun _ σ₂=>WX D A L (execs body env) cls (fun vs σ₃=>FrOn σ₃.H outer∧X vs σ₃) σ₂) σ') σ₁) σ)
 (hs:∀ x,foldedSetIterable iter env x=Pure.pure x:=by intro _;rfl):WH D A L (exec (.For target iter body orelse pos) env) (env::outer) cls X σ:=fun F s R=>by
 refine wpAny_For (wpAny_mono (h F s R) (fun x s₁ h₁=>wpAny_mono h₁ (fun v s₂=>aH fun n itm g it fp J Jo σ₁ e R₂ hh j T hg t_=>vY t_ fun hn hturn=>?_) fun _ _ x=>x.elim) fun _ _ x=>x.elim) hs
 subst e
 have base:=R₂.rel.base
 have hF:∀ b∈fp,F b=none:=fun b hb=>(hh b hb).1
 refine codeAny_forLoop_any (fun m s=>s=s₂) (fun m s hs=>?_) 0 rfl
 subst hs
 have hG:Has (upd σ₁.H L (.ns σ₁.loc)) g:=hg.ext (aa R₂.HL)
 refine wpAny_mono (T.next 0 F _ s (fun r s₁=> ∃ v,r=some v∧ ∃ H',Rel0 D F H' s₁∧Hid F H' fp∧Jo v (0+1) s₁.heap∧gw (itm 0) v (upd σ₁.H L (.ns σ₁.loc)) H') R₂.push0 hG hh j hn fun v s' H' R' hh' j' x=>⟨v,rfl,H',R',hh',j',x⟩) (fun r s₁=>cX fun v e H' R' hh' j' x=>?_) fun _ _ x=>x.elim
 subst e
 refine wpAny_mono (T.go v (0+1) F H' s₁ _ R' hh' j' fun s' R'' j''=>?_) (fun _ s' x=>x) fun _ _ x=>x.elim
 refine aR (Rel.drawn R₂.HL R'' x hturn) fun σ' R₃ eH q=>?_
 have hh₃:Hid F (upd σ'.H L (.ns σ'.loc)) fp:=eH▸hh'
 refine wpAny_mono (q _ _ (R₃.hideL hh₃)) (fun _ s₃=>ar fun σ₄ R₄ h₄=>wpAny_mono (h₄ _ _ R₄) (fun f s₅ x=>x.elim) fun v s₅=>cF fun e s₆ σ₆ vs h' ev hm es R₆ hon hX=>?_) fun _ _ x=>x.elim
 subst ev es
 refine Held.start hfr hf R₆.push0 (hon.push R₆.HL hf hk) hm fun s₇ y=>?_
 refine Held.back hf y fun s₈ y=>?_
 refine⟨e,vs,_,σ₆.loc,rfl,y.less base (dX hF),ah ..,?_⟩
 rw [bf R₆.HL];exact hX
end
end Mine
end
section
open PySem PySem.W PyProof.Rows PySem.Calls PySem.SeqAt
namespace Mine
section
variable {D:Wd}{A:Around}{H:AH}{outer:List Env}{cls:Value}
theorem CdX.fnStarH{f:Addr}{oc:Value}{od:Option Addr}{fd:FuncData}{osl:Array (Option Value)}{body:List Stmt}{args:Args}{pre:List (Str×Value)}{nm:Str}{rest:List Value}{X:List Value→AH→Prop}{n:Nat}
 (hf:∀ P,(K0 P).lookup f=some ⟨oc,od,.func fd,osl⟩) (hbody:fd.body= .stmts body) (hcd:∀ P,codeIn (K0 P) fd.code fd.qualname=true)
 (hbind:bindArgs fd args=(newTuple rest>>=fun t=>Pure.pure (pre++ [(nm,t)]))) (hsz:rest.length≤sizeLine) (hA:Ok A (n+1)) (hfr:A.frames=some outer) (hcell:∀ x∈fd.scope.names,x.2≠ .cell) (hloc:∀ t,∀ x∈pre++ [(nm,t)],fd.scope.names.lookup x.1=some .local)
 (h:∀ t L',H t=none→(∀ a,L'≤a→(upd H t (.tuple (rest.map er))) a=none)→Ok (A.deeper (callEnv fd L' f)) n→(A.deeper (callEnv fd L' f)).frames=some (callEnv fd L' f::outer)→
  WH D (A.deeper (callEnv fd L' f)) L' (execs body (callEnv fd L' f)) (callEnv fd L' f::outer) cls (fun vs σ'=>X vs σ'.H) ⟨fun x=>((pre++ [(nm,Value.ref t)]).reverse.lookup x).map er,upd H t (.tuple (rest.map er))⟩)
 (hco:fd.scope.isCoroutine=false:=by rfl) (hgen:fd.scope.isGenerator=false:=by rfl) (hk:fd.scope.kind= .function:=by rfl):CdX D A (.call (.ref f) args) outer cls X H:=fun F s R=>by
 refine codeAny_call_function (by have:=hA.depth;show A.depth<1000;exact zq7 this) (R.K _ _ (hf _)) rfl hco hgen hbody (codeRec_of R.K (hcd _)) ?_
 rw [hbind]
 have hx:At D.w (s.heap.push { cls:= .type "tuple",data:= .seq rest.toArray}) s.heap.objs.size (.tuple (rest.map er)):=⟨_,Heap.get?_push_size _ rfl,_,_,rfl,by simp⟩
 have R₀:=R.alloc (t:=s.toks) (Nat.le_refl _) (fun b o e=>Heap.get?_push_of_some _ e) hx
 refine wpAny_bind (wpAny_newObj_type (wpAny_pure (wpAny_newFunctionEnv hcell (hloc _) (fun h₁ hns hsb=>⟨R₀.sta.nolimit.fresh _ hsb,codeAny_func ?_⟩) hk)) (by show rest.toArray.size≤sizeLine;rw [List.size_toArray];exact hsz))
 have hk₁:∀ b o,(s.heap.push { cls:= .type "tuple",data:= .seq rest.toArray}).get? b=some o→h₁.get? b=some o:=fun b o e=>hsb.extBut b o (Nat.ne_of_lt (Heap.lt_size e)) (Heap.get?_push_of_some _ e)
 have R₁:Rel D (s.heap.push { cls:= .type "tuple",data:= .seq rest.toArray}).objs.size F ⟨fun x=>((pre++ [(nm,Value.ref s.heap.objs.size)]).reverse.lookup x).map er,upd H s.heap.objs.size (.tuple (rest.map er))⟩ { s with heap:=h₁,toks:=s.toks+(pre++ [(nm,Value.ref s.heap.objs.size)]).length}:=
  ⟨R₀.ext hk₁,R₀.geF _ (Nat.le_refl _),R₀.ge _ (Nat.le_refl _),At.of_ns hns fun _=>rfl,R₀.big⟩
 refine wpAny_mono (h _ _ (R.fresh (dy _)).2 R₀.ge (hA.deeper _) (Around.frames_deeper hfr) F _ R₁) (fun fl s' x=>x.elim) fun v s'=>eS fun e vs H' m ev y hL x=>?_
 subst ev
 refine Held.leaves rfl y fun s'' y=>?_
 refine⟨e,vs,_,rfl,?_,x⟩
 refine df y fun y1 base t y2 y3 y4 y5=>?_;clear y
 have sub:∀ a o,del H' (s.heap.push { cls:= .type "tuple",data:= .seq rest.toArray}).objs.size a=some o→H' a=some o:=fun a o q=>by
  by_cases e:a=(s.heap.push { cls:= .type "tuple",data:= .seq rest.toArray}).objs.size
  ·subst e;rw [b7]at q;cases q
  ·rw [ay e]at q;exact q
 exact⟨y1.mono sub,base,t,y2,y3,y4,y5.frz,fun a ao q hn=>y5.obj a ao (sub _ _ q) hn⟩
end
variable {D:Wd}{A:Around}
section
variable {H:AH}{Sr SD N q:Addr}{adr:Str→Adr}{V:Vw}{R:List Str}{po nf:Int}{outer:List Env}
noncomputable def cQ(n:Str)(c:Int):Str:=Str.empty++Str.ofString "node " ++reprText n++(if c= -2 then Str.ofString " was already marked done" else Str.ofString " was not passed out (still not ready)")
theorem pW{n:Str}{v u:Value}(hA:Ok A 9)(hv:er v= .ref Sr)(hu:er u= .str n 0)(X0:SorR H Sr SD N adr V q R po nf)(hn:n∈V.ks)(hc:V.np n= -2∨0≤V.np n)(hl:(reprText n).length≤100)(hfr:A.frames=some outer)(hon:FrOn H outer):
 CdX D A (.call (.ref 254) ⟨[v,u],[]⟩) outer (.type "ValueError") (fun vs H'=>vs= [.str (cQ n (V.np n)) 0]∧Ext H H') H:=by
 obtain rfl:=al hv
 obtain⟨tk,rfl⟩:=au hu
 refine CdX.fnStarH (pre:= [("self",.ref Sr)]) (nm:= "nodes") (rest:= [.str n tk]) (fun P=>rfl) rfl (fun P=>rfl) rfl (aq (by show 1≤1000;decide)) hA hfr (by decide) (by intro t x hx;simp at hx;rcases hx with rfl | rfl<;> rfl) (fun tp L htp hL hA' hfr'=>?_)
 have eT:([Value.str n tk]:List Value).map er=ag [n]:=rfl
 rw [eT]at hL ⊢
 have X1:=X0.mono (aa (o:= .tuple (ag [n])) htp)
 have hp1:upd H tp (.tuple (ag [n])) tp=some (.tuple (ag [n])):=ah ..
 have gr:Ext H (upd H tp (.tuple (ag [n]))):=aa htp
 generalize upd H tp (.tuple (ag [n]))=Ht at X1 hp1 gr
 refine ba X1.setPo fun m hm m1 m2 m3 m4 mw _ _=>?_
 refine Z.skip (S.iteP False (T.compare (E.fld (fun P od v h=>by show Option.bind (lookIn _ od) _=_;rw [h];rfl) (E.local (v:= .ref Sr) rfl ⟨rfl,X1.x.s,hm,m2,trivial,E.none (O.isNone ⟨_,rfl,by simp,rfl⟩)⟩))) (fun h=>h.elim) (fun _=>?_))
 refine B.nil ⟨rfl,?_⟩
 refine Z.skip (S.assign (E.fld (fun P od v h=>by show Option.bind (lookIn _ od) _=_;rw [h];rfl) (E.local (v:= .ref Sr) rfl ⟨rfl,X1.x.s,hm,m1,trivial,⟨rfl,?_⟩⟩)))
 refine Z.here (Z.for1 hfr' rfl (by show ScopeKind.function≠ScopeKind.module;decide) (It.tuple hA'.hand (E.local (v:= .ref tp) rfl ⟨tp,ag [n],rfl,hp1,by show 0<1;decide,?_⟩)))
 show ∀ v,er v=_→_
 intro v hv
 have hv:er v= .str n 0:=hv
 refine W.assignLocal ?_
 rw [hv]
 obtain⟨ep,hN⟩:=X1.x.n
 refine aE (X1.x.i n hn) fun ka kb kc=>?_
 refine X.skip (S.ite (T.compare (E.named (E.meth (T:= "dict") (id:= "dict.get") F.plainAttrs_dict F.slot_dict_get (by kernel_rfl) (E.local (v:= .ref N) rfl ⟨⟨_,hN,rfl⟩,I.cons (E.local (v:= .str n 0) rfl (I.nil (M.dictGet hN (E.none (O.isNone ⟨_,rfl,?_⟩)))))⟩)))))
 rw [bF (f:=fun t=>Value.ref (adr t).a) hn]
 show WB _ _ _ _ [] _ _
 refine B.nil ⟨rfl,?_⟩
 refine X.skip (S.assign (E.attrSlot (C:=174) (p:=176) (i:=1) (fun P=>rfl) (fun P=>rfl) (fun P=>rfl) (fun P=>rfl) (E.local (v:= .ref (adr n).a) rfl ⟨_,_,_,_,rfl,ka,kb,rfl,trivial,⟨rfl,?_⟩⟩)))
 have hon':FrOn Ht outer:=fun env he=>let⟨a,L,m,b,c⟩:=hon env he;⟨a,L,m,b,gr _ _ c⟩
 have hne:(V.np n != -1)=true:=by rw [bne_iff_ne];exact wl hc
 have s1:(Str.empty++Str.ofString "node ").length=5:=by decide
 have s2:(Str.empty++Str.ofString "node " ++reprText n).length≤105:=by rw [Str.length_append];exact wk s1 hl
 refine X.here (X.iteT (T.compare (E.local (v:= .int (V.np n) 0) rfl (E.glob (v:= .int (-1) _) (fun P=>rfl) (O.neII ⟨_,rfl,hne,?_⟩)))))
 rcases Int.lt_or_le (V.np n) 0 with h0 | h0
 ·obtain h2:V.np n= -2:=by exact wj hc h0
  refine X.here (X.iteF (T.compare (E.local (v:= .int (V.np n) 0) rfl (E.int (O.geII ⟨_,rfl,by simpa using h0,?_⟩)))))
  refine X.here (X.iteT (T.compare (E.local (v:= .int (V.np n) 0) rfl (E.glob (v:= .int (-2) _) (fun P=>rfl) (O.eqII ⟨_,rfl,by rw [h2];rfl,?_⟩)))))
  have s3:(Str.ofString " was already marked done").length≤100:=by decide
  refine X.here (X.raiseVE hA'.hand (fun P=>rfl) (I.cons (E.joined (J.cons (E.str ⟨_,rfl,by rw [s1];decide,?_⟩)))))
  refine J.cons (E.fmtRepr (E.local (v:= .str n 0) rfl ⟨n,rfl,aq (by exact qg hl),_,rfl,aq (by exact vJ s2),J.cons (E.str ⟨_,rfl,?_,J.nil ⟨?_,I.nil ⟨eg,hon',?_,gr⟩⟩⟩)⟩))
  ·rw [Str.length_append];exact aq (by exact rj s2 s3)
  ·rw [Str.length_append];exact aq (by exact rj s2 s3)
  ·unfold cQ;rw [if_pos h2]
 ·have h2:V.np n≠ -2:=by exact wi h0
  have s3:(Str.ofString " was not passed out (still not ready)").length≤100:=by decide
  refine X.here (X.iteT (T.compare (E.local (v:= .int (V.np n) 0) rfl (E.int (O.geII ⟨_,rfl,by simpa using h0,?_⟩)))))
  refine X.here (X.raiseVE hA'.hand (fun P=>rfl) (I.cons (E.joined (J.cons (E.str ⟨_,rfl,by rw [s1];decide,?_⟩)))))
  refine J.cons (E.fmtRepr (E.local (v:= .str n 0) rfl ⟨n,rfl,aq (by exact qg hl),_,rfl,aq (by exact vJ s2),J.cons (E.str ⟨_,rfl,?_,J.nil ⟨?_,I.nil ⟨eg,hon',?_,gr⟩⟩⟩)⟩))
  ·rw [Str.length_append];exact aq (by exact rj s2 s3)
  ·rw [Str.length_append];exact aq (by exact rj s2 s3)
  ·unfold cQ;rw [if_neg h2]
end
end Mine
end
section
open PySem PySem.W PyProof.Rows PySem.Calls PySem.SeqAt
namespace Mine
variable {D:Wd}{A:Around}
section
variable {H:AH}{Sr SD N q:Addr}{adr:Str→Adr}{V:Vw}{R:List Str}{po nf:Int}{outer:List Env}
theorem nH{n:Str}{v u:Value}(hA:Ok A 14)(hv:er v= .ref Sr)(hu:er u= .str n 0)(X0:SorR H Sr SD N adr V q R po nf)(hn:n∈V.ks)(hc:V.np n= -2∨0≤V.np n)(hl:(reprText n).length≤100)(hfr:A.frames=some outer)(hon:FrOn H outer):
 Cd D A (.call (.ref 351) ⟨[v,u],[]⟩) (fun r H'=>r= .str (cQ n (V.np n)) 0∧Ext H H') H:=by
 obtain rfl:=al hv
 obtain⟨tk,rfl⟩:=au hu
 refine bp X0.setPo fun m hm m1 m2 m3 m4 mw _=>?_
 refine Cd.fn (fun P=>rfl) rfl (fun P=>rfl) rfl hA (by decide) (locs rfl) (fun L hL hA'=>?_)
 refine B.cons (S.tryVE (Nat.lt_of_lt_of_le (by have:=hA'.units;exact s7 this:_<9000) (by decide)) (Around.frames_deeper hfr) rfl (fun P=>rfl) (fun P=>rfl) (Y.here (Y.expr (Y.methOwn (C:=271) (f:=254) (fun P=>rfl) (fun P=>rfl) (fun P=>rfl) (fun P=>rfl) (fun P=>rfl) (E.local (v:= .ref Sr) rfl ⟨Sr,SD,m,rfl,X0.x.s,hm,bD mw (by decide),I.cons (E.local (v:= .str n 0) rfl (I.nil ?_))⟩)))))
 intro vs' hvs hLn
 refine d7 hvs fun w1 ew=>?_
 have hLn:H L=none:=hLn
 refine(pW (hA'.mono (by decide)) rfl ew (X0.mono (aa hLn)) hn hc hl (Around.frames_deeper hfr) (hon.push hLn rfl (by show ScopeKind.function≠ScopeKind.module;decide))).mono ?_
 rintro xs H' ⟨rfl,e⟩
 have hL':=e _ _ (ah ..)
 refine⟨hL',_,rfl,fun m' v' hv'=>⟨hv',?_⟩⟩
 exact Ext.del (fun a o q=>e a o (aa hLn _ _ q)) hLn
end
end Mine
end
section
open PySem PySem.W PyProof.Rows PySem.Calls PySem.SeqAt
open Builtin Builtin.ObjectAttr
namespace Mine
section
variable {D:Wd}{A:Around}{L:Addr}{α β:Type}{σ:St}{env:Env}{Φ:Frz}{H:AH}{s:Shared}{C x dx:Addr}{m:Str→Option Value}{name:Str}
theorem E.methOwnStar{o e:Expr}{apos pos p:Pos}{f:Addr}{Q:Value→St→Prop}(hg:∀ P,plainGet (K0 P) C name=true)(hh:∀ P,hasDictIn (K0 P) C=true)(ha:∀ P,findIn (K0 P) (.ref C) name=some (some (.ref f)))(hf:∀ P,isFn (K0 P) (.ref f)=true)
 (hgf:∀ P,specialIn (K0 P) (.ref f) "__get__" =some (some (.builtin "function.__get__"))) (ht:∀ P,takesIn (K0 P) (.ref f)=some false) (hc:copiedNames.contains name=false) (hfn:∀ P,fnIn (K0 P) f=true)
 (h:WE D A L (eval o env) (fun ov σ₁=> ∃ x dx m,ov= .ref x∧σ₁.H x=some (.inst C dx [])∧σ₁.H dx=some (.fld m)∧m name=Option.none∧ ∀ q,σ₁.H q=Option.none→
  WE D A L (eval e env) (fun av σ₂=> ∃ l vs,av= .ref l∧σ₂.H l=some (.list vs)∧σ₂.H q=some (.raw (methodObj (.ref f) (.ref x)))∧vs.length≤sizeLine∧
   ∀ vs',vs'.map er=vs→σ₂.H L=Option.none→Cd D A (.call (.ref f) ⟨.ref x::vs',[]⟩) (nT L σ₂ Q) (upd σ₂.H L (.ns σ₂.loc))) ⟨σ₁.loc,upd σ₁.H q (.raw (methodObj (.ref f) (.ref x)))⟩) σ)
 (hbase:attributeBase o name env (eval o env)=eval o env:=by rfl)
 (he:starEach [.Starred e p] env= [(true,eval e env)]:=by rfl):WE D A L (eval (.Call (.Attribute o name apos) [.Starred e p] [] pos) env) Q σ:=fun Φ s R=>by
 have hform:methodCallForm ([Expr.Starred e p].length+([]:List Keyword).length) (backTo pos (starEach [.Starred e p] env)) (backToKw pos (keywordEach [] env))=false:=by rw [he];rfl
 have hpos:methodCallPos false o env apos pos=Pure.pure pos:=by unfold methodCallPos;simp
 rw [arm_eval_Call,hbase]
 refine wpAny_bind (wpAny_mono (h Φ s R) (fun ov s₁=>cW fun σ₁ R₁ x dx m e hx hd' hm hi=>wpAny_bind (wpAny_standAt ?_)) fun _ _ x=>x)
 rw [al e]
 refine aR (R₁.inst hx hd') fun od I hfl hod=>?_
 refine ai (cx hfl name) fun r hr er'=>?_
 have hr0:r=Option.none:=by rw [hm]at er';cases r with | none=>rfl | some v=>cases er'
 subst hr0
 unfold methodCall
 rw [hform]
 refine wpAny_bind (wpAny_holding ?_)
 show wpAny _ A (getAttr (.ref x) name true>>=fun f=>Pure.pure (f,[])) _ _ s₁
 refine wpAny_bind (get_bind R₁.K I (plainGet_of (hg _)).1 (findObj_fn (hh _) (ha _) (hgf _) (ht _) hc hr) (plainGet_of (hg _)).2
  (wpAny_call (fn_get (s:={ s₁ with toks:=s₁.toks+1}) R₁.K (beq_iff_eq.mp (hf _)) (handed_on rfl (wpAny_pure ?_)))))
 refine wpAny_bind (wpAny_of_eq hpos ?_)
 have R₂:Rel D L Φ ⟨σ₁.loc,upd σ₁.H s₁.heap.objs.size (.raw (methodObj (.ref f) (.ref x)))⟩ { s₁ with heap:=s₁.heap.push (methodObj (.ref f) (.ref x)),toks:=s₁.toks+1}:=
  R₁.alloc (Nat.le_refl _) (fun _ _ e=>Heap.get?_push_of_some _ e) ⟨_,Heap.get?_push_size _ rfl,rfl⟩
 rw [he]
 refine ks_call rfl (P:=MethP (K0 D.w.params) s₁.heap.objs.size f (.ref x)) (keeps_M (hfn _)) (ks_lone ?_)
 refine wpAny_mono (hi _ (R₁.rel.fresh (dy _)).2 Φ _ R₂) (fun av s₃=>kj fun σ₃ R₃ l vs eav hl hq hsz hcd=>?_) fun _ _ x=>x
 rw [al eav]
 refine b6 (R₃.listAt hl) fun its n ho ei=>?_
 have hs:=aM ei
 unfold StarOf notIterableAtAll
 refine wpAny_bind (wpAny_specialOf ⟨_,ho,rfl⟩ PySem.F.slot_list_iter.lookup (wpAny_pure ⟨rfl,?_⟩))
 refine wpAny_collect_seq l (.inl rfl) ho rfl rfl (fun h' hk=>?_) (by exact qE hs hsz)
 have R₄:Rel D L Φ σ₃ { s₃ with heap:=h'}:=R₃.ext (t:=s₃.toks) hk
 refine ai (R₄.obj hq) fun om hom h2_=>?_;obtain rfl:=h2_
 refine⟨⟨hom,R₄.K⟩,wpAny_call (method_call hom ?_)⟩
 exact codeAny_mono (hcd its.toList ei R₄.HL Φ _ R₄.push0) fun r s'=>cG fun v H' e R' hL q=>by subst e;exact⟨_,Rel.pop0 R' hL,q⟩
end
end Mine
end
section
open PySem PySem.W PyProof.Rows PySem.Calls PySem.SeqAt
namespace Mine
theorem lE{α:Type}{M:Model}{A:Around}{t:Sem α}{Q:α→Shared→Prop}{E:Value→Shared→Prop}{s:Shared}(h:wpAny M A t Q E s):
 wpAny M A t (fun v s'=>s.toks≤s'.toks∧Q v s') (fun e s'=>s.toks≤s'.toks∧E e s') s:=wpAny_toks_of (Nat.le_refl _) h
end Mine
end
section
open PySem PySem.W PyProof.Rows PySem.Calls PySem.SeqAt
namespace Mine
section
variable {D:Wd}{A:Around}{L:Addr}{α β:Type}{σ:St}{env:Env}{Φ:Frz}{H:AH}{s:Shared}{fp:List Addr}
theorem It.reversed{x:Str}{p pos:Pos}{e target:Expr}{Q:Nat→(Nat→Value ⊕ AO)→List (Addr×AO)→St→Prop}(hh:A.handled=none)
 (h:WE D A L (eval e env) (fun v σ₁=> ∃ l vs,v= .ref l∧σ₁.H l=some (.list vs)∧Q vs.length (fun k=> .inl (vs.reverse.getD k .none)) [(l,.list vs)] σ₁) σ)
 (hx:∀ P,nsIn (K0 P) mainGlobals x=some Option.none) (hv:bootBuiltins x=some (.type "reversed"))
 (ht:∀ it v,letOwnedTupleGo target it v=Pure.pure ():=by intro _ _;rfl)
 (he:starEach [e] env= [(false,eval e env)]:=by rfl)
 (hplain:(backTo pos (starEach [e] env)).any (·.1)=false:=by rfl) (hg:env.globals=mainGlobals:=by rfl) (hb:env.builtins=builtinsNs:=by rfl) (hk:env.scope.kind= .function:=by rfl) (hl:env.kindOf x=some .globalImplicit:=by rfl) (hdb:(x==("__debug__" :Str))=false:=by decide) (hn:x≠ "__name__" :=by decide):
 It D A L env target (.Call (.Name x p) [e] [] pos) Q σ:=fun F s R=>by
 rw [show eval (.Call (.Name x p) [e] [] pos) env=(do callWith pos (← eval (.Name x p) env) [] (backTo pos (starEach [e] env)) [])from rfl]
 refine wpAny_bind (wpAny_mono (E.builtin (Q:=fun v σ'=>v= .type "reversed" ∧σ'=σ) hx hv ⟨rfl,rfl⟩ hg hb hk hl hdb hn F s R) (fun v s₁=>aK fun σ₁ R₁ ev eσ=>?_) fun _ _ x=>x)
 rw [cE ev];subst eσ
 refine PyProof.Rows.callWith_type hplain (bB hplain ?_)
 refine wpAny_mono (I.cons (pos:=pos) (r:= []) (Q:=fun ws σ'=> ∃ l vs,ws= [.ref l]∧σ'.H l=some (.list vs)∧Q vs.length (fun k=> .inl (vs.reverse.getD k .none)) [(l,.list vs)] σ') (W.mono h fun v σ'=>cV fun l vs e1 e2 q=>I.nil ⟨l,vs,by rw [e1],e2,q⟩) (by rw [he];rfl) F s₁ R₁) (fun ws s₂=>jA fun σ₂ R₂ l vs e1 hl2 q=>?_) fun _ _ x=>x
 refine d7 e1 fun v1 e2=>?_;obtain rfl:=al e2
 refine ai (R₂.listOf hl2) fun its hi ei=>?_
 have hs:=aM ei
 refine call_reversed_list hi ?_
 refine wpAny_pyIter_revIter (i:=(its.size:Int)-1) (l:=l) ⟨_,Heap.get?_push_size _ rfl,rfl,rfl⟩ ?_
 refine⟨vs.length,_,_,_,[_],_,_,σ₂,rfl,R₂.ext (t:=s₂.toks) (fun b o e=>Heap.get?_push_of_some _ e),R₂.push0.fresh1 (Nat.le_refl _),?_,Turns.one (n:=vs.length) (val:=fun k=>vs.reverse.getD k .none) (g:= [(l,.list vs)]) (J:=fun k o=>o.cls= .type "list_reverseiterator" ∧o.data= .fields #[.ref l,rawInt ((vs.length:Int)-1-(k:Int))]) ht ?_ ?_ ?_,Has.one hl2,q⟩
 ·exact⟨_,Heap.get?_push_size _ rfl,rfl,by rw [hs];simp [revObj]⟩
 ·rintro k F H s o Q R G ho ⟨j1,j2⟩ hk hq
  refine ai (R.listOf (G _ (.head _))) fun its hi ei=>?_
  have hs:=aM ei
  have e1:(vs.length:Int)-1-(k:Int)=((vs.length-1-k:Nat):Int):=by exact wh hk
  refine ai (bj (k:=vs.length-1-k) ei (by exact wg e1)) fun x hx ex=>?_
  have hit:s.heap.IsRevIter _ l ((vs.length-1-k:Nat):Int):=⟨o,ho,j1,by rw [j2,e1]⟩
  refine wpAny_pyNext_rev_item hit hi hx fun h'=>aK fun o' ho' j1' j2' hs'=>hq x h' s.toks o' ?_ ⟨j1',?_⟩ ho' hs'.2
  ·rw [ex]
   simp only [List.getD_eq_getElem?_getD]
   rw [List.getElem?_reverse hk]
  ·rw [j2',show(((vs.length-1-k:Nat):Int)-1)=(vs.length:Int)-1-((k+1:Nat):Int) by exact wf e1]
 ·rintro F H s o Q R G ho ⟨j1,j2⟩ hq
  refine wpAny_pyNext_rev_end hh ⟨o,ho,j1,by rw [j2,show(vs.length:Int)-1-(vs.length:Int)= -1 by exact we]⟩ fun h' hs=>hq h' s.toks fun b o hb e=>hs b o hb e
 ·rintro k s o Q ho ⟨j1,j2⟩ hq
  exact wpAny_pyIter_revIter ⟨o,ho,j1,j2⟩ hq
end
end Mine
end
section
open PySem PySem.W PyProof.Rows PySem.Calls PySem.SeqAt
namespace Mine
section
variable {D:Wd}{A:Around}{L:Addr}{α β:Type}{σ:St}{env:Env}{Φ:Frz}{H:AH}{s:Shared}
theorem E.compIdx{y:Str}{py:Pos}{iter elt:Expr}{scope:Scope}{cl:List (Str×Addr)}{pos:Pos}{Q:Value→St→Prop}
 (hclos:closureFor scope env=Pure.pure cl)
 (h:It D A L env (.Name y py) iter (fun n itm g σ₁=>n≤1000∧ ∃ val f:Nat→Value,(∀ k,itm k= .inl (val k))∧
  (∀ C k m H',k<n→H' C=Option.none→Ext (upd σ₁.H L (.ns σ₁.loc)) H'→WE D A C (eval elt (compEnvC scope cl C env)) (fun v σ₃=>v=f k∧Ext H' σ₃.H) ⟨ca m y (val k),H'⟩)∧
  ∀ a H',Ext σ₁.H H'→σ₁.H a=Option.none→H' a=some (.list ((List.range n).map f))→Q (.ref a) ⟨σ₁.loc,H'⟩) σ)
 (hl:∀ C,(compEnvC scope cl C env).kindOf y=some .local:=by intro _;rfl) (hkf:∀ C,(compEnvC scope cl C env).scope.kind= .function:=by intro _;rfl)
 (hcell:∀ y∈scope.names,y.2≠ .cell:=by decide) (hkind:scope.kind= .function:=by rfl) (hnames:∀ x∈scope.names,x.2= .local→scope.names.lookup x.1=some .local:=by decide)
 (hs:∀ x,foldedSetIterable iter env x=Pure.pure x:=by intro _;rfl):
 WE D A L (eval (.ListComp elt [⟨.Name y py,iter,[],0⟩] scope pos) env) Q σ:=by
 refine E.listComp hclos (fun F s R=>wpAny_mono (h F s R) (fun x s₁ h₁=>wpAny_mono h₁ (fun v s₂=>aH fun n itm g it fp J Jo σ' e1 e2 e3 e4 e5 e6 t_=>iN t_ fun hz val f hval turn fin=>?_) fun _ _ x=>x) fun _ _ x=>x) hcell hkind hnames hs
 refine⟨n,itm,g,it,fp,J,Jo,σ',e1,e2,e3,e4,e5,e6,aq hz,fun _=>true,fun k v _=>v=f k,fun k v H H' q _=>q,?_,?_⟩
 ·intro C k m H' hk hC hext
  rw [hval k]
  intro v hv
  refine W.assignLocal (L:=C) (env:=compEnvC scope cl C env) ?_ rfl (hkf C) (hl C)
  rw [hv]
  refine W.testsNil ?_
  refine⟨rfl,?_⟩
  show WE D A C _ (fun y σ₄=>Ext H' σ₄.H∧y=f k) _
  exact W.mono (turn C k m H' hk hC hext) fun v σ₃=>gD fun e1 e2=>⟨e2,e1⟩
 ·intro a H' ys hext ha hys hp
  have:=bH (f:=f) hp
  refine fin a H' hext ha (by rw [hys,this];unfold iy;rw [List.filter_eq_self.mpr fun _ _=>rfl])
theorem O.powII{a b:Int}{Q:Value→St→Prop}(hb:0≤b)(hsz:(Builtin.Int.intBits a:Int)*b≤2 ^ 27)(h:Q (.int (a ^ b.toNat) 0) σ):W2 D A L (binaryOp .Pow) (.int a 0) (.int b 0) Q σ:=fun va vb ea eb F s R=>by
 obtain⟨t,rfl⟩:=aB ea;obtain⟨u,rfl⟩:=aB eb
 exact PyProof.Rows.pow_int hb hsz (done R h)
theorem E.negName{x:Str}{p pos:Pos}{n:Int}{Q:Value→St→Prop}(h:WE D A L (eval (.Name x p) env) (fun v σ₁=>v= .int n 0∧Q (.int (-n) 0) σ₁) σ):WE D A L (eval (.UnaryOp .USub (.Name x p) pos) env) Q σ:=
 E.unary (W.mono h fun v σ₁=>gD fun e q=>by
  rw [e]
  intro va ea Φ s R
  obtain⟨t,rfl⟩:=aB ea
  exact PyProof.Rows.neg_int (done R q))
end
end Mine
end
section
namespace Mine
section
variable {α:Type}{g:α→α}
noncomputable def iter(g:α→α):Nat→α→α
 | 0,x=>x
 | n+1,x=>iter g n (g x)
theorem aZ(n:Nat):∀ x,iter g (n+1) x=g (iter g n x):=by
 induction n with
 | zero=>intro x;rfl
 | succ n ih=>intro x;exact ih (g x)
theorem i9(m n:Nat)(x:α):iter g (m+n) x=iter g m (iter g n x):=by
 induction m with
 | zero=>rw [Nat.zero_add];rfl
 | succ m ih=>rw [Nat.succ_add,aZ,aZ,ih]
noncomputable def Per(g:α→α)(x:α):Prop:=∃ p,0<p∧iter g p x=x
theorem Per.mul{x:α}{p:Nat}(h:iter g p x=x):∀ q,iter g (p*q) x=x
 | 0=>rfl
 | q+1=>by rw [Nat.mul_succ,i9,h];exact Per.mul h q
theorem Per.next{x:α}(h:Per g x):Per g (g x):=by
 obtain⟨p,hp,e⟩:=h
 refine⟨p,hp,?_⟩
 have:iter g (p+1) x=g x:=by rw [aZ,e]
 exact this
theorem Per.iter{x:α}(h:Per g x):∀ n,Per g (iter g n x)
 | 0=>h
 | n+1=>by
  show Per g (Mine.iter g (n+1) x)
  rw [aZ];exact(Per.iter h n).next
theorem Per.back{x:α}(h:Per g x):∃ n,Per g (Mine.iter g n x)∧g (Mine.iter g n x)=x:=by
 obtain⟨p,hp,e⟩:=h
 obtain⟨q,rfl⟩:∃ q,p=q+1:=⟨p-1,by omega⟩
 exact⟨q,Per.iter ⟨q+1,hp,e⟩ q,(aZ (g:=g) q x).symm.trans e⟩
theorem Per.inj{x y:α}(hx:Per g x)(hy:Per g y)(e:g x=g y):x=y:=by
 obtain⟨p,hp,ep⟩:=hx
 obtain⟨q,hq,eq⟩:=hy
 have h1:=Per.mul ep q
 have h2:=Per.mul eq p
 rw [Nat.mul_comm]at h2
 have hpq:0<p*q:=Nat.mul_pos hp hq
 obtain⟨r,hr⟩:∃ r,p*q=r+1:=⟨p*q-1,by omega⟩
 rw [hr]at h1 h2
 have a1:Mine.iter g r (g x)=x:=h1
 have a2:Mine.iter g r (g y)=y:=h2
 rw [e,a2]at a1;exact a1.symm
theorem Per.of_eq{x:α}{i j:Nat}(h:i<j)(e:Mine.iter g j x=Mine.iter g i x):Per g (Mine.iter g i x):=by
 refine⟨j-i,by omega,?_⟩
 rw [← i9,Nat.sub_add_cancel (Nat.le_of_lt h)];exact e
theorem cD{l:List α}(hg:∀ x∈l,g x∈l):∀ (n:Nat) {x:α},x∈l→iter g n x∈l
 | 0,_,h=>h
 | n+1,_,h=>cD hg n (hg _ h)
theorem cR[DecidableEq α] {l m:List α}(hn:l.Nodup)(hs:∀ x∈l,x∈m):l.length≤m.length:=by
 induction l generalizing m with
 | nil=>exact Nat.zero_le _
 | cons x r ih=>
  rw [List.nodup_cons]at hn
  have hx:=hs x (.head _)
  have:=ih (m:=m.erase x) hn.2 fun y hy=>(List.mem_erase_of_ne (fun(e:y=x)=>hn.1 (by rw [← e];exact hy))).mpr (hs y (.tail _ hy))
  rw [List.length_erase_of_mem hx]at this
  have:0<m.length:=List.length_pos_of_mem hx
  rw [List.length_cons];omega
noncomputable def fu(g:α→α)(x:α)(n:Nat):List α:=(List.range n).map fun k=>iter g k x
theorem ft(x:α)(n:Nat):(fu g x n).length=n:=by simp [fu]
theorem dY(x:α)(n:Nat):fu g x (n+1)=fu g x n++ [iter g n x]:=by simp [fu,List.range_succ]
theorem path_mem{x y:α}{n:Nat}:y∈fu g x n↔ ∃ k,k<n∧iter g k x=y:=by simp [fu]
theorem oq{x:α}{n i j:Nat}(h:(fu g x n).Nodup)(hi:i<n)(hj:j<n)(e:iter g i x=iter g j x):i=j:=by
 have h1:(fu g x n)[i]'(by rw [ft];exact hi)=(fu g x n)[j]'(by rw [ft];exact hj):=by simpa [fu] using e
 rcases Nat.lt_trichotomy i j with q | q | q
 ·exact absurd h1 (List.pairwise_iff_getElem.mp h i j _ _ q)
 ·exact q
 ·exact absurd h1.symm (List.pairwise_iff_getElem.mp h j i _ _ q)
theorem dZ(x:α) [DecidableEq α]:∀ n,(fu g x n).Nodup∨ ∃ i j,i<j∧j<n∧iter g j x=iter g i x
 | 0=> .inl (by simp [fu])
 | n+1=>by
  rcases dZ x n with h | ⟨i,j,a,b,c⟩
  ·by_cases q:iter g n x∈fu g x n
   ·obtain⟨k,hk,e⟩:=path_mem.mp q
    exact .inr ⟨k,n,hk,Nat.lt_succ_self n,e.symm⟩
   ·left
    rw [dY,List.nodup_append]
    refine⟨h,by simp,fun a ha b hb=>?_⟩
    rw [List.mem_singleton.mp hb]
    exact fun e=>q (e▸ha)
  ·exact .inr ⟨i,j,a,Nat.lt_succ_of_lt b,c⟩
theorem kP[DecidableEq α] {l:List α}(hg:∀ x∈l,g x∈l){x:α}(hx:x∈l):Per g (iter g l.length x):=by
 rcases dZ (g:=g) x (l.length+1)with h | ⟨i,j,a,b,c⟩
 ·have:=cR h (m:=l) fun y hy=>by
   obtain⟨k,-,rfl⟩:=path_mem.mp hy
   exact cD hg k hx
  rw [ft]at this;omega
 ·have:=(Per.of_eq a c).iter (l.length-i)
  rw [← i9]at this
  rwa [Nat.sub_add_cancel (by omega)]at this
theorem pB[DecidableEq α] {l:List α}(hg:∀ x∈l,g x∈l)(P:α→Prop)(hP:∀ x,P x→x∈l∧ ∃ y,P y∧g y=x){x:α}(hx:P x):Per g x:=by
 have key:∀ n x,P x→ ∃ y,P y∧iter g n y=x:=by
  intro n
  induction n with
  | zero=>exact fun x h=>⟨x,h,rfl⟩
  | succ n ih=>
   intro x h
   obtain⟨-,y,hy,e⟩:=hP x h
   obtain⟨z,hz,e2⟩:=ih y hy
   exact⟨z,hz,by rw [aZ,e2,e]⟩
 obtain⟨y,hy,e⟩:=key l.length x hx
 rw [← e];exact kP hg (hP y hy).1
end
end Mine
end
section
open PySem PySem.W PyProof.Rows PySem.Calls PySem.SeqAt
namespace Mine
section
variable {g:Str→Str}
noncomputable abbrev bK(g:Str→Str):Prop:=∀ x∈NM,g x∈NM
theorem NM_nodup:NM.Nodup:=by decide+kernel
theorem fL(x:Str)(n:Nat):(fu g x (n+1)).getLastD default=iter g n x:=by rw [dY];simp
theorem gI(hg:bK g){one:Str}(ho:one∈NM):∀ (n k:Nat),(fu g one (k+1)).Nodup→9≤n+(k+1)→
 ∃ m,k≤m∧dQ g n (fu g one (k+1))=fu g one (m+1)∧(fu g one (m+1)).Nodup∧ ∃ i,i≤m∧iter g (m+1) one=iter g i one
 | 0,k,h,hn=>by
  have:=cR h (m:=NM) fun y hy=>by
   refine ai (path_mem.mp hy) fun k _ h2_=>?_;obtain rfl:=h2_
   exact cD hg k ho
  rw [ft,ie]at this;exact(un this hn).elim
 | n+1,k,h,hn=>by
  unfold dQ
  rw [fL,← aZ (g:=g)]
  by_cases q:iter g (k+1) one∈fu g one (k+1)
  ·rw [if_pos q]
   refine ai (path_mem.mp q) fun i hi e=>?_
   exact⟨k,Nat.le_refl _,rfl,h,i,by exact um hi,e.symm⟩
  ·rw [if_neg q,← dY]
   have h2:(fu g one (k+1+1)).Nodup:=by
    rw [dY,List.nodup_append]
    refine⟨h,by simp,fun a ha b hb=>?_⟩
    rw [List.mem_singleton.mp hb]
    exact fun e=>q (e▸ha)
   refine ai (gI hg ho n (k+1) h2 (by exact ul hn)) fun m a b=>?_
   exact⟨m,by exact zq8 a,b⟩
theorem jb(hg:bK g){one:Str}(ho:one∈NM):∃ m,aQ g one=fu g one (m+1)∧(fu g one (m+1)).Nodup∧ ∃ i,i≤m∧iter g (m+1) one=iter g i one:=by
 refine cI (gI hg ho 8 0 (by simp [fu]) (by exact uk)) fun m _ a b c=>?_
 exact⟨m,a,b,c⟩
theorem oO(hg:bK g){one:Str}(ho:one∈NM):b9 g one∈aQ g one:=by
 refine lq (jb hg ho) fun m a b i hi e=>?_
 unfold b9 bU
 rw [a,fL,← aZ (g:=g),e]
 exact path_mem.mpr ⟨i,by exact uj hi,rfl⟩
theorem bC(hg:bK g){one:Str}:one∈am g↔one∈NM∧Per g one:=by
 unfold am
 rw [List.mem_filter]
 refine and_congr_right fun ho=>?_
 refine lq (jb hg ho) fun m a b i hi e=>?_
 unfold bU
 rw [a,fL,← aZ (g:=g),decide_eq_true_iff]
 refine⟨fun q=>⟨m+1,Nat.succ_pos _,q⟩,fun q=>?_⟩
 rw [e]
 cases i with
 | zero=>rfl
 | succ i=>
  rw [aZ,aZ]at e
  have:=Per.inj (q.iter m) (q.iter i) e
  have:=oq b (by exact ui) (by exact uh hi) this
  exact(ug hi this).elim
theorem bP(hg:bK g):∀ x∈am g,x∈NM:=fun x h=>((bC hg).mp h).1
theorem dW:(am g).length≤8:=List.length_filter_le _ _
theorem dq:(am g).Nodup:=NM_nodup.sublist List.filter_sublist
theorem jm(hg:bK g){x:Str}(h:x∈am g):g x∈am g:=by
 obtain⟨a,b⟩:=(bC hg).mp h
 exact(bC hg).mpr ⟨hg x a,b.next⟩
theorem mF(hg:bK g){x:Str}(h:x∈am g):∃ y∈am g,g y=x:=by
 obtain⟨a,b⟩:=(bC hg).mp h
 refine ai b.back fun n c d=>?_
 exact⟨_,(bC hg).mpr ⟨cD hg n a,c⟩,d⟩
theorem oj(hg:bK g){x y:Str}(hx:x∈am g)(hy:y∈am g)(e:g x=g y):x=y:=
 Per.inj ((bC hg).mp hx).2 ((bC hg).mp hy).2 e
theorem cw(hg:bK g){x:Str}:x∈(am g).map g↔x∈am g:=by
 rw [List.mem_map]
 refine⟨fun h0_=>ai h0_ fun y hy e=>e▸jm hg hy,fun h=>?_⟩
 refine ai (mF hg h) fun y a b=>?_
 exact⟨y,a,b⟩
theorem mR{l:List Str}(h:l.Nodup)(hi:∀ x∈l,∀ y∈l,g x=g y→x=y):(l.map g).Nodup:=by
 induction l with
 | nil=>simp
 | cons x r ih=>
  rw [List.nodup_cons]at h
  rw [List.map_cons,List.nodup_cons]
  refine⟨fun q=>?_,ih h.2 fun a ha b hb=>hi a (.tail _ ha) b (.tail _ hb)⟩
  refine ai (List.mem_map.mp q) fun y hy e=>?_
  exact h.1 (hi x (.head _) y (.tail _ hy) e.symm▸hy)
theorem bS(hg:bK g):((am g).map g).Nodup:=mR dq fun x hx y hy e=>oj hg hx hy e
theorem qT(hg:bK g){x:Str}(h:x∈NM):iter g 8 x∈am g:=(bC hg).mpr ⟨cD hg 8 h,kP hg h⟩
variable {R:List Str}
theorem ly:∀ (n:Nat) (x:Str) (ch:List Str),iter g n x∈R→(aS g R n x ch).2∈R
 | 0,x,ch,h=>h
 | n+1,x,ch,h=>by
  unfold aS
  split
  ·assumption
  ·exact ly n (g x) _ h
theorem ic:∀ (n:Nat) (x:Str) (ch:List Str),iter g n x∈R→aS g R (n+1) x ch=aS g R n x ch
 | 0,x,ch,h=>if_pos h
 | n+1,x,ch,h=>by
  rw [aS]
  conv=>rhs;rw [aS]
  split
  ·rfl
  ·exact ic n (g x) _ h
theorem gp:∀ (n:Nat) (x:Str) (ch:List Str),aS g R n x ch=((aS g R n x []).1++ch,(aS g R n x []).2)
 | 0,x,ch=>rfl
 | n+1,x,ch=>by
  unfold aS
  split
  ·rfl
  ·rw [gp n (g x) (x::ch),gp n (g x) [x]]
   simp
theorem ib{x:Str}(h:x∈R):aG g R x=([],x):=if_pos h
theorem mr(hg:bK g){x:Str}(hx:x∈NM)(h:x∉am g):aG g (am g) x=((aG g (am g) (g x)).1++ [x],(aG g (am g) (g x)).2):=by
 have e:aG g (am g) x=aS g (am g) 7 (g x) [x]:=by unfold aG;rw [aS,if_neg h]
 have e2:aG g (am g) (g x)=aS g (am g) 7 (g x) []:=ic 7 (g x) [] (qT hg hx)
 rw [e,e2,gp]
theorem gj(hg:bK g){x:Str}(hx:x∈NM):(aG g (am g) x).2∈am g:=ly 8 x [] (qT hg hx)
theorem jG(hg:bK g):∀ (n:Nat) (x:Str) (ch:List Str),(∀ y∈ch,y∉R)→ ∀ y∈(aS g R n x ch).1,y∉R
 | 0,x,ch,h=>h
 | n+1,x,ch,h=>by
  unfold aS
  split
  ·exact h
  ·rename_i q
   refine jG hg n (g x) _ fun y hy=>?_
   rcases List.mem_cons.mp hy with rfl | hy
   ·exact q
   ·exact h y hy
end
end Mine
end
section
open PySem PySem.W PyProof.Rows PySem.Calls PySem.SeqAt
open Builtin Builtin.Str
namespace Mine
noncomputable def cs(x:Str):List Nat:=x.cps.toList
theorem bb{a b:Str}(h:cs a=cs b):a=b:=Str.ext' (Array.toList_inj.mp h)
@[simp] theorem c6 (a b:Str):cs (a++b)=cs a++cs b:=by simp [cs,Str.cps_append]
theorem b8(x:Str):x.length=(cs x).length:=by simp [cs,Str.length]
@[simp] theorem fk:cs SL= [47]:=by decide+kernel
@[simp] theorem cs_DOT:cs DOT= [46]:=by decide+kernel
@[simp] theorem cs_DD:cs DD= [46,46]:=by decide+kernel
@[simp] theorem cs_EM:cs EM= []:=by decide+kernel
@[simp] theorem k9 (l:List Nat):cs ⟨l.toArray⟩=l:=by simp [cs]
theorem nQ:SL=⟨#[47]⟩:=bb (by rw [fk];rfl)
noncomputable def sl(C:List Str):Str:=⟨(C.flatMap fun c=>47::cs c).toArray⟩
@[simp] theorem cM (C:List Str):cs (sl C)=C.flatMap fun c=>47::cs c:=k9 _
theorem mC(C D:List Str):sl (C++D)=sl C++sl D:=bb (by simp)
theorem bg(z:Str):∀ (c:Str) (r:List Str),cs (Str.join z (c::r))=cs c++r.flatMap fun p=>cs z++cs p
 | c,[]=>by simp [Str.join]
 | c,d::r=>by
  show cs (c++z++Str.join z (d::r))=_
  rw [c6,c6,bg z d r]
  simp
theorem fw(z:Str)(C:List Str):Txt.join z C=Str.join z C:=StrLaws.glued_eq_join z C
noncomputable def rd(C:List Str):Str:=SL++Txt.join SL C
theorem gO:rd []=SL:=bb (by rw [rd,fw,c6];simp [Str.join,Str.empty,cs])
theorem ff{C:List Str}(h:C≠ []):rd C=sl C:=bb (by
 cases C with
 | nil=>exact absurd rfl h
 | cons c r=>rw [rd,fw,c6,bg,cM];simp)
structure Good (c:Str):Prop where
 ne:cs c≠ []
 free:47∉cs c
 d1:c≠DOT
 d2:c≠DD
theorem bN:∀ x∈NM,Good x:=fun x hx=>by
 have h:∀ x∈NM,cs x≠ []∧47∉cs x∧x≠DOT∧x≠DD:=by decide+kernel
 refine cL (h x hx) fun a b c d=>?_
 exact⟨a,b,c,d⟩
theorem vf(x:Str)(i:Nat):(i+1≤x.length∧subAt x SL i=true)↔(cs x)[i]?=some 47:=by
 have:=StrLaws.subAt_one x 47 i
 rw [← nQ]at this
 rw [c9]at this
 exact this
theorem gK(x:Str):Txt.startswith x SL=true↔(cs x)[0]?=some 47:=by
 rw [← vf]
 unfold Txt.startswith
 rw [c9];simp
theorem ll(x:Str):Txt.endswith x SL=true↔(cs x).getLast?=some 47:=by
 unfold Txt.endswith
 rw [c9,List.getLast?_eq_getElem?]
 have:=vf x ((cs x).length-1)
 rw [← this,b8 x]
 simp only [Bool.and_eq_true,decide_eq_true_iff]
 constructor
 ·rintro⟨a,b⟩;exact⟨by exact ut a,b⟩
 ·rintro⟨a,b⟩;exact⟨by exact ur a,b⟩
theorem h9{C:List Str}{n:Str}(h:Good n):(cs (sl (C++ [n]))).getLast?=(cs n).getLast?:=by
 rw [cM,List.flatMap_append]
 have:(List.flatMap (fun c=>47::cs c) [n])=47::cs n:=by simp
 rw [this,List.getLast?_append,List.getLast?_cons_of_ne_nil h.ne]
 obtain⟨x,hx⟩:∃ x,(cs n).getLast?=some x:=⟨_,List.getLast?_eq_some_getLast h.ne⟩
 rw [hx];rfl
theorem jv{n:Str}(h:Good n):(cs n).getLast?≠some 47:=fun q=>h.free (List.mem_of_getLast? q)
theorem lb{C:List Str}{n:Str}(hC:∀ c∈C,Good c)(h:Good n):d8 (rd C) n=rd (C++ [n]):=by
 unfold d8
 have h1:¬(Txt.startswith n SL=true∨(rd C).length=0):=by
  rintro(q | q)
  ·rw [gK]at q
   exact h.free (List.mem_of_getElem? q)
  ·rw [b8]at q
   unfold rd at q
   simp at q
 rw [if_neg h1]
 rcases List.eq_nil_or_concat C with rfl | ⟨D,m,rfl⟩
 ·rw [gO,if_pos ((ll _).mpr (by simp)),ff (by simp)]
  exact bb (by simp)
 ·rw [List.concat_eq_append]at hC ⊢
  rw [ff (C:=D++ [m]) (by simp),ff (by simp)]
  have hm:=hC m (by simp)
  rw [if_neg fun q=>jv hm (by rw [← h9 (C:=D) hm];exact(ll _).mp q),mC (D++ [m]) [n]]
  exact bb (by simp)
theorem pH{C:List Str}{n:Str}(h:47∉cs n):Txt.rfind (sl (C++ [n])) SL=((cs (sl C)).length:Int):=by
 have e:cs (sl (C++ [n]))=cs (sl C)++47::cs n:=by simp
 have at_:∀ i,StrLaws.At (sl (C++ [n])) SL (sl (C++ [n])).length i↔(cs (sl (C++ [n])))[i]?=some 47:=fun i=>by
  rw [← vf]
  unfold StrLaws.At
  rw [c9]
 unfold Txt.rfind
 rcases StrLaws.last_spec (sl (C++ [n])) SL with⟨a,b⟩ | ⟨i,a,b,c⟩
 ·exact absurd ((at_ (cs (sl C)).length).mpr (by rw [e];simp)) (b _)
 ·rw [a]
  show(i:Int)=_
  have b:=(at_ i).mp b
  have c0:¬ i<(cs (sl C)).length:=fun q=>c _ q ((at_ _).mpr (by rw [e];simp))
  rw [e,List.getElem?_append_right (by exact uD c0)]at b
  have:i-(cs (sl C)).length=0:=by
   cases hq:i-(cs (sl C)).length with
   | zero=>rfl
   | succ k=>
    rw [hq,List.getElem?_cons_succ]at b
    exact absurd (List.mem_of_getElem? b) h
  exact uq this c0
theorem oW{C:List Str}{n:Str}(h:47∉cs n):idx (sl (C++ [n]))=(cs (sl C)).length+1:=by
 unfold idx;rw [pH h];exact uo
theorem dM(x:Str)(a b:Option Nat):cs (b4 x a b)=((cs x).take (b.getD (cs x).length)).drop (a.getD 0):=by
 unfold b4;rw [k9,b8];rfl
theorem io{C:List Str}{n:Str}(h:47∉cs n):cO (sl (C++ [n]))=n:=by
 unfold cO
 rw [oW h]
 refine bb ?_
 rw [dM]
 have e:cs (sl (C++ [n]))=(cs (sl C)++ [47])++cs n:=by simp
 rw [e]
 show List.drop ((cs (sl C)).length+1) (List.take (((cs (sl C)++ [47])++cs n)).length _)=_
 rw [List.take_length,List.drop_append]
 simp
theorem ia(n:Nat):cs (fE n)=List.replicate n 47:=by
 unfold fE
 rw [k9]
 induction n with
 | zero=>rfl
 | succ n ih=>rw [List.replicate_succ,List.flatten_cons,ih,List.replicate_succ];show cs SL++_=_;rw [fk];rfl
theorem lI{x:Str}(h:(cs x).getLast?≠some 47):Txt.rstripChars (x++SL) SL=x:=by
 unfold Txt.rstripChars Txt.stripBy stripSame PySem.stripped stripLo stripHi
 simp only [Bool.false_eq_true,if_false,if_true]
 have hgo:SL.cps.contains=fun c=>c==47:=by
  funext c
  rw [nQ,Bool.eq_iff_iff];simp
 have hrev:((x++SL).cps.toList.drop 0).reverse.takeWhile SL.cps.contains= [47]:=by
  rw [hgo]
  show((cs (x++SL)).drop 0).reverse.takeWhile _=_
  rw [List.drop_zero,c6,fk,List.reverse_append,List.reverse_singleton,List.singleton_append,List.takeWhile_cons]
  simp only [beq_self_eq_true,if_true]
  congr 1
  cases hq:(cs x).reverse with
  | nil=>rfl
  | cons a r=>
   rw [List.takeWhile_cons]
   have:(cs x).getLast?=some a:=by rw [← List.head?_reverse,hq];rfl
   have ne:(a==47)=false:=by
    cases q:a==47 with
    | false=>rfl
    | true=>rw [beq_iff_eq.mp q]at this;exact absurd this h
   rw [ne];rfl
 rw [hrev]
 have hl:(x++SL).length=(cs x).length+1:=by rw [b8,c6,fk];simp
 rw [hl]
 simp only [List.length_singleton,Nat.add_sub_cancel]
 rw [if_neg (by simp)]
 refine bb ?_
 show(strSub (x++SL) 0 (cs x).length).cps.toList=_
 rw [StrLaws.strSub_toList]
 show((cs (x++SL)).drop 0).take _=_
 simp
theorem nh{C:List Str}{n:Str}(hC:∀ c∈C,Good c)(h:47∉cs n):bI (sl (C++ [n]))=rd C:=by
 have e:cs (sl (C++ [n]))=(cs (sl C)++ [47])++cs n:=by simp
 have hh:b4 (sl (C++ [n])) none (some (idx (sl (C++ [n]))))=sl C++SL:=by
  rw [oW h]
  refine bb ?_
  rw [dM,e]
  show List.drop 0 (List.take ((cs (sl C)).length+1) _)=_
  rw [List.drop_zero,List.take_append]
  simp [List.take_of_length_le]
 unfold bI
 rw [hh]
 dsimp only
 rcases List.eq_nil_or_concat C with rfl | ⟨D,m,rfl⟩
 ·have e0:sl []++SL=SL:=bb (by simp)
  rw [e0,gO,if_neg]
  rintro⟨-,q⟩
  refine q (bb ?_)
  rw [ia,fk,c9];rfl
 ·rw [List.concat_eq_append]at hC ⊢
  have hm:=hC m (by simp)
  rw [if_pos,lI (by rw [h9 hm];exact jv hm),ff (by simp)]
  refine⟨by rw [b8];simp,fun q=>?_⟩
  have q2:cs (sl (D++ [m])++SL)=List.replicate (sl (D++ [m])++SL).length 47:=by rw [← ia,← q]
  obtain⟨a,ha⟩:=List.exists_mem_of_ne_nil _ hm.ne
  have:a∈cs (sl (D++ [m])++SL):=by simp [ha]
  rw [q2]at this
  rw [List.eq_of_mem_replicate this]at ha
  exact hm.free ha
theorem nA:∀ {a b:List Nat} {r t:List Nat},47∉a→47∉b→a++47::r=b++47::t→a=b∧r=t
 | [],[],r,t,_,_,e=>by simp at e;exact⟨rfl,e⟩
 | [],y::b,r,t,_,hb,e=>by simp at e;exact absurd (by rw [← e.1];simp) hb
 | x::a,[],r,t,ha,_,e=>by simp at e;exact absurd (by rw [e.1];simp) ha
 | x::a,y::b,r,t,ha,hb,e=>by
  simp only [List.cons_append,List.cons.injEq]at e
  have:=nA (a:=a) (b:=b) (fun q=>ha (.tail _ q)) (fun q=>hb (.tail _ q)) e.2
  exact⟨by rw [e.1,this.1],this.2⟩
theorem lw{a b:List Nat}{t:List Nat}(h:47∉a)(e:a=b++47::t):False:=h (by rw [e];simp)
theorem kZ:∀ {P Q:List Str},P≠ []→Q≠ []→(∀ p∈P,47∉cs p)→(∀ p∈Q,47∉cs p)→Str.join SL P=Str.join SL Q→P=Q
 | [],_,h,_,_,_,_=>absurd rfl h
 | _,[],_,h,_,_,_=>absurd rfl h
 | [p],[q],_,_,_,_,e=>by
  have:p=q:=e
  rw [this]
 | [p],q::q'::Q,_,_,hp,hq,e=>by
  have e:=congrArg cs e
  rw [bg,bg]at e
  simp at e
  exact(lw (hp p (by simp)) e).elim
 | p::p'::P,[q],_,_,hp,hq,e=>by
  have e:=congrArg cs e
  rw [bg,bg]at e
  simp at e
  exact(lw (hq q (by simp)) e.symm).elim
 | p::p'::P,q::q'::Q,_,_,hp,hq,e=>by
  have e1:cs p++47::cs (Str.join SL (p'::P))=cs q++47::cs (Str.join SL (q'::Q)):=by
   have h1:cs (Str.join SL (p::p'::P))=cs p++47::cs (Str.join SL (p'::P)):=by show cs (p++SL++Str.join SL (p'::P))=_;simp
   have h2:cs (Str.join SL (q::q'::Q))=cs q++47::cs (Str.join SL (q'::Q)):=by show cs (q++SL++Str.join SL (q'::Q))=_;simp
   rw [← h1,← h2,e]
  obtain⟨a,b⟩:=nA (hp p (by simp)) (hq q (by simp)) e1
  have ih:=kZ (P:=p'::P) (Q:=q'::Q) (by simp) (by simp) (fun x hx=>hp x (by simp at hx ⊢;exact .inr hx)) (fun x hx=>hq x (by simp at hx ⊢;exact .inr hx)) (bb b)
  rw [bb a,ih]
theorem kK(x:Str):Txt.split x SL≠ []:=by
 unfold Txt.split
 split
 ·simp
 ·split
  ·simp
  ·rw [StrLaws.partsBetween_eq]
   refine jC (StrLaws.partsFrom_ne x SL.length 0 (occurrences x SL 0 x.length (x.length+1))) fun p r e=>?_
   rw [e];simp
theorem eM{C:List Str}(h:C≠ [])(hC:∀ c∈C,47∉cs c):Txt.split (Str.join SL C) SL=C:=by
 refine kZ (kK _) h (fun p hp=>?_) hC (StrLaws.join_split _ _)
 rw [nQ]at hp
 exact StrLaws.split_free _ 47 p hp
end Mine
end
section
open PySem PySem.W PyProof.Rows PySem.Calls PySem.SeqAt
open AutoSeq1 (wpAny_loadPart')
namespace Mine
noncomputable def ltL:List Str→List Str→Bool
 | [],[]=>false
 | [],_::_=>true
 | _::_,[]=>false
 | x::xs,y::ys=>if x=y then ltL xs ys else decide (cs x<cs y)
theorem pC(l b:Addr)(items items2:Array Value)(n n2:Nat)(xs ys:List Str)(h1:items.toList.map er=ag xs)(h2:items2.toList.map er=ag ys)(k:Nat):
 ∀ i:Nat,items.size-i=k→Meets (Builtin.«list.__eq__.loop» ⟨[.ref l,.ref b,rawInt i,rawInt 0],[]⟩)
  (fun _ R s=>s.heap.get? l=some { cls:= .type "list",dict:=none,data:= .seq items n,slots:= #[]} ∧s.heap.get? b=some { cls:= .type "list",dict:=none,data:= .seq items2 n2,slots:= #[]} ∧i≤items.size∧i≤items2.size∧
   R (.ok (.ret (.bool (ltL (xs.drop i) (ys.drop i))))) s):=by
 have s1:items.size=xs.length:=by have:=congrArg List.length h1;simpa using this
 have s2:items2.size=ys.length:=by have:=congrArg List.length h2;simpa using this
 induction k with
 | zero=>
  intro i hk prog w A R s h
  obtain⟨hp,g,d,tk,os⟩:=s;refine aD h fun hl hb hi1 hi2 h=>?_
  wp_walk using wpAny_loadPart' hl,wpAny_loadPart' hb
  have e1:items[((i:Nat):Int).toNat]?=none:=by simp;exact vW hk
  have hd:xs.drop i= []:=by simp;exact vV hk s1
  rw [hd]at h
  rw [e1]
  wp_walk using wpAny_loadPart' hl,wpAny_loadPart' hb
  show R (.ok (.ret (.bool (decide (items.size<items2.size))))) _
  have:ltL [] (ys.drop i)=decide (items.size<items2.size):=by
   rw [s1,s2]
   cases hy:ys.drop i with
   | nil=>have:ys.length≤i:=by simpa using hy
          unfold ltL;symm;rw [decide_eq_false_iff_not];exact xd this hi1 s1
   | cons y r=>have:i<ys.length:=by apply Classical.byContradiction;intro q;rw [List.drop_of_length_le (by exact uD q)]at hy;cases hy
               unfold ltL;symm;rw [decide_eq_true_iff];exact xc hk s1 this
  rw [← this];exact h
 | succ k ih=>
  intro i hk prog w A R s h
  obtain⟨hp,g,d,tk,os⟩:=s;refine aD h fun hl hb hi1 hi2 h=>?_
  wp_walk using wpAny_loadPart' hl,wpAny_loadPart' hb
  have hlt:i<items.size:=by exact uw hk
  have e1:items[((i:Nat):Int).toNat]?=some items[i]:=by simp [hlt]
  refine ai (bj (k:=i) h1 (by rw [ae];exact iZ hlt s1)) fun v1 hv1 ev1=>?_
  rw [bR (by exact iZ hlt s1)]at ev1
  obtain⟨t1,rfl⟩:=au ev1
  have hx:items[i]= .str xs[i] t1:=by rw [Array.getElem?_eq_getElem hlt]at hv1;exact Option.some.inj hv1
  have hdx:xs.drop i=xs[i]::xs.drop (i+1):=List.drop_eq_getElem_cons (by exact iZ hlt s1)
  rcases Nat.lt_or_ge i items2.size with hlt2 | hge2
  ·have e2:items2[((i:Nat):Int).toNat]?=some items2[i]:=by simp [hlt2]
   refine ai (bj (k:=i) h2 (by rw [ae];exact iZ hlt2 s2)) fun v2 hv2 ev2=>?_
   rw [bR (by exact iZ hlt2 s2)]at ev2
   obtain⟨t2,rfl⟩:=au ev2
   have hy:items2[i]= .str ys[i] t2:=by rw [Array.getElem?_eq_getElem hlt2]at hv2;exact Option.some.inj hv2
   have hdy:ys.drop i=ys[i]::ys.drop (i+1):=List.drop_eq_getElem_cons (by exact iZ hlt2 s2)
   have hc:((i:Int)+1)=((i+1:Nat):Int):=by push_cast;rfl
   rw [hdx,hdy]at h
   rw [e1,e2,hx,hy]
   refine wpAny_bind (eqBool_str ?_)
   cases hb':(xs[i]==ys[i])with
   | true=>
    have hxy:=beq_iff_eq.mp hb'
    have h':R (.ok (.ret (.bool (ltL (xs.drop (i+1)) (ys.drop (i+1)))))) ⟨hp,g,d,tk,os⟩:=by unfold ltL at h;rw [if_pos hxy]at h;exact h
    wp_walk
    rw [hc]
    exact⟨plainId_quiet MeetsSeq3.plain_eq_loop _,codeAny_builtin MeetsSeq3.entry_eq_loop (by
     rw [Around.under_plainId MeetsSeq3.plain_eq_loop _]
     exact ih (i+1) (by exact ub hk) prog w A R _ ⟨hl,hb,by exact q7 hlt,by exact q7 hlt2,h'⟩)⟩
   | false=>
    have hxy:xs[i]≠ys[i]:=fun q=>by rw [q]at hb';simp at hb'
    have h':R (.ok (.ret (.bool (decide (cs xs[i]<cs ys[i]))))) ⟨hp,g,d,tk,os⟩:=by unfold ltL at h;rw [if_neg hxy]at h;exact h
    wp_walk using wpAny_loadPart' hl,wpAny_loadPart' hb
    rw [e1,e2,hx,hy]
    refine wpAny_bind (richCompare_gives (op:= .Lt) (typeIs_str _ _ _) (typeIs_str _ _ _) F.slot_str_lt F.entry_str_lt (F.args_str_lt_2 _ _) (gives_str_lt xs[i] ys[i] t1 t2) (fun e=>nomatch e) ?_)
    exact wpAny_pure h'
  ·have e2:items2[((i:Nat):Int).toNat]?=none:=by simp;exact vU hge2
   rw [e1,e2]
   wp_walk using wpAny_loadPart' hl,wpAny_loadPart' hb
   show R (.ok (.ret (.bool (decide (items.size<items2.size))))) _
   have hdy:ys.drop i= []:=by simp;exact vT hge2 s2
   have:ltL (xs.drop i) (ys.drop i)=decide (items.size<items2.size):=by
    rw [hdx,hdy,s1,s2]
    unfold ltL;symm;rw [decide_eq_false_iff_not];exact xb hlt hge2 s1 s2
   rw [← this];exact h
theorem pD(l b:Addr)(items items2:Array Value)(n n2:Nat)(xs ys:List Str)(h1:items.toList.map er=ag xs)(h2:items2.toList.map er=ag ys):
 Meets (Builtin.«list.__lt__» ⟨[.ref l,.ref b],[]⟩)
  (fun _ R s=>s.heap.get? l=some { cls:= .type "list",dict:=none,data:= .seq items n,slots:= #[]} ∧s.heap.get? b=some { cls:= .type "list",dict:=none,data:= .seq items2 n2,slots:= #[]} ∧
   R (.ok (.ret (.bool (ltL xs ys)))) s):=by
 intro prog w A R s h
 obtain⟨hp,g,d,tk,os⟩:=s;refine aE h fun hl hb h=>?_
 have f3:=AutoSeq1.sub_list_list
 wp_walk using wpAny_loadPart' hl,wpAny_loadPart' hb
 exact⟨plainId_quiet MeetsSeq3.plain_eq_loop _,codeAny_builtin MeetsSeq3.entry_eq_loop (by
  rw [Around.under_plainId MeetsSeq3.plain_eq_loop _]
  exact pC l b items items2 n n2 xs ys h1 h2 _ 0 rfl prog w A R _ ⟨hl,hb,Nat.zero_le _,Nat.zero_le _,by simpa using h⟩)⟩
theorem pJ(l b:Addr)(items items2:Array Value)(n n2:Nat)(xs ys:List Str)(h1:items.toList.map er=ag xs)(h2:items2.toList.map er=ag ys)(k:Nat):
 ∀ i:Nat,items.size-i=k→Meets (Builtin.«list.__eq__.loop» ⟨[.ref l,.ref b,rawInt i,rawInt 4],[]⟩)
  (fun _ R s=>s.heap.get? l=some { cls:= .type "list",dict:=none,data:= .seq items n,slots:= #[]} ∧s.heap.get? b=some { cls:= .type "list",dict:=none,data:= .seq items2 n2,slots:= #[]} ∧i≤items.size∧i≤items2.size∧
   R (.ok (.ret (.bool (ltL (ys.drop i) (xs.drop i))))) s):=by
 have s1:items.size=xs.length:=by have:=congrArg List.length h1;simpa using this
 have s2:items2.size=ys.length:=by have:=congrArg List.length h2;simpa using this
 induction k with
 | zero=>
  intro i hk prog w A R s h
  obtain⟨hp,g,d,tk,os⟩:=s;refine aD h fun hl hb hi1 hi2 h=>?_
  wp_walk using wpAny_loadPart' hl,wpAny_loadPart' hb
  have e1:items[((i:Nat):Int).toNat]?=none:=by simp;exact vW hk
  have hd:xs.drop i= []:=by simp;exact vV hk s1
  rw [hd]at h
  rw [e1]
  wp_walk using wpAny_loadPart' hl,wpAny_loadPart' hb
  show R (.ok (.ret (.bool (decide (items.size>items2.size))))) _
  have:ltL (ys.drop i) []=decide (items.size>items2.size):=by
   rw [s1,s2]
   cases hy:ys.drop i with
   | nil=>have:ys.length≤i:=by simpa using hy
          unfold ltL;symm;rw [decide_eq_false_iff_not];exact xa hk s1 hi2 s2
   | cons y r=>have:i<ys.length:=by apply Classical.byContradiction;intro q;rw [List.drop_of_length_le (by exact uD q)]at hy;cases hy
               unfold ltL;symm;rw [decide_eq_false_iff_not];exact wZ hk s1 this
  rw [← this];exact h
 | succ k ih=>
  intro i hk prog w A R s h
  obtain⟨hp,g,d,tk,os⟩:=s;refine aD h fun hl hb hi1 hi2 h=>?_
  wp_walk using wpAny_loadPart' hl,wpAny_loadPart' hb
  have hlt:i<items.size:=by exact uw hk
  have e1:items[((i:Nat):Int).toNat]?=some items[i]:=by simp [hlt]
  refine ai (bj (k:=i) h1 (by rw [ae];exact iZ hlt s1)) fun v1 hv1 ev1=>?_
  rw [bR (by exact iZ hlt s1)]at ev1
  obtain⟨t1,rfl⟩:=au ev1
  have hx:items[i]= .str xs[i] t1:=by rw [Array.getElem?_eq_getElem hlt]at hv1;exact Option.some.inj hv1
  have hdx:xs.drop i=xs[i]::xs.drop (i+1):=List.drop_eq_getElem_cons (by exact iZ hlt s1)
  rcases Nat.lt_or_ge i items2.size with hlt2 | hge2
  ·have e2:items2[((i:Nat):Int).toNat]?=some items2[i]:=by simp [hlt2]
   refine ai (bj (k:=i) h2 (by rw [ae];exact iZ hlt2 s2)) fun v2 hv2 ev2=>?_
   rw [bR (by exact iZ hlt2 s2)]at ev2
   obtain⟨t2,rfl⟩:=au ev2
   have hy:items2[i]= .str ys[i] t2:=by rw [Array.getElem?_eq_getElem hlt2]at hv2;exact Option.some.inj hv2
   have hdy:ys.drop i=ys[i]::ys.drop (i+1):=List.drop_eq_getElem_cons (by exact iZ hlt2 s2)
   have hc:((i:Int)+1)=((i+1:Nat):Int):=by push_cast;rfl
   rw [hdx,hdy]at h
   rw [e1,e2,hx,hy]
   refine wpAny_bind (eqBool_str ?_)
   cases hb':(xs[i]==ys[i])with
   | true=>
    have hxy:=beq_iff_eq.mp hb'
    have h':R (.ok (.ret (.bool (ltL (ys.drop (i+1)) (xs.drop (i+1)))))) ⟨hp,g,d,tk,os⟩:=by unfold ltL at h;rw [if_pos hxy.symm]at h;exact h
    wp_walk
    rw [hc]
    exact⟨plainId_quiet MeetsSeq3.plain_eq_loop _,codeAny_builtin MeetsSeq3.entry_eq_loop (by
     rw [Around.under_plainId MeetsSeq3.plain_eq_loop _]
     exact ih (i+1) (by exact ub hk) prog w A R _ ⟨hl,hb,by exact q7 hlt,by exact q7 hlt2,h'⟩)⟩
   | false=>
    have hxy:xs[i]≠ys[i]:=fun q=>by rw [q]at hb';simp at hb'
    have h':R (.ok (.ret (.bool (decide (cs ys[i]<cs xs[i]))))) ⟨hp,g,d,tk,os⟩:=by unfold ltL at h;rw [if_neg (Ne.symm hxy)]at h;exact h
    wp_walk using wpAny_loadPart' hl,wpAny_loadPart' hb
    rw [e1,e2,hx,hy]
    refine wpAny_bind (richCompare_gives (op:= .Gt) (typeIs_str _ _ _) (typeIs_str _ _ _) F.slot_str_gt F.entry_str_gt (F.args_str_gt_2 _ _) (gives_str_gt xs[i] ys[i] t1 t2) (fun e=>nomatch e) ?_)
    exact wpAny_pure h'
  ·have e2:items2[((i:Nat):Int).toNat]?=none:=by simp;exact vU hge2
   rw [e1,e2]
   wp_walk using wpAny_loadPart' hl,wpAny_loadPart' hb
   show R (.ok (.ret (.bool (decide (items.size>items2.size))))) _
   have hdy:ys.drop i= []:=by simp;exact vT hge2 s2
   have:ltL (ys.drop i) (xs.drop i)=decide (items.size>items2.size):=by
    rw [hdx,hdy,s1,s2]
    unfold ltL;symm;rw [decide_eq_true_iff];exact wY hlt hge2 s1 s2
   rw [← this];exact h
theorem pE(l b:Addr)(items items2:Array Value)(n n2:Nat)(xs ys:List Str)(h1:items.toList.map er=ag xs)(h2:items2.toList.map er=ag ys):
 Meets (Builtin.«list.__gt__» ⟨[.ref l,.ref b],[]⟩)
  (fun _ R s=>s.heap.get? l=some { cls:= .type "list",dict:=none,data:= .seq items n,slots:= #[]} ∧s.heap.get? b=some { cls:= .type "list",dict:=none,data:= .seq items2 n2,slots:= #[]} ∧
   R (.ok (.ret (.bool (ltL ys xs)))) s):=by
 intro prog w A R s h
 obtain⟨hp,g,d,tk,os⟩:=s;refine aE h fun hl hb h=>?_
 have f3:=AutoSeq1.sub_list_list
 wp_walk using wpAny_loadPart' hl,wpAny_loadPart' hb
 exact⟨plainId_quiet MeetsSeq3.plain_eq_loop _,codeAny_builtin MeetsSeq3.entry_eq_loop (by
  rw [Around.under_plainId MeetsSeq3.plain_eq_loop _]
  exact pJ l b items items2 n n2 xs ys h1 h2 _ 0 rfl prog w A R _ ⟨hl,hb,Nat.zero_le _,Nat.zero_le _,by simpa using h⟩)⟩
end Mine
end
section
open PySem PySem.W PyProof.Rows PySem.Calls PySem.SeqAt
namespace Mine
section
variable {prog:Program}{w:World}{A:Around}{R:Result→Shared→Prop}{I S l:Addr}{x y:Value}
theorem oU(hh:A.handled=none)(hne:S≠I)(hl2:l≠I){v:Value}{c:Nat}{s:Shared}(hit:s.heap.IsListIter I l 2)(hl:s.heap.IsList l #[x,y])
 (hS:s.heap.get? S=some { cls:= .type "list",dict:=none,data:= .seq #[v,v] c,slots:= #[]})
 (hR:∀ h' tk,(∀ b o,b≠I→b≠S→s.heap.get? b=some o→h'.get? b=some o)→R (.ok (.ret v)) { s with heap:=h',toks:=tk}):
 codeAny (model prog w) A (.builtin "min.loop" ⟨[.ref I,.none,.ref S],[]⟩) R s:=by
 refine codeAny_builtin F.entry_min_loop ?_
 rw [Around.under_plainId F.plain_min_loop _]
 show wpAny _ A.in1 (seqItems? (.ref S)>>=_) _ _ s
 refine wpAny_bind (wpAny_seqItems hS rfl ?_)
 show wpAny _ A.in1 (tryCatch (pyNext (.ref I)) _>>=_) _ _ s
 refine wpAny_bind (wpAny_tryCatch (wpAny_pyNext_list_end (A:=A.in1) hh hit hl rfl fun h' hk'=>?_))
 have hS':=hk' S _ hne hS
 show wpAny _ A.in1 (updateSeq S (fun _=> #[])>>=_) _ _ _
 refine wpAny_bind ?_
 refine wpAny_updateSeq hS' rfl (wpAny_bind (wpAny_letGo (wpAny_pure ?_)))
 exact hR _ s.toks fun b o hb hbS e=>(Heap.get?_update_other _ _ (Ne.symm hbS)).trans (hk' b o hb e)
theorem qP(hh:A.handled=none)(hne:S≠I)(hl2:l≠I)(hlS:l≠S){c:Nat}{t:Bool}{s:Shared}(hit:s.heap.IsListIter I l 1)(hl:s.heap.IsList l #[x,y])
 (hcmp:∀ h' (Q E:Value→Shared→Prop),(∀ b o,b≠I→b≠S→s.heap.get? b=some o→h'.get? b=some o)→Q (.bool t) { s with heap:=h'} →wpAny (model prog w) A.in1 (richCompare .Lt y x) Q E { s with heap:=h'})
 (hS:s.heap.get? S=some { cls:= .type "list",dict:=none,data:= .seq #[x,x] c,slots:= #[]})
 (hR:∀ h' tk,(∀ b o,b≠I→b≠S→s.heap.get? b=some o→h'.get? b=some o)→R (.ok (.ret (if t then y else x))) { s with heap:=h',toks:=tk}):
 codeAny (model prog w) A (.builtin "min.loop" ⟨[.ref I,.none,.ref S],[]⟩) R s:=by
 have hname:(toString "min" ++toString ".loop" :String)= "min.loop" :=by decide
 refine codeAny_builtin F.entry_min_loop ?_
 rw [Around.under_plainId F.plain_min_loop _]
 show wpAny _ A.in1 (seqItems? (.ref S)>>=_) _ _ s
 refine wpAny_bind (wpAny_seqItems hS rfl ?_)
 show wpAny _ A.in1 (tryCatch (pyNext (.ref I)) _>>=_) _ _ s
 refine wpAny_bind (wpAny_tryCatch (wpAny_pyNext_list_item hit hl (x:=y) rfl fun h' hit' hs=>?_))
 have hS':=(hs.2 S hne).trans hS
 have hl':h'.IsList l #[x,y]:=by refine ai hl fun o ho r=>?_;clear hl;exact⟨o,(hs.2 l hl2).trans ho,r⟩
 show wpAny _ A.in1 (tryCatch (holding [y,y] (richCompare .Lt y x>>=_)) _>>=_) _ _ _
 refine wpAny_bind (wpAny_tryCatch (wpAny_holding (wpAny_bind (hcmp h' _ _ (fun b o hb _ e=>(hs.2 b hb).trans e) ?_))))
 refine wpAny_bind (wpAny_holding (wpAny_truthy_bool ?_))
 refine wpAny_bind (wpAny_letGo (wpAny_pure ?_))
 cases t with
 | true=>
  simp only [if_true]
  refine wpAny_bind ?_
  refine wpAny_updateSeq hS' rfl (wpAny_bind (wpAny_letGo ?_))
  rw [hname]
  refine wpAny_pure ⟨plainId_quiet F.plain_min_loop _,oU (x:=x) (y:=y) (v:=y) hh hne hl2 ?_ ?_ (Heap.get?_update_self _ hS' rfl) fun h'' tk'' hk''=>?_⟩
  ·refine ai hit' fun o ho r=>?_;clear hit'
   exact⟨o,(Heap.get?_update_other _ _ hne).trans ho,r⟩
  ·refine ai hl' fun o ho r=>?_;clear hl'
   exact⟨o,(Heap.get?_update_other _ _ (Ne.symm hlS)).trans ho,r⟩
  ·exact hR h'' tk'' fun b o hb hbS e=>hk'' b o hb hbS ((Heap.get?_update_other _ _ (Ne.symm hbS)).trans ((hs.2 b hb).trans e))
 | false=>
  simp only [Bool.false_eq_true,if_false]
  refine wpAny_bind (wpAny_letGo ?_)
  rw [hname]
  refine wpAny_pure ⟨plainId_quiet F.plain_min_loop _,oU (v:=x) (c:=c) hh hne hl2 hit' hl' hS' fun h'' tk'' hk''=>?_⟩
  exact hR h'' tk'' fun b o hb hbS e=>hk'' b o hb hbS ((hs.2 b hb).trans e)
theorem iT{t:Bool}{s:Shared}{E:Value→Shared→Prop}{Q:Value→Shared→Prop}(hh:A.handled=none)(hl:s.heap.IsList l #[x,y])
 (hcmp:∀ h' (Q E:Value→Shared→Prop),(∀ b o,s.heap.get? b=some o→h'.get? b=some o)→Q (.bool t) { s with heap:=h'} →wpAny (model prog w) A.in1 (richCompare .Lt y x) Q E { s with heap:=h'})
 (hQ:∀ h' tk,(∀ b o,s.heap.get? b=some o→h'.get? b=some o)→Q (if t then y else x) { s with heap:=h',toks:=tk}):
 wpAny (model prog w) A (call (.builtin "min") [.ref l]) Q E s:=by
 have hname:(toString "min" ++toString ".loop" :String)= "min.loop" :=by decide
 refine call_function_tree F.kind_min F.plain_min F.entry_min (F.args_min1 _) ?_
 show wpAny _ A.in1 (Builtin.Builtins.bindParams "min" ["key","default"] 0 ⟨[],[]⟩>>=_) _ _ s
 refine wpAny_bind (wpAny_of_eq (show Builtin.Builtins.bindParams "min" ["key","default"] 0 ⟨[],[]⟩=pure [none,none]from rfl) ?_)
 refine wpAny_bind (wpAny_pure ?_)
 refine wpAny_bind (wpAny_pyIter_list hl ?_)
 refine wpAny_bind (wpAny_newObj_type ?_)
 rw [hname]
 refine ai (id hl) fun ol hol rl=>?_
 have hI:l≠s.heap.objs.size:=Nat.ne_of_lt (Heap.lt_size hol)
 have sz:(s.heap.push { cls:= .type "list_iterator",data:= .fields #[.ref l,.int 0 0]}).objs.size=s.heap.objs.size+1:=Heap.size_push ..
 have k1:∀ b o,s.heap.get? b=some o→(s.heap.push { cls:= .type "list_iterator",data:= .fields #[.ref l,.int 0 0]}).get? b=some o:=fun b o e=>Heap.get?_push_of_some _ e
 have hit0:(s.heap.push { cls:= .type "list_iterator",data:= .fields #[.ref l,.int 0 0]}).IsListIter s.heap.objs.size l 0:=⟨_,Heap.get?_push_size _ rfl,rfl,rfl⟩
 generalize s.heap.push { cls:= .type "list_iterator",data:= .fields #[.ref l,.int 0 0]} =h1 at sz k1 hit0
 have hSg:(h1.push { cls:= .type "list",data:= .seq ([]:List Value).toArray}).get? h1.objs.size=some { cls:= .type "list",data:= .seq ([]:List Value).toArray}:=Heap.get?_push_size _ rfl
 have hSI:h1.objs.size≠s.heap.objs.size:=by rw [sz];exact Nat.succ_ne_self _
 have hlS:l≠h1.objs.size:=by rw [sz];exact Nat.ne_of_lt (Nat.lt_succ_of_lt (Heap.lt_size hol))
 have k2:∀ b o,s.heap.get? b=some o→(h1.push { cls:= .type "list",data:= .seq ([]:List Value).toArray}).get? b=some o:=fun b o e=>Heap.get?_push_of_some _ (k1 b o e)
 have hit1:(h1.push { cls:= .type "list",data:= .seq ([]:List Value).toArray}).IsListIter s.heap.objs.size l 0:=by refine ai hit0 fun o ho r=>?_;clear hit0;exact⟨o,Heap.get?_push_of_some _ ho,r⟩
 refine wpAny_pure ⟨plainId_quiet F.plain_min_loop _,?_⟩
 have fresh:∀ b o,s.heap.get? b=some o→b≠s.heap.objs.size∧b≠h1.objs.size:=fun b o e=>⟨Nat.ne_of_lt (Heap.lt_size e),by rw [sz];exact Nat.ne_of_lt (Nat.lt_succ_of_lt (Heap.lt_size e))⟩
 generalize h1.objs.size=S at hSg hSI hlS fresh
 generalize h1.push { cls:= .type "list",data:= .seq ([]:List Value).toArray} =h2 at hSg k2 hit1
 have hl2:h2.IsList l #[x,y]:=⟨ol,k2 _ _ hol,rl⟩
 refine codeAny_builtin F.entry_min_loop ?_
 rw [Around.under_plainId F.plain_min_loop _]
 show wpAny _ A.in1 (seqItems? (.ref S)>>=_) _ _ _
 refine wpAny_bind (wpAny_seqItems hSg rfl ?_)
 show wpAny _ A.in1 (tryCatch (pyNext (.ref s.heap.objs.size)) _>>=_) _ _ _
 refine wpAny_bind (wpAny_tryCatch (wpAny_pyNext_list_item hit1 hl2 (x:=x) rfl fun h' hit' hs=>?_))
 have hS':=(hs.2 S hSI).trans hSg
 have hl':h'.IsList l #[x,y]:=⟨ol,(hs.2 l hI).trans (k2 _ _ hol),rl⟩
 show wpAny _ A.in1 (updateSeq S (fun _=> #[x,x])>>=_) _ _ _
 refine wpAny_bind ?_
 refine wpAny_updateSeq hS' rfl ?_
 rw [hname]
 have k3:∀ b o,s.heap.get? b=some o→(h'.update S (Obj.mapSeq fun _=> #[x,x])).get? b=some o:=fun b o e=>(Heap.get?_update_other _ _ (Ne.symm (fresh b o e).2)).trans ((hs.2 b (fresh b o e).1).trans (k2 b o e))
 refine wpAny_pure ⟨plainId_quiet F.plain_min_loop _,qP (x:=x) (y:=y) (t:=t) hh hSI hI hlS ?_ ?_ (fun h'' Q' E' hk hq=>?_) (Heap.get?_update_self _ hS' rfl) fun h'' tk'' hk''=>?_⟩
 ·refine ai hit' fun o ho r=>?_;clear hit'
  exact⟨o,(Heap.get?_update_other _ _ hSI).trans ho,r⟩
 ·exact⟨ol,k3 _ _ hol,rl⟩
 ·exact hcmp h'' Q' E' (fun b o e=>hk b o (fresh b o e).1 (fresh b o e).2 (k3 b o e)) hq
 ·exact hQ h'' tk'' fun b o e=>hk'' b o (fresh b o e).1 (fresh b o e).2 (k3 b o e)
theorem oV(hh:A.handled=none)(hne:S≠I)(hl2:l≠I){v:Value}{c:Nat}{s:Shared}(hit:s.heap.IsListIter I l 2)(hl:s.heap.IsList l #[x,y])
 (hS:s.heap.get? S=some { cls:= .type "list",dict:=none,data:= .seq #[v,v] c,slots:= #[]})
 (hR:∀ h' tk,(∀ b o,b≠I→b≠S→s.heap.get? b=some o→h'.get? b=some o)→R (.ok (.ret v)) { s with heap:=h',toks:=tk}):
 codeAny (model prog w) A (.builtin "max.loop" ⟨[.ref I,.none,.ref S],[]⟩) R s:=by
 refine codeAny_builtin F.entry_max_loop ?_
 rw [Around.under_plainId F.plain_max_loop _]
 show wpAny _ A.in1 (seqItems? (.ref S)>>=_) _ _ s
 refine wpAny_bind (wpAny_seqItems hS rfl ?_)
 show wpAny _ A.in1 (tryCatch (pyNext (.ref I)) _>>=_) _ _ s
 refine wpAny_bind (wpAny_tryCatch (wpAny_pyNext_list_end (A:=A.in1) hh hit hl rfl fun h' hk'=>?_))
 have hS':=hk' S _ hne hS
 show wpAny _ A.in1 (updateSeq S (fun _=> #[])>>=_) _ _ _
 refine wpAny_bind ?_
 refine wpAny_updateSeq hS' rfl (wpAny_bind (wpAny_letGo (wpAny_pure ?_)))
 exact hR _ s.toks fun b o hb hbS e=>(Heap.get?_update_other _ _ (Ne.symm hbS)).trans (hk' b o hb e)
theorem qQ(hh:A.handled=none)(hne:S≠I)(hl2:l≠I)(hlS:l≠S){c:Nat}{t:Bool}{s:Shared}(hit:s.heap.IsListIter I l 1)(hl:s.heap.IsList l #[x,y])
 (hcmp:∀ h' (Q E:Value→Shared→Prop),(∀ b o,b≠I→b≠S→s.heap.get? b=some o→h'.get? b=some o)→Q (.bool t) { s with heap:=h'} →wpAny (model prog w) A.in1 (richCompare .Gt y x) Q E { s with heap:=h'})
 (hS:s.heap.get? S=some { cls:= .type "list",dict:=none,data:= .seq #[x,x] c,slots:= #[]})
 (hR:∀ h' tk,(∀ b o,b≠I→b≠S→s.heap.get? b=some o→h'.get? b=some o)→R (.ok (.ret (if t then y else x))) { s with heap:=h',toks:=tk}):
 codeAny (model prog w) A (.builtin "max.loop" ⟨[.ref I,.none,.ref S],[]⟩) R s:=by
 have hname:(toString "max" ++toString ".loop" :String)= "max.loop" :=by decide
 refine codeAny_builtin F.entry_max_loop ?_
 rw [Around.under_plainId F.plain_max_loop _]
 show wpAny _ A.in1 (seqItems? (.ref S)>>=_) _ _ s
 refine wpAny_bind (wpAny_seqItems hS rfl ?_)
 show wpAny _ A.in1 (tryCatch (pyNext (.ref I)) _>>=_) _ _ s
 refine wpAny_bind (wpAny_tryCatch (wpAny_pyNext_list_item hit hl (x:=y) rfl fun h' hit' hs=>?_))
 have hS':=(hs.2 S hne).trans hS
 have hl':h'.IsList l #[x,y]:=by refine ai hl fun o ho r=>?_;clear hl;exact⟨o,(hs.2 l hl2).trans ho,r⟩
 show wpAny _ A.in1 (tryCatch (holding [y,y] (richCompare .Gt y x>>=_)) _>>=_) _ _ _
 refine wpAny_bind (wpAny_tryCatch (wpAny_holding (wpAny_bind (hcmp h' _ _ (fun b o hb _ e=>(hs.2 b hb).trans e) ?_))))
 refine wpAny_bind (wpAny_holding (wpAny_truthy_bool ?_))
 refine wpAny_bind (wpAny_letGo (wpAny_pure ?_))
 cases t with
 | true=>
  simp only [if_true]
  refine wpAny_bind ?_
  refine wpAny_updateSeq hS' rfl (wpAny_bind (wpAny_letGo ?_))
  rw [hname]
  refine wpAny_pure ⟨plainId_quiet F.plain_max_loop _,oV (x:=x) (y:=y) (v:=y) hh hne hl2 ?_ ?_ (Heap.get?_update_self _ hS' rfl) fun h'' tk'' hk''=>?_⟩
  ·refine ai hit' fun o ho r=>?_;clear hit'
   exact⟨o,(Heap.get?_update_other _ _ hne).trans ho,r⟩
  ·refine ai hl' fun o ho r=>?_;clear hl'
   exact⟨o,(Heap.get?_update_other _ _ (Ne.symm hlS)).trans ho,r⟩
  ·exact hR h'' tk'' fun b o hb hbS e=>hk'' b o hb hbS ((Heap.get?_update_other _ _ (Ne.symm hbS)).trans ((hs.2 b hb).trans e))
 | false=>
  simp only [Bool.false_eq_true,if_false]
  refine wpAny_bind (wpAny_letGo ?_)
  rw [hname]
  refine wpAny_pure ⟨plainId_quiet F.plain_max_loop _,oV (v:=x) (c:=c) hh hne hl2 hit' hl' hS' fun h'' tk'' hk''=>?_⟩
  exact hR h'' tk'' fun b o hb hbS e=>hk'' b o hb hbS ((hs.2 b hb).trans e)
theorem iU{t:Bool}{s:Shared}{E:Value→Shared→Prop}{Q:Value→Shared→Prop}(hh:A.handled=none)(hl:s.heap.IsList l #[x,y])
 (hcmp:∀ h' (Q E:Value→Shared→Prop),(∀ b o,s.heap.get? b=some o→h'.get? b=some o)→Q (.bool t) { s with heap:=h'} →wpAny (model prog w) A.in1 (richCompare .Gt y x) Q E { s with heap:=h'})
 (hQ:∀ h' tk,(∀ b o,s.heap.get? b=some o→h'.get? b=some o)→Q (if t then y else x) { s with heap:=h',toks:=tk}):
 wpAny (model prog w) A (call (.builtin "max") [.ref l]) Q E s:=by
 have hname:(toString "max" ++toString ".loop" :String)= "max.loop" :=by decide
 refine call_function_tree F.kind_max F.plain_max F.entry_max (F.args_max1 _) ?_
 show wpAny _ A.in1 (Builtin.Builtins.bindParams "max" ["key","default"] 0 ⟨[],[]⟩>>=_) _ _ s
 refine wpAny_bind (wpAny_of_eq (show Builtin.Builtins.bindParams "max" ["key","default"] 0 ⟨[],[]⟩=pure [none,none]from rfl) ?_)
 refine wpAny_bind (wpAny_pure ?_)
 refine wpAny_bind (wpAny_pyIter_list hl ?_)
 refine wpAny_bind (wpAny_newObj_type ?_)
 rw [hname]
 refine ai (id hl) fun ol hol rl=>?_
 have hI:l≠s.heap.objs.size:=Nat.ne_of_lt (Heap.lt_size hol)
 have sz:(s.heap.push { cls:= .type "list_iterator",data:= .fields #[.ref l,.int 0 0]}).objs.size=s.heap.objs.size+1:=Heap.size_push ..
 have k1:∀ b o,s.heap.get? b=some o→(s.heap.push { cls:= .type "list_iterator",data:= .fields #[.ref l,.int 0 0]}).get? b=some o:=fun b o e=>Heap.get?_push_of_some _ e
 have hit0:(s.heap.push { cls:= .type "list_iterator",data:= .fields #[.ref l,.int 0 0]}).IsListIter s.heap.objs.size l 0:=⟨_,Heap.get?_push_size _ rfl,rfl,rfl⟩
 generalize s.heap.push { cls:= .type "list_iterator",data:= .fields #[.ref l,.int 0 0]} =h1 at sz k1 hit0
 have hSg:(h1.push { cls:= .type "list",data:= .seq ([]:List Value).toArray}).get? h1.objs.size=some { cls:= .type "list",data:= .seq ([]:List Value).toArray}:=Heap.get?_push_size _ rfl
 have hSI:h1.objs.size≠s.heap.objs.size:=by rw [sz];exact Nat.succ_ne_self _
 have hlS:l≠h1.objs.size:=by rw [sz];exact Nat.ne_of_lt (Nat.lt_succ_of_lt (Heap.lt_size hol))
 have k2:∀ b o,s.heap.get? b=some o→(h1.push { cls:= .type "list",data:= .seq ([]:List Value).toArray}).get? b=some o:=fun b o e=>Heap.get?_push_of_some _ (k1 b o e)
 have hit1:(h1.push { cls:= .type "list",data:= .seq ([]:List Value).toArray}).IsListIter s.heap.objs.size l 0:=by refine ai hit0 fun o ho r=>?_;clear hit0;exact⟨o,Heap.get?_push_of_some _ ho,r⟩
 refine wpAny_pure ⟨plainId_quiet F.plain_max_loop _,?_⟩
 have fresh:∀ b o,s.heap.get? b=some o→b≠s.heap.objs.size∧b≠h1.objs.size:=fun b o e=>⟨Nat.ne_of_lt (Heap.lt_size e),by rw [sz];exact Nat.ne_of_lt (Nat.lt_succ_of_lt (Heap.lt_size e))⟩
 generalize h1.objs.size=S at hSg hSI hlS fresh
 generalize h1.push { cls:= .type "list",data:= .seq ([]:List Value).toArray} =h2 at hSg k2 hit1
 have hl2:h2.IsList l #[x,y]:=⟨ol,k2 _ _ hol,rl⟩
 refine codeAny_builtin F.entry_max_loop ?_
 rw [Around.under_plainId F.plain_max_loop _]
 show wpAny _ A.in1 (seqItems? (.ref S)>>=_) _ _ _
 refine wpAny_bind (wpAny_seqItems hSg rfl ?_)
 show wpAny _ A.in1 (tryCatch (pyNext (.ref s.heap.objs.size)) _>>=_) _ _ _
 refine wpAny_bind (wpAny_tryCatch (wpAny_pyNext_list_item hit1 hl2 (x:=x) rfl fun h' hit' hs=>?_))
 have hS':=(hs.2 S hSI).trans hSg
 have hl':h'.IsList l #[x,y]:=⟨ol,(hs.2 l hI).trans (k2 _ _ hol),rl⟩
 show wpAny _ A.in1 (updateSeq S (fun _=> #[x,x])>>=_) _ _ _
 refine wpAny_bind ?_
 refine wpAny_updateSeq hS' rfl ?_
 rw [hname]
 have k3:∀ b o,s.heap.get? b=some o→(h'.update S (Obj.mapSeq fun _=> #[x,x])).get? b=some o:=fun b o e=>(Heap.get?_update_other _ _ (Ne.symm (fresh b o e).2)).trans ((hs.2 b (fresh b o e).1).trans (k2 b o e))
 refine wpAny_pure ⟨plainId_quiet F.plain_max_loop _,qQ (x:=x) (y:=y) (t:=t) hh hSI hI hlS ?_ ?_ (fun h'' Q' E' hk hq=>?_) (Heap.get?_update_self _ hS' rfl) fun h'' tk'' hk''=>?_⟩
 ·refine ai hit' fun o ho r=>?_;clear hit'
  exact⟨o,(Heap.get?_update_other _ _ hSI).trans ho,r⟩
 ·exact⟨ol,k3 _ _ hol,rl⟩
 ·exact hcmp h'' Q' E' (fun b o e=>hk b o (fresh b o e).1 (fresh b o e).2 (k3 b o e)) hq
 ·exact hQ h'' tk'' fun b o e=>hk'' b o (fresh b o e).1 (fresh b o e).2 (k3 b o e)
end
section
variable {D:Wd}{A:Around}{L:Addr}{σ:St}{Q:Value→St→Prop}{l a b:Addr}{xs ys:List Str}
theorem F.minLists(hh:A.handled=none)(hu:A.units+10<cLine)(hl:σ.H l=some (.list [.ref a,.ref b]))(ha:σ.H a=some (.list (ag xs)))(hb:σ.H b=some (.list (ag ys)))
 (h:Q (.ref (if ltL ys xs then b else a)) σ):Cb D A L "min" [.ref l] Q σ:=fun vs' e Φ s R=>by
 refine d7 e fun v1 e1=>?_;refine aV e1 ?_
 refine ai (R.listOf hl) fun its hi ei=>?_
 refine b6 (R.listAt ha) fun its1 n1 ho1 ei1=>?_
 refine b6 (R.listAt hb) fun its2 n2 ho2 ei2=>?_
 have hits:its= #[.ref a,.ref b]:=by
  obtain⟨li⟩:=its
  match li,ei with
  | [x,y],ei=>
   simp only [List.map_cons,List.map_nil,List.cons.injEq,and_true]at ei
   rw [al ei.1,al ei.2]
  | [],ei=>simp at ei
  | [_],ei=>simp at ei
  | _::_::_::_,ei=>simp at ei
 subst hits
 refine iT (t:=ltL ys xs) hh hi (fun h' Q' E' hk hq=>?_) (fun h' tk hk=>⟨σ,R.ext hk,?_⟩)
 ·exact richCompare_meets_room (op:= .Lt) ⟨_,hk _ _ ho2,rfl⟩ ⟨_,hk _ _ ho1,rfl⟩ PySem.F.slot_list_lt PySem.F.entry_list_lt (PySem.F.args_list_lt_2 _ _) (pD b a its2 its1 n2 n1 ys xs ei2 ei1) ⟨hk _ _ ho2,hk _ _ ho1,by simp,hq⟩ (by show A.units+1<cLine;exact vM hu)
 ·show Q (er (if ltL ys xs=true then Value.ref b else Value.ref a)) σ
  cases hq:ltL ys xs<;> rw [hq]at h<;> exact h
theorem F.maxLists(hh:A.handled=none)(hu:A.units+10<cLine)(hl:σ.H l=some (.list [.ref a,.ref b]))(ha:σ.H a=some (.list (ag xs)))(hb:σ.H b=some (.list (ag ys)))
 (h:Q (.ref (if ltL xs ys then b else a)) σ):Cb D A L "max" [.ref l] Q σ:=fun vs' e Φ s R=>by
 refine d7 e fun v1 e1=>?_;refine aV e1 ?_
 refine ai (R.listOf hl) fun its hi ei=>?_
 refine b6 (R.listAt ha) fun its1 n1 ho1 ei1=>?_
 refine b6 (R.listAt hb) fun its2 n2 ho2 ei2=>?_
 have hits:its= #[.ref a,.ref b]:=by
  obtain⟨li⟩:=its
  match li,ei with
  | [x,y],ei=>
   simp only [List.map_cons,List.map_nil,List.cons.injEq,and_true]at ei
   rw [al ei.1,al ei.2]
  | [],ei=>simp at ei
  | [_],ei=>simp at ei
  | _::_::_::_,ei=>simp at ei
 subst hits
 refine iU (t:=ltL xs ys) hh hi (fun h' Q' E' hk hq=>?_) (fun h' tk hk=>⟨σ,R.ext hk,?_⟩)
 ·exact richCompare_meets_room (op:= .Gt) ⟨_,hk _ _ ho2,rfl⟩ ⟨_,hk _ _ ho1,rfl⟩ PySem.F.slot_list_gt PySem.F.entry_list_gt (PySem.F.args_list_gt_2 _ _) (pE b a its2 its1 n2 n1 ys xs ei2 ei1) ⟨hk _ _ ho2,hk _ _ ho1,by simp,hq⟩ (by show A.units+1<cLine;exact vM hu)
 ·show Q (er (if ltL xs ys=true then Value.ref b else Value.ref a)) σ
  cases hq:ltL xs ys<;> rw [hq]at h<;> exact h
end
end Mine
end
section
open PySem PySem.W PyProof.Rows PySem.Calls PySem.SeqAt
open AutoSeq1 (wpAny_loadPart')
namespace Mine
noncomputable def cJ(tp:Addr)(f:Value):Obj:={ cls:= .type "map",data:= .fields #[.ref tp,f]}
theorem jp:Manifest.owners.lookup (String.ofList ['p','a','m'].reverse)=some Manifest.sig_map:=by kernel_rfl
theorem mO:mroOf (.type "map")=pure [.type "map",.type "object"]:=by rw [mroOf_type];kernel_rfl
theorem gA:typeLookup (.type "map") "__new__" =pure (some (.builtin "map.__new__")):=by rw [typeLookup_type,builtinLookup_eq_fast];kernel_rfl
theorem iq:Slot "map" "__init__" "object.__init__" :=
 .of (owner:= "object") (n:= "__init__") (by rw [typeLookup_type,builtinLookup_eq_fast];kernel_rfl) (by decide+kernel) (by decide+kernel) (by decide+kernel)
  (by first | exact .inl (by decide+kernel) | exact .inr (by decide+kernel)) (by rw [isSubtype_type];kernel_rfl)
theorem slot_map_next:Slot "map" "__next__" "map.__next__" :=
 .of (owner:= "map") (n:= "__next__") (by rw [typeLookup_type,builtinLookup_eq_fast];kernel_rfl) (by decide+kernel) (by decide+kernel) (by decide+kernel)
  (by first | exact .inl (by decide+kernel) | exact .inr (by decide+kernel)) (by rw [isSubtype_type];kernel_rfl)
theorem dT:Slot "map" "__iter__" "map.__iter__" :=
 .of (owner:= "map") (n:= "__iter__") (by rw [typeLookup_type,builtinLookup_eq_fast];kernel_rfl) (by decide+kernel) (by decide+kernel) (by decide+kernel)
  (by first | exact .inl (by decide+kernel) | exact .inr (by decide+kernel)) (by rw [isSubtype_type];kernel_rfl)
theorem iG:entryFor table "map.__new__" =some Builtin.«map.__new__» :=entryFor_of_tree (by kernel_rfl)
theorem dD:entryFor table "map.__next__" =some Builtin.«map.__next__» :=entryFor_of_tree (by kernel_rfl)
theorem gC:entryFor table "map.__iter__" =some Builtin.«dict_keyiterator.__iter__» :=
 entryFor_alias (id':= "dict_keyiterator.__iter__") (by kernel_rfl) (by first | rfl | decide+kernel | (unfold String.splitOn;simp +decide [String.splitOnAux])) (by decide+kernel) (by kernel_rfl)
theorem dj(a:Value):argsOk "map.__next__" ⟨[a],[]⟩:=by
 unfold argsOk;rw [signature?_of (id:= "map.__next__") (n:= ['_','_','t','x','e','n','_','_']) (o:= ['p','a','m']) (by kernel_rfl) jp];kernel_rfl
theorem gq(a:Value):argsOk "map.__iter__" ⟨[a],[]⟩:=by
 unfold argsOk;rw [signature?_of (id:= "map.__iter__") (n:= ['_','_','r','e','t','i','_','_']) (o:= ['p','a','m']) (by kernel_rfl) jp];kernel_rfl
theorem called_map:TypeCalled "map" "map.__new__" "object.__init__" :=
 ⟨by decide+kernel,by decide+kernel,⟨_,_,mO⟩,madeBy_type mO gA (by decide+kernel),by decide+kernel,by rw [isSubtype_type];kernel_rfl,iq⟩
theorem gy(a b:Value):checkTypeCall "map" ⟨[a,b],[]⟩=pure ():=by kernel_rfl
theorem i0(a b:Value):checkBuiltinCall "map.__new__" ⟨[.type "map",a,b],[]⟩=pure ():=by kernel_rfl
theorem lR:typeLookup (.type "map") "__len__" =pure none:=by rw [typeLookup_type,builtinLookup_eq_fast];kernel_rfl
theorem jZ:typeLookup (.type "map") "__length_hint__" =pure none:=by rw [typeLookup_type,builtinLookup_eq_fast];kernel_rfl
theorem i5(f:Value)(l:Addr)(items:Array Value)(n:Nat):
 Meets (Builtin.«map.__new__» ⟨[.type "map",f,.ref l],[]⟩) (fun _ R s=>s.heap.get? l=some { cls:= .type "list",dict:=none,data:= .seq items n,slots:= #[]} ∧
  R (.ok (.ret (.ref ((s.heap.push { cls:= .type "list_iterator",data:= .fields #[.ref l,.int 0 0]}).push { cls:= .type "tuple",data:= .seq #[.ref s.heap.objs.size]}).objs.size))) { s with heap:=((s.heap.push { cls:= .type "list_iterator",data:= .fields #[.ref l,.int 0 0]}).push { cls:= .type "tuple",data:= .seq #[.ref s.heap.objs.size]}).push (cJ (s.heap.push { cls:= .type "list_iterator",data:= .fields #[.ref l,.int 0 0]}).objs.size f)}):=
 .of_wp fun prog w A R s h=>by
  obtain⟨hp,g,d,tk,os⟩:=s;obtain⟨hl,h⟩:=h
  have hsub:=called_map.sub
  have hL:Heap.IsList (Shared.heap ⟨hp,g,d,tk,os⟩) l items:=⟨_,hl,rfl,n,rfl⟩
  wp_walk using wpAny_loadPart' hl,wpAny_pyIter_list hL
  exact⟨_,rfl,h⟩
section
variable {prog:Program}{w:World}{A:Around}{E:Value→Shared→Prop}{s:Shared}{m tp it l:Addr}{f x:Value}{i n:Nat}{items:Array Value}{Q:Value→Shared→Prop}
theorem i7(hm:s.heap.get? m=some (cJ tp f))(htp:s.heap.get? tp=some { cls:= .type "tuple",dict:=none,data:= .seq #[.ref it] n,slots:= #[]})(hit:s.heap.IsListIter it l i)(hl:s.heap.IsList l items)(hx:items[i]?=some x)(hne:m≠it)
 (h:∀ h',h'.IsListIter it l (i+1)→Heap.SameBut it s.heap h'→wpAny (model prog w) A (call f [x]) Q E { s with heap:=h'}):
 wpAny (model prog w) A (Builtin.«map.__next__» ⟨[.ref m],[]⟩) (fun fin s'=> ∃ v,fin= .done (.ret v)∧Q v s') E s:=by
 obtain⟨hp,g,d,tk,os⟩:=s
 show wpAny _ _ (field (.ref m) 0>>=_) _ _ _
 refine wpAny_bind (wpAny_field hm rfl (x:= .ref tp) rfl ?_)
 show wpAny _ _ (seqItems? (.ref tp)>>=_) _ _ _
 refine wpAny_bind (wpAny_seqItems htp rfl ?_)
 dsimp only
 simp only [Array.forIn_toList.symm,List.forIn_cons,List.forIn_nil]
 refine wpAny_bind (wpAny_bind (wpAny_bind (wpAny_holding (wpAny_nextOf_list_item hit hl hx fun h₁ hit₁ hs₁=>?_))))
 refine wpAny_pure (wpAny_pure ?_)
 have hm₁:h₁.get? m=some (cJ tp f):=(hs₁.2 m hne).trans hm
 refine wpAny_bind (wpAny_field hm₁ rfl (x:=f) rfl ?_)
 exact wpAny_bind (wpAny_holding (wpAny_mono (h h₁ hit₁ hs₁) (fun v s' q=>wpAny_bind (wpAny_letGo (wpAny_pure ⟨v,rfl,q⟩))) fun _ _ e=>e))
theorem fK{Q:Option Value→Shared→Prop}(hm:s.heap.get? m=some (cJ tp f))(htp:s.heap.get? tp=some { cls:= .type "tuple",dict:=none,data:= .seq #[.ref it] n,slots:= #[]})(hit:s.heap.IsListIter it l i)(hl:s.heap.IsList l items)(hx:items[i]?=some x)(hne:m≠it)
 (h:∀ h',h'.IsListIter it l (i+1)→Heap.SameBut it s.heap h'→wpAny (model prog w) A.in1 (call f [x]) (fun v s'=>Q (some v) s') (fun _ _=>False) { s with heap:=h'}):
 wpAny (model prog w) A (pyNext (.ref m)) Q E s:=by
 have hT:s.TypeIs (.ref m) "map" :=⟨_,hm,rfl⟩
 unfold pyNext
 exact wpAny_bind (wpAny_attempt (wpAny_callSpecial?_slot (name:=Str.ofString "__next__") hT slot_map_next
  (wpAny_call_entry slot_map_next hT dD
   (wpAny_mono (i7 hm htp hit hl hx hne fun h' a b=>wpAny_mono (h h' a b) (fun v s' q=>(wpAny_pure q:wpAny _ _ _ _ _ _)) fun _ _ x=>x.elim) (fun _ _ x=>x) fun _ _ x=>x) (dj _))))
theorem gz{Q:Option Value→Shared→Prop}(hh:A.handled=none)(hm:s.heap.get? m=some (cJ tp f))(htp:s.heap.get? tp=some { cls:= .type "tuple",dict:=none,data:= .seq #[.ref it] n,slots:= #[]})(hit:s.heap.IsListIter it l i)(hl:s.heap.IsList l items)(hx:items[i]?=none)
 (hQ:∀ h',Heap.ExtBut it s.heap h'→Q none { s with heap:=h'}):
 wpAny (model prog w) A (pyNext (.ref m)) Q E s:=by
 have hT:s.TypeIs (.ref m) "map" :=⟨_,hm,rfl⟩
 unfold pyNext
 refine wpAny_bind (wpAny_attempt (wpAny_callSpecial?_slot (name:=Str.ofString "__next__") hT slot_map_next
  (wpAny_call_entry slot_map_next hT dD ?_ (dj _))))
 show wpAny _ _ (field (.ref m) 0>>=_) _ _ _
 refine wpAny_bind (wpAny_field hm rfl (x:= .ref tp) rfl ?_)
 show wpAny _ _ (seqItems? (.ref tp)>>=_) _ _ _
 refine wpAny_bind (wpAny_seqItems htp rfl ?_)
 dsimp only
 simp only [Array.forIn_toList.symm,List.forIn_cons,List.forIn_nil]
 refine wpAny_bind (wpAny_bind (wpAny_bind (wpAny_holding (wpAny_nextOf_list_end hh hit hl hx fun h' e he' hx'=>?_))))
 refine ai hx' fun o ho hc=>?_;clear hx'
 refine wpAny_bind (wpAny_isInstance (T:= "StopIteration") (b:=true) ⟨o,ho,hc⟩ isSubtype_stop ?_)
 exact wpAny_pure (hQ _ he')
end
end Mine
end
section
open PySem PySem.W PyProof.Rows PySem.Calls PySem.SeqAt
namespace Mine
theorem Ok.in1{A:Around}{n:Nat}(x:Ok A (n+1)):Ok A.in1 n:=⟨by have:=x.depth;show A.depth+n<900;exact wK this,by have:=x.units;show A.units+1+20*n<9000;exact vP this,x.hand⟩
section
variable {D:Wd}{A:Around}{R:Result→Shared→Prop}{m tp it l S:Addr}{xs:List Str}{Φ:Frz}
noncomputable def nS(l:Addr)(i:Nat):AO:= .sat fun _ o=>o.cls= .type "list_iterator" ∧o.data= .fields #[.ref l,.int (i:Nat) 0]
structure MapSt (H:AH) (m tp it l:Addr) (xs:List Str) (i:Nat):Prop where
 m:H m=some (.raw (cJ tp (.ref 94)))
 tp:H tp=some (.tuple [.ref it])
 it:H it=some (nS l i)
 l:H l=some (.list (ag xs))
theorem lZ(hA:Ok A 7)(res:Value)(hn:xs.length≤1000):∀ (k i:Nat) (H:AH) (s:Shared) (acc:Array Value) (c:Nat),xs.length-i=k→i≤xs.length→Rel0 D Φ H s→MapSt H m tp it l xs i→H S=none→Φ S=none→
 s.heap.get? S=some { cls:= .type "list",dict:=none,data:= .seq acc c,slots:= #[]} →acc.toList.map er=ag (xs.take i)→
 (∀ H' s' acc' c',Rel0 D Φ H' s'→Ext (del H it) H'→H' S=none→s'.heap.get? S=some { cls:= .type "list",dict:=none,data:= .seq acc' c',slots:= #[]} →acc'.toList.map er=ag xs→R (.ok (.ret res)) s')→
 codeAny (model PR D.w) A (.builtin "list.extend.loop" ⟨[.ref S,.ref m,res],[]⟩) R s:=by
 intro k
 induction k with
 | zero=>
  intro i H s acc c hk hi R0 M hHS hFS hS hacc hR
  obtain rfl:i=xs.length:=by exact wJ hk hi
  refine codeAny_builtin F.entry_extend_loop ?_
  rw [Around.under_plainId F.plain_extend_loop _]
  show wpAny _ A.in1 (pyNext (.ref m)>>=_) _ _ s
  refine ai ((R0.obj _ _ M.m).2) fun om hom h2_=>?_;obtain rfl:=h2_
  refine bz ((R0.obj _ _ M.tp).2) fun ot hot itp ntp h4_ etp=>?_;obtain rfl:=h4_
  refine aR ((R0.obj _ _ M.it).2) fun oi hoi ci di=>?_
  refine ai (R0.listOf M.l) fun its hil ei=>?_
  have etp':itp= #[.ref it]:=by
   obtain⟨q⟩:=itp
   match q,etp with
   | [x],etp=>simp only [List.map_cons,List.map_nil,List.cons.injEq,and_true]at etp;rw [al etp]
   | [],etp=>simp at etp
   | _::_::_,etp=>simp at etp
  subst etp'
  have hne:S≠it:=fun e=>by rw [e,M.it]at hHS;cases hHS
  refine wpAny_bind (gz (i:=xs.length) (A:=A.in1) hA.hand hom hot ⟨_,hoi,ci,di⟩ hil (cT ei (by rw [ae];exact Nat.le_refl _)) fun h' he=>?_)
  have hit:Φ it=none:=(R0.obj _ _ M.it).1
  have R1:Rel0 D Φ (del H it) { s with heap:=h'}:=by
   have R':=R0.mono (H':=del H it) fun a o e=>by
    by_cases q:a=it
    ·subst q;rw [b7]at e;cases e
    ·rw [ay q]at e;exact e
   exact R'.hid (fp:= [it]) (t:=s.toks) (fun b hb=>by rw [List.mem_singleton.mp hb];exact⟨hit,b7 _ _⟩) fun b o hb e=>he b o (fun q=>hb (List.mem_singleton.mpr q)) e
  refine wpAny_pure (hR (del H it) _ acc c R1 (Ext.refl _) (by rw [ay hne];exact hHS) (he S _ hne hS) ?_)
  rw [List.take_length]at hacc;exact hacc
 | succ k ih=>
  intro i H s acc c hk hi R0 M hHS hFS hS hacc hR
  have hlt:i<xs.length:=by exact uw hk
  refine codeAny_builtin F.entry_extend_loop ?_
  rw [Around.under_plainId F.plain_extend_loop _]
  show wpAny _ A.in1 (pyNext (.ref m)>>=_) _ _ s
  refine ai ((R0.obj _ _ M.m).2) fun om hom h2_=>?_;obtain rfl:=h2_
  refine bz ((R0.obj _ _ M.tp).2) fun ot hot itp ntp h4_ etp=>?_;obtain rfl:=h4_
  refine aR ((R0.obj _ _ M.it).2) fun oi hoi ci di=>?_
  refine ai (R0.listOf M.l) fun its hil ei=>?_
  have etp':itp= #[.ref it]:=by
   obtain⟨q⟩:=itp
   match q,etp with
   | [x],etp=>simp only [List.map_cons,List.map_nil,List.cons.injEq,and_true]at etp;rw [al etp]
   | [],etp=>simp at etp
   | _::_::_,etp=>simp at etp
  subst etp'
  have hne:S≠it:=fun e=>by rw [e,M.it]at hHS;cases hHS
  have hmi:m≠it:=be M.m M.it (by simp [nS])
  have hti:tp≠it:=be M.tp M.it (by simp [nS])
  have hli:l≠it:=be M.l M.it (by simp [nS])
  refine ai (bj (k:=i) ei (by rw [ae];exact hlt)) fun x hx ex=>?_
  rw [bR hlt]at ex
  have hid:Hid Φ H [S]:=fun b hb=>by rw [List.mem_singleton.mp hb];exact⟨hFS,hHS⟩
  refine wpAny_bind (fK hom hot ⟨_,hoi,ci,di⟩ hil hx hmi fun h' hit' hs=>?_)
  refine aR hit' fun o' ho' hc' hd'=>?_;clear hit'
  have hat:At D.w h' it (nS l (i+1)):=⟨o',ho',hc',by rw [hd']⟩
  have R1:=(R0.hideL hid).update (t:=s.toks) M.it (fun b o hb e=>(hs.2 b hb).trans e) hat
  refine wpAny_call (codeAny_mono (cg (hA.in1.in1.mono (by decide)) ex _ _ R1) fun r s'=>cG fun v H' er' R2 eH ev=>?_)
  subst er'
  refine aE (R2.unhideL R0.base (fun b hb=>(hid b hb).1) (fun b hb=>by rw [List.mem_singleton.mp hb];exact⟨_,hS⟩)) fun R3 hid3 kS=>?_
  have hS':=kS S (.head _) _ hS
  show wpAny _ A.in1 (updateSeq S (·.push v)>>=_) _ _ _
  have hsz:acc.size=i:=by have:=congrArg List.length hacc;simp at this;exact wI this hlt
  have hl':1000≤sizeLine:=by decide
  refine wpAny_bind ?_
  refine wpAny_updateSeq hS' rfl (wpAny_pure ⟨plainId_quiet F.plain_extend_loop _,ih (i+1) H' _ (acc.push v) _ (by exact ub hk) hlt (R3.hid (t:=s'.toks) hid3 fun b o hb e=>(Heap.get?_update_other _ _ (Ne.symm fun q=>hb (List.mem_singleton.mpr q))).trans e) ?_ (hid3 S (.head _)).2 hFS (Heap.get?_update_self _ hS' rfl) ?_ fun H'' s'' acc' c' a1 a2 a3 a4 a5=>?_⟩) (by exact wH hl' hsz hlt hn) (by show(acc.push v).size≤sizeLine+1;rw [Array.size_push];exact wG hl' hsz hlt hn)
  ·exact⟨eH _ _ ((af hmi).trans M.m),eH _ _ ((af hti).trans M.tp),eH _ _ (ah ..),eH _ _ ((af hli).trans M.l)⟩
  ·rw [Array.toList_push,List.map_append,hacc,List.map_cons,List.map_nil,ev,br hlt,← bk]
   simp [ag,List.getD,hlt]
  ·refine hR H'' s'' acc' c' a1 (fun b o e=>a2 b o ?_) a3 a4 a5
   have hb:b≠it:=fun q=>by rw [q,b7]at e;cases e
   rw [ay hb]at e ⊢
   exact eH _ _ ((af hb).trans e)
end
section
variable {D:Wd}{A:Around}{m tp it l:Addr}{xs:List Str}{Φ:Frz}{H:AH}{s:Shared}
theorem lN{prog:Program}{w:World}{E:Value→Shared→Prop}{Q:Value→Shared→Prop}(hT:s.TypeIs (.ref m) "map")(h:Q (.ref m) s):wpAny (model prog w) A (pyIter (.ref m)) Q E s:=by
 refine wpAny_pyIter_slot hT dT (wpAny_call_entry dT hT gC ?_ (gq _))
 show wpAny _ _ (ret (.ref m)) _ _ s
 exact wpAny_pure ⟨_,rfl,"map",_,hT,slot_map_next.lookup,h⟩
theorem kB(hA:Ok A 7)(hn:xs.length≤1000)(R0:Rel0 D Φ H s)(M:MapSt H m tp it l xs 0):
 wpAny (model PR D.w) A (collect (.ref m)) (fun vs s'=> ∃ H',Rel0 D Φ H' s'∧Ext (del H it) H'∧vs.map er=ag xs) (fun _ _=>False) s:=by
 refine ai ((R0.obj _ _ M.m).2) fun om hom h2_=>?_;obtain rfl:=h2_
 have hTm:∀ (h':Heap),(∀ b o,s.heap.get? b=some o→h'.get? b=some o)→({ s with heap:=h'}:Shared).TypeIs (.ref m) "map" :=fun h' k=>⟨_,k _ _ hom,rfl⟩
 have hHS:H s.heap.objs.size=none:=R0.ge _ (Nat.le_refl _)
 have hFS:Φ s.heap.objs.size=none:=R0.geF _ (Nat.le_refl _)
 have hSm:s.heap.objs.size≠m:=fun e=>by rw [e,M.m]at hHS;cases hHS
 unfold collect
 refine wpAny_bind (wpAny_runValue (codeAny_builtin F.entry_proto_collect ?_))
 rw [Around.under_plainId F.plain_proto_collect _]
 show wpAny _ A.in1 (newList []>>=fun l=>again (.builtin "list.__iadd__" ⟨[l,.ref m],[]⟩)) _ _ s
 refine wpAny_bind (wpAny_newObj_type ?_)
 refine wpAny_pure ⟨plainId_quiet F.plain_list_iadd _,codeAny_builtin F.entry_list_iadd ?_⟩
 rw [Around.under_plainId F.plain_list_iadd _]
 have k1:∀ b o,s.heap.get? b=some o→(s.heap.push { cls:= .type "list",data:= .seq ([]:List Value).toArray}).get? b=some o:=fun b o e=>Heap.get?_push_of_some _ e
 show wpAny _ A.in1 (Builtin.List.listExtendWith (.ref s.heap.objs.size) (.ref m) (.ref s.heap.objs.size)) _ _ _
 unfold Builtin.List.listExtendWith
 refine wpAny_bind (wpAny_typeOf (hTm _ k1) ?_)
 have h1:Builtin.List.listSameRef (.ref s.heap.objs.size) (.ref m)=false:=by simp [Builtin.List.listSameRef,hSm]
 have h2:(Value.type "map" ==Value.type "list")=false:=by decide
 have h3:(Value.type "map" ==Value.type "tuple")=false:=by decide
 simp only [h1,h2,h3,Bool.or_false,Bool.false_eq_true,if_false]
 refine wpAny_bind (lN (hTm _ k1) ?_)
 refine wpAny_bind (wpAny_holding ?_)
 unfold Builtin.List.listLengthHint
 refine wpAny_bind (wpAny_specialOf (hTm _ k1) lR ?_)
 show wpAny _ A.in1 (specialOf (Value.ref m) (Str.ofString "__length_hint__")>>=_) _ _ _
 refine wpAny_bind (wpAny_specialOf (hTm _ k1) jZ ?_)
 refine wpAny_pure ?_
 show wpAny _ A.in1 (rule "list.extend.makes-room" >>=fun _=>Builtin.List.listTouch (.ref s.heap.objs.size)>>=fun _=>
  again (.builtin "list.extend.loop" ⟨[.ref s.heap.objs.size,.ref m,.ref s.heap.objs.size],[]⟩)) _ _ _
 refine wpAny_bind (wpAny_rule ?_)
 have hS₁:(s.heap.push { cls:= .type "list",data:= .seq ([]:List Value).toArray}).get? s.heap.objs.size=some { cls:= .type "list",data:= .seq ([]:List Value).toArray}:=Heap.get?_push_size _ rfl
 refine wpAny_bind ?_
 show wpAny _ A.in1 (updateSeq s.heap.objs.size (·.push .none)>>=fun _=>updateSeq s.heap.objs.size (·.pop)) _ _ _
 refine wpAny_bind (wpAny_updateSeq hS₁ rfl ?_)
 have hS₂:=Heap.get?_update_self (Obj.mapSeq (·.push Value.none)) hS₁ rfl
 refine wpAny_updateSeq hS₂ rfl ?_
 have hS₃:=Heap.get?_update_self (Obj.mapSeq (·.pop)) hS₂ rfl
 have oth:∀ b o,b≠s.heap.objs.size→(s.heap.push { cls:= .type "list",data:= .seq ([]:List Value).toArray}).get? b=some o→
  (((s.heap.push { cls:= .type "list",data:= .seq ([]:List Value).toArray}).update s.heap.objs.size (Obj.mapSeq (·.push Value.none))).update s.heap.objs.size (Obj.mapSeq (·.pop))).get? b=some o:=
  fun b o hb e=>(Heap.get?_update_other _ _ (Ne.symm hb)).trans ((Heap.get?_update_other _ _ (Ne.symm hb)).trans e)
 have R1:=R0.ext (t:=s.toks) (h':=((s.heap.push { cls:= .type "list",data:= .seq ([]:List Value).toArray}).update s.heap.objs.size (Obj.mapSeq (·.push Value.none))).update s.heap.objs.size (Obj.mapSeq (·.pop))) fun b o e=>oth b o (Nat.ne_of_lt (Heap.lt_size e)) (k1 b o e)
 refine wpAny_pure ⟨plainId_quiet F.plain_extend_loop _,lZ hA _ hn xs.length 0 H _ _ _ (by exact wF) (Nat.zero_le _) R1 M hHS hFS hS₃ rfl fun H' s' acc' c' a1 a2 a3 a4 a5=>?_⟩
 show wpAny _ A (load s.heap.objs.size>>=_) _ _ s'
 refine wpAny_bind (wpAny_load a4 ?_)
 exact wpAny_pure ⟨H',a1,a2,a5⟩
theorem jF{Q:List Value→Shared→Prop}{E:Value→Shared→Prop}(hA:Ok A 7)(hn:xs.length≤1000)(R0:Rel0 D Φ H s)(M:MapSt H m tp it l xs 0)
 (h:∀ vs s',(∃ H',Rel0 D Φ H' s'∧Ext (del H it) H'∧vs.map er=ag xs)→Q vs s'):wpAny (model PR D.w) A (collect (.ref m)) Q E s:=
 wpAny_mono (kB hA hn R0 M) h fun _ _ x=>x.elim
theorem gH{Q₁:Value→Shared→Prop}{E:Value→Shared→Prop}(hA:Ok A 9)(hn:xs.length≤1000)(R0:Rel0 D Φ H s)(M:MapSt H m tp it l xs 0)
 (h:∀ H' s',Rel0 D Φ H' s'→ ∀ a,(∃ H0,Ext (del H it) H0∧H0 a=none∧H'=upd H0 a (.tuple (ag xs)))→Q₁ (.ref a) s'):
 codeAny (model PR D.w) A (.call (.builtin "tuple.__new__") ⟨[.type "tuple",.ref m],[]⟩) (wants Q₁ E) s:=by
 refine codeAny_of_tree ?_
 show wpAny _ A.in1 (do checkBuiltinCall "tuple.__new__" ⟨[.type "tuple",.ref m],[]⟩;again (.builtin "tuple.__new__" ⟨[.type "tuple",.ref m],[]⟩)) _ _ s
 refine wpAny_bind (wpAny_of_eq (F.newCall_tuple_1 _) (wpAny_pure ⟨plainId_quiet F.plain_tuple_new _,codeAny_builtin F.entry_tuple_new ?_⟩))
 rw [Around.under_plainId F.plain_tuple_new _]
 refine ai ((R0.obj _ _ M.m).2) fun om hom h2_=>?_;obtain rfl:=h2_
 have hsub:=sub_tuple_self
 have hinit:=init_tuple_lookup
 have hmh:=madeHere_tuple
 have hTI:s.TypeIs (.ref m) "map" :=⟨_,hom,rfl⟩
 wp_walk using wpAny_typeOf hTI,jF (hA.in1.mono (by decide)) hn R0 M
 rintro vs s' h2_;refine aR h2_ fun H' R1 eH ev=>?_;clear h2_
 show wpAny _ _ (Builtin.Tuple.tupleExact vs.toArray>>=fun v=>ret v) _ _ _
 unfold Builtin.Tuple.tupleExact
 have hvl:vs.length≤1000:=by have:=congrArg List.length ev;simp at this;exact wE this hn
 refine wpAny_bind (wpAny_newObj_type ?_ (by show vs.toArray.size≤sizeLine;rw [List.size_toArray];exact aq hvl))
 refine wpAny_pure ?_
 refine h (upd H' s'.heap.objs.size (.tuple (ag xs))) _ (R1.alloc (t:=s'.toks) (Nat.le_refl _) (fun b o e=>Heap.get?_push_of_some _ e) ⟨_,Heap.get?_push_size _ rfl,_,_,rfl,by simpa using ev⟩) _ ⟨H',eH,R1.ge _ (Nat.le_refl _),rfl⟩
end
end Mine
end
section
open PySem PySem.W PyProof.Rows PySem.Calls PySem.SeqAt
namespace Mine
section
variable {D:Wd}{A:Around}{L:Addr}{σ:St}{m tp it l:Addr}{xs:List Str}{Q:Value→St→Prop}
theorem F.mapNew{vs:List Value}(hl:σ.H l=some (.list vs))(h:∀ it tp m,σ.H it=none→σ.H tp=none→σ.H m=none→it≠tp→it≠m→tp≠m→
 Q (.ref m) ⟨σ.loc,upd (upd (upd σ.H it (nS l 0)) tp (.tuple [.ref it])) m (.raw (cJ tp (.ref 94)))⟩):Ct D A L "map" [.ref 94,.ref l] Q σ:=fun vs' e Φ s R=>by
 refine eA e fun v1 e1 v2 e2=>?_;refine aV e1 ?_;refine aV e2 ?_
 refine b6 (R.listAt hl) fun its n ho ei=>?_
 refine callType_new called_map (by decide) (gy _ _) (i0 _ _) (fun obj=>PySem.F.args_object_init_3 _ _ _) iG (i5 (.ref 94) l its n) ⟨ho,?_⟩
 show _∧_
 have R1:=R.alloc (t:=s.toks) (a:=s.heap.objs.size) (ao:=nS l 0) (Nat.le_refl _) (fun b o e=>Heap.get?_push_of_some { cls:= .type "list_iterator",data:= .fields #[.ref l,.int 0 0]} e) ⟨_,Heap.get?_push_size _ rfl,rfl,rfl⟩
 have z1:(s.heap.push { cls:= .type "list_iterator",data:= .fields #[.ref l,.int 0 0]}).objs.size=s.heap.objs.size+1:=Heap.size_push ..
 generalize hh1:s.heap.push { cls:= .type "list_iterator",data:= .fields #[.ref l,.int 0 0]} =h1 at R1 z1
 have R2:=R1.alloc (t:=s.toks) (a:=h1.objs.size) (ao:= .tuple [.ref s.heap.objs.size]) (Nat.le_refl _) (fun b o e=>Heap.get?_push_of_some { cls:= .type "tuple",data:= .seq #[.ref s.heap.objs.size]} e) ⟨_,Heap.get?_push_size _ rfl,_,_,rfl,rfl⟩
 have z2:(h1.push { cls:= .type "tuple",data:= .seq #[.ref s.heap.objs.size]}).objs.size=h1.objs.size+1:=Heap.size_push ..
 generalize hh2:h1.push { cls:= .type "tuple",data:= .seq #[.ref s.heap.objs.size]} =h2 at R2 z2
 have R3:=R2.alloc (t:=s.toks) (a:=h2.objs.size) (ao:= .raw (cJ h1.objs.size (.ref 94))) (Nat.le_refl _) (fun b o e=>Heap.get?_push_of_some (cJ h1.objs.size (.ref 94)) e) ⟨_,Heap.get?_push_size _ rfl,rfl⟩
 have ge:=R.rel.ge
 refine⟨⟨_,Heap.get?_push_size _ rfl,rfl⟩,_,R3,h _ _ _ (ge _ (Nat.le_refl _)) (ge _ (by rw [z1];exact Nat.le_succ _)) (ge _ (by rw [z2,z1];exact Nat.le_succ_of_le (Nat.le_succ _))) ?_ ?_ ?_⟩
 ·rw [z1];exact(Nat.succ_ne_self _).symm
 ·rw [z2,z1];exact Nat.ne_of_lt (Nat.lt_succ_of_lt (Nat.lt_succ_self _))
 ·rw [z2];exact(Nat.succ_ne_self _).symm
theorem F.tupleMap(hA:Ok A 11)(hn:xs.length≤1000)(M:MapSt σ.H m tp it l xs 0)
 (h:∀ a H0,Ext (del σ.H it) H0→H0 a=none→Q (.ref a) ⟨σ.loc,upd H0 a (.tuple (ag xs))⟩):Ct D A L "tuple" [.ref m] Q σ:=fun vs' e Φ s R=>by
 refine d7 e fun v1 e1=>?_;refine aV e1 ?_
 have ext:=aa (o:=AO.ns σ.loc) R.HL
 refine callType_codes (Q₁:=fun obj s₁=>s₁.TypeIs obj "tuple" ∧ ∃ σ',Rel D L Φ σ' s₁∧Q (er obj) σ') F.called_tuple (F.typeCall_tuple_1 _) F.entry_object_init
  (gH (hA.mono (by decide)).in1 hn R.push0 ⟨ext _ _ M.m,ext _ _ M.tp,ext _ _ M.it,ext _ _ M.l⟩ fun H' s' R' a=>aK fun H0 e0 ha hH'=>?_) fun obj s₁ h₁=>?_
 ·subst hH'
  have ne:L≠it:=fun e=>by have:=R.HL;rw [e,M.it]at this;cases this
  have hL:H0 L=some (.ns σ.loc):=e0 _ _ (by rw [ay ne];exact ah ..)
  have neL:a≠L:=fun e=>by rw [e,hL]at ha;cases ha
  obtain⟨o,ho,its,nn,rfl,_⟩:=(R'.obj a _ (ah ..)).2
  refine⟨⟨_,ho,rfl⟩,_,Rel.pop0 R' (L:=L) (m:=σ.loc) (by rw [af neL.symm];exact hL),?_⟩
  have ed:del (upd H0 a (.tuple (ag xs))) L=upd (del H0 L) a (.tuple (ag xs)):=funext fun b=>by
   by_cases q:b=L
   ·subst q;rw [b7,af neL.symm,b7]
   ·rw [ay q]
    by_cases r:b=a
    ·subst r;rw [ah,ah]
    ·rw [af r,af r,ay q]
  rw [ed]
  refine h a (del H0 L) (fun b o hb=>?_) (by rw [ay neL];exact ha)
  have bi:b≠it:=fun q=>by rw [q,b7]at hb;cases hb
  rw [ay bi]at hb
  have bL:b≠L:=fun q=>by rw [q,R.HL]at hb;cases hb
  rw [ay bL]
  exact e0 b o (by rw [ay bi,af bL];exact hb)
 ·exact⟨h₁.1,F.args_object_init_2 obj _,object_init_meets F.called_tuple.init.lookup F.called_tuple.made (by decide) _ _ A.in1 _ s₁ ⟨h₁.1,rfl,h₁.2⟩⟩
end
end Mine
end
section
open PySem PySem.W PyProof.Rows PySem.Calls PySem.SeqAt
open AutoSeq1 (wpAny_loadPart')
namespace Mine
noncomputable def qe(led:Bool):Obj:={ cls:= .type "set",dict:=none,data:= .set #[] 0 (.fresh 0 0 led),slots:= #[]}
noncomputable def rq(led:Bool):SetTable:={ mask:=7,place:= #[1],dummies:= #[],finger:=0,led,moves:=0,plain:=true}
noncomputable def jg(led:Bool):Obj:={ cls:= .type "set",dict:=none,data:= .set #[(1,.bool true)] 1 (rq led),slots:= #[]}
section
variable {prog:Program}{w:World}{A:Around}{E:Value→Shared→Prop}{s:Shared}{a:Addr}{led:Bool}
theorem jU{Q:Int→Shared→Prop}(h:Q 1 { s with toks:=s.toks+1}):wpAny (model prog w) A (pyHash (.bool true)) Q E s:=by
 have hT:s.TypeIs (.bool true) "bool" :=rfl
 have hv:[Value.bool true].any Value.onHeap=false:=rfl
 unfold pyHash pyHashByItsType
 refine wpAny_bind ?_
 rw [cRoomFor,if_neg (by rw [hv];exact Bool.false_ne_true)];refine wpAny_pure ?_
 refine wpAny_bind (wpAny_specialOf hT PySem.F.slot_bool_hash.lookup ?_)
 show wpAny _ _ (if (some (Value.builtin "int.__hash__")==some Value.none)=true then _ else _) Q E s
 rw [if_neg (by rw [beq_builtin_none];exact Bool.false_ne_true)]
 refine wpAny_bind (wpAny_specialOf hT PySem.F.slot_bool_hash.lookup ?_)
 show wpAny _ _ (callSpecialIfBoundUnlessNone? (.bool true) "__hash__" _>>=_) Q E s
 refine wpAny_bind (wpAny_callSpecialIfBoundUnlessNone?_slot hT PySem.F.slot_bool_hash
  (wpAny_call_entry PySem.F.slot_bool_hash hT entry_int_hash
   (show wpAny _ _ (do ret (← mkInt (rawHash 1))) _ _ s from wpAny_ret_mkInt ?_) (args_int_hash _)))
 exact wpAny_pure h
theorem pZ(a:Addr)(led:Bool):setAddByScan a (.bool true) 1 #[] (.fresh 0 0 led)=(do
 rule "set.add.by-scan"
 storeSet a #[(1,.bool true)] (rq led)
 pure (some true)):=by cases led<;> kernel_rfl
theorem lA{Q:Value→Shared→Prop}(hT:s.TypeIs (.ref a) "set")(h:wpAny (model prog w) A.in1 (setAddHashedIn a (.bool true) 1 100000) (fun _ s'=>Q .none s') E { s with toks:=s.toks+1}):
 wpAny (model prog w) A (call (.builtin "set.add") [.ref a,.bool true]) Q E s:=by
 refine wpAny_call_entry PySem.F.slot_set_add hT PySem.F.entry_set_add ?_ (PySem.F.args_set_add_2 _ _)
 unfold Builtin.«set.add» Builtin.Frozenset.oneOther
 simp only [List.isEmpty_nil,bind_assoc]
 unfold Builtin.Frozenset.addrOf setAdd
 refine wpAny_bind (wpAny_pure ?_)
 try dsimp only
 refine wpAny_bind (wpAny_pure ?_)
 try dsimp only
 refine wpAny_bind ?_
 refine wpAny_holding ?_
 refine wpAny_bind (jU ?_)
 unfold setAddHashed
 refine wpAny_holding (wpAny_mono h (fun _ s' q=>?_) fun _ _ x=>x)
 show wpAny _ _ (ret Value.none) _ _ _
 exact wpAny_pure ⟨_,rfl,q⟩
theorem iu{Q:Value→Shared→Prop}(ho:s.heap.get? a=some (qe led))(h:∀ h',Heap.SameBut a s.heap h'→h'.get? a=some (jg led)→Q .none { s with heap:=h',toks:=s.toks+1}):
 wpAny (model prog w) A (call (.builtin "set.add") [.ref a,.bool true]) Q E s:=by
 refine lA ⟨_,ho,rfl⟩ ?_
 unfold setAddHashedIn
 refine wpAny_bind (wpAny_setState_of (s:={ s with toks:=s.toks+1}) ho rfl (by rfl) ?_)
 dsimp only
 have hbs:byScan (.bool true) #[]=true:=by decide+kernel
 rw [hbs]
 simp only [↓reduceIte]
 rw [pZ]
 refine wpAny_bind (wpAny_bind (wpAny_rule (wpAny_bind (wpAny_storeSet_of (s:={ s with toks:=s.toks+1}) ho rfl ?_ (by show 1≤sizeLine;decide)))))
 refine wpAny_pure ?_
 exact wpAny_pure (h _ (Heap.SameBut.update ..) ((Heap.get?_update_self _ ho rfl).trans rfl))
theorem iw{Q:Value→Shared→Prop}(ho:s.heap.get? a=some (jg led))(h:Q .none { s with toks:=s.toks+1}):
 wpAny (model prog w) A (call (.builtin "set.add") [.ref a,.bool true]) Q E s:=by
 refine lA ⟨_,ho,rfl⟩ ?_
 unfold setAddHashedIn
 have hf:(rq led).fits 1=true:=by cases led<;> decide+kernel
 refine wpAny_bind (wpAny_setState_of (s:={ s with toks:=s.toks+1}) ho rfl hf ?_)
 dsimp only
 have hbs:byScan (.bool true) #[(1,.bool true)]=true:=by decide+kernel
 rw [hbs]
 simp only [↓reduceIte]
 unfold setAddByScan
 refine wpAny_bind (wpAny_bind (wpAny_rule (wpAny_bind ?_)))
 show wpAny _ _ (setScanFrom a (.bool true) 1 true [(1,.bool true)] 0) _ _ _
 unfold setScanFrom setEpoch
 simp only [beq_self_eq_true,if_true]
 refine wpAny_bind (wpAny_bind (wpAny_setState_of (s:={ s with toks:=s.toks+1}) ho rfl hf (wpAny_pure ?_)))
 refine wpAny_bind (m:=eqBool (.bool true) (.bool true)) ?_
 have he:eqBool (.bool true) (.bool true)=holding [.bool true,.bool true] (rule "eq-bool.same-object" >>=fun _=>pure true):=rfl
 rw [he]
 refine wpAny_holding (wpAny_bind (wpAny_rule (wpAny_pure ?_)))
 show wpAny _ _ (pure (ScanMet.found 0)) _ _ _
 exact wpAny_pure (wpAny_pure (wpAny_pure h))
end
end Mine
end
section
open PySem PySem.W PyProof.Rows PySem.Calls PySem.SeqAt
namespace Mine
noncomputable def bY(w:World):Bool:= !(w.params.followText "set-order")
section
variable {w:World}{A:Around}{R:Result→Shared→Prop}{s:Shared}
theorem lQ{E:Value→Shared→Prop}{Q:Value→Shared→Prop}(h:Q (.ref s.heap.objs.size) { s with heap:=s.heap.push (qe (bY w))}):wpAny (model PR w) A (newSet (.type "set")) Q E s:=by
 unfold newSet setsByText
 refine wpAny_bind (wpAny_bind (wpAny_askSetting (wpAny_pure ?_)))
 dsimp only
 simp only [newObj]
 exact wpAny_bind (wpAny_alloc (wpAny_pure h))
theorem jE(elt target iter:Expr)(scope:Scope)(pos:Pos)(it acc:Value)(env:Env):
 compTurn (.SetComp elt [⟨target,iter,[],0⟩] scope pos) 0 it acc env=(do
  standAt iter.pos
  match ← pyNext it with
  | none=>pure (.done .next)
  | some v=>
   letOwnedTupleGo target it v
   assign target env v
   let mut ok:=true
   for c in ([]:List Expr) do
    if ok then ok ← isTrue c env (eval c env)
   if ok then
    (do let v ← eval elt env;standAt elt.pos;let _ ← call (.builtin "set.add") [acc,v])
   again (.compLoop (.SetComp elt [⟨target,iter,[],0⟩] scope pos) 0 it acc env)):=by rfl
theorem vk{elt target iter:Expr}{scope:Scope}{pos:Pos}{it acc:Value}{env:Env}(I:Nat→Shared→Prop)
 (turn:∀ n s,I n s→wpAny (model PR w) A (pyNext it) (fun r s₁=>match r with
  | none=>R (.ok .next) s₁
  | some v=>wpAny (model PR w) A (letOwnedTupleGo target it v) (fun _ s₁'=>wpAny (model PR w) A (PySem.assign target env v) (fun _ s₂=>wpAny (model PR w) A (im env []) (fun ok s₃=>ok=true∧
   wpAny (model PR w) A (eval elt env) (fun x s₄=>
    wpAny (model PR w) A (PySem.call (.builtin "set.add") [acc,x]) (fun _ s₅=> ∃ m,m<n∧I m s₅) (fun _ _=>False) s₄) (fun _ _=>False) s₃) (fun _ _=>False) s₂) (fun _ _=>False) s₁') (fun _ _=>False) s₁) (fun _ _=>False) s)
 (n:Nat) (h:I n s):codeAny (model PR w) A (.compLoop (.SetComp elt [⟨target,iter,[],0⟩] scope pos) 0 it acc env) R s:=by
 refine codeAny_loop rfl I (fun n s hI=>?_) n h
 show wpAny _ A ((compTurn (.SetComp elt [⟨target,iter,[],0⟩] scope pos) 0 it acc env).onRaise (fun x=>do noteFrame x env;theTreesLotGoes x)) _ _ s
 refine wpAny_noted ?_
 rw [jE]
 refine wpAny_bind (wpAny_standAt (wpAny_bind (wpAny_mono (turn n s hI) (fun r s₁ h₁=>?_) fun _ _ h'=>h'.elim)))
 cases r with
 | none=>exact wpAny_pure h₁
 | some v=>
  refine wpAny_bind (wpAny_mono h₁ (fun _ s₁' h₁'=>wpAny_bind (wpAny_mono h₁' (fun _ s₂ h₂=>?_) fun _ _ h'=>h'.elim)) fun _ _ h'=>h'.elim)
  refine wpAny_bind (wpAny_mono (show wpAny _ A (im env []) _ _ s₂ from h₂) (fun ok s₃=>gD fun hok h₃=>?_) fun _ _ h'=>h'.elim)
  subst hok
  refine wpAny_bind (wpAny_bind (wpAny_mono h₃ (fun x s₄ h₄=>wpAny_bind (wpAny_standAt (wpAny_bind (wpAny_mono h₄ (fun _ s₅ h₅=>wpAny_pure (wpAny_pure ⟨rfl,h₅⟩)) fun _ _ h'=>h'.elim)))) fun _ _ h'=>h'.elim))
theorem dh{elt target iter:Expr}{scope:Scope}{pos:Pos}{it acc:Value}{env:Env}
 (h0:codeAny (model PR w) A (.compLoop (.SetComp elt [⟨target,iter,[],0⟩] scope pos) 0 it acc env) R s)
 (h:wpAny (model PR w) A (pyIter it) (fun it' s'=>codeAny (model PR w) A (.compLoop (.SetComp elt [⟨target,iter,[],0⟩] scope pos) 0 it' acc env) R s') (fun _ _=>False) s):
 codeAny (model PR w) A (.compStart (.SetComp elt [⟨target,iter,[],0⟩] scope pos) 0 it acc env) R s:=by
 refine codeAny_of_tree ?_
 show wpAny _ A ((compStart (.SetComp elt [⟨target,iter,[],0⟩] scope pos) 0 it acc env).onRaise (fun x=>do noteFrame x env;standAt theWindowsPlace)) _ _ s
 refine wpAny_onRaise ?_
 unfold compStart
 show wpAny _ A (ask>>=_) _ _ s
 refine wpAny_bind (wpAny_askSetting (wpAny_ite ?_))
 split
 ·first
   | exact wpAny_bind (wpAny_pure (wpAny_pure (And.intro rfl h0)))
   | exact wpAny_pure (And.intro rfl h0)
 ·exact wpAny_bind (wpAny_rule (wpAny_bind (wpAny_standAt (wpAny_bind (wpAny_mono h (fun it' s' h'=>wpAny_pure (And.intro rfl h')) fun _ _ x=>x.elim)))))
end
section
variable {D:Wd}{A:Around}{L:Addr}{σ:St}{env:Env}{F:Frz}{s:Shared}{fp:List Addr}
theorem pS{elt target iter:Expr}{scope:Scope}{cl:List (Str×Addr)}{pos:Pos}{σ₁:St}{n:Nat}{itm:Nat→Value ⊕ AO}{g:List (Addr×AO)}{it:Addr}{J:Nat→Heap→Prop}{Jo:Value→Nat→Heap→Prop}
 {RR:Value→Addr→Result→Shared→Prop} (hcell:∀ y∈scope.names,y.2≠ .cell) (hkind:scope.kind= .function)
 (R:Rel D L F σ₁ s) (hh:Hid F (upd σ₁.H L (.ns σ₁.loc)) fp) (hJ:J 0 s.heap) (T:Turns D A target n itm g it fp J Jo) (hg:Has σ₁.H g) (hn:0<n)
 (turn:eG D A L (fun C=>compEnvC scope cl C env) target [] elt n itm (fun _=>true) (fun _ v _=>v= .bool true) (upd σ₁.H L (.ns σ₁.loc)))
 (hRR:∀ C acc m H' s',InComp D F C acc fp m H' s'→Ext (upd σ₁.H L (.ns σ₁.loc)) H'→s'.heap.get? acc=some (jg (bY D.w))→3<acc→
  RR (.ref acc) C (.ok .next) s'):
 wpAny (model PR D.w) A (newSet (.type "set")) (fun acc s₃=>wpAny (model PR D.w) A (newFunctionEnv scope env.globals cl [] env.qual Option.none .none (some env)) (fun cenv s₄=>
  codeAny (model PR D.w) A (.compStart (.SetComp elt [⟨target,iter,[],0⟩] scope pos) 0 (.ref it) acc { cenv with scope:=relabel scope env}) (RR acc cenv.locals) s₄) (fun _ _=>False) s₃) (fun _ _=>False) s:=by
 refine lQ (wpAny_newFunctionEnv hcell (by intro y hy;simp at hy) (fun h₁ hns₁ hsb₁=>?_) hkind)
 refine aE (R.compStart (tk:=s.toks+([]:List (Str×Value)).length) hh (T.live 0 _ hJ) (o:=qe (bY D.w)) (by rfl) hns₁ hsb₁) fun x₀ hacc₀ keep₀=>?_
 have base:=R.rel.base
 have h3:3<s.heap.objs.size:=R.rel.big
 have J₀:J 0 h₁:=T.frame 0 _ _ hJ fun b _ o e=>keep₀ b o e
 have hF:∀ b∈s.heap.objs.size::fp,F b=none:=fun b hb=>(x₀.hid b hb).1
 generalize hc:(s.heap.push (qe (bY D.w))).objs.size=C at *
 have loop:codeAny (model PR D.w) A (.compLoop (.SetComp elt [⟨target,iter,[],0⟩] scope pos) 0 (.ref it) (.ref s.heap.objs.size) (compEnvC scope cl C env)) (RR (.ref s.heap.objs.size) C) { s with heap:=h₁,toks:=s.toks+([]:List (Str×Value)).length}:=by
  let Jv:Nat→Shared→Prop:=fun j s'=> ∃ k m H',j+k=n∧InComp D F C s.heap.objs.size fp m H' s'∧Ext (upd σ₁.H L (.ns σ₁.loc)) H'∧J k s'.heap∧s'.heap.get? s.heap.objs.size=some (if k=0 then qe (bY D.w)else jg (bY D.w))
  refine vk Jv
   (fun j s'=>md fun k m H' hjk x hext hj hacc=>?_) n ⟨0,_,_,by exact rp,x₀,Ext.refl _,J₀,hacc₀⟩
  have hG:Has (upd H' C (.ns m)) g:=(hg.ext (aa R.HL)).ext (hext.trans (aa x.rel.HL))
  have hhid:Hid F (upd H' C (.ns m)) fp:=fun b hb=>x.hid b (.tail _ hb)
  have accfp:s.heap.objs.size∉fp:=fun q=>by obtain⟨o,e⟩:=T.live 0 _ hJ _ q;exact absurd (Heap.lt_size e) (Nat.lt_irrefl _)
  rcases Nat.lt_or_ge k n with hk | hk
  ·
   have hA:Hid F (upd H' C (.ns m)) [s.heap.objs.size]:=fun b hb=>x.hid b (by rw [List.mem_singleton.mp hb];exact .head _)
   have R1:=x.rel.push0.hideL hA
   have hF1:∀ b∈fp,dt F [s.heap.objs.size] s'.heap b=none:=fun b hb=>by
    unfold dt;rw [if_neg fun q=>accfp (by rw [← List.mem_singleton.mp q];exact hb)];exact(x.hid b (.tail _ hb)).1
   have hh1:Hid (dt F [s.heap.objs.size] s'.heap) (upd H' C (.ns m)) fp:=fun b hb=>⟨hF1 b hb,(hhid b hb).2⟩
   have live1:∀ b∈ [s.heap.objs.size],∃ o,s'.heap.get? b=some o:=fun b hb=>by rw [List.mem_singleton.mp hb];exact⟨_,hacc⟩
   refine wpAny_mono (T.next k _ _ s' (fun r s₁=> ∃ v,r=some v∧ ∃ H₂,Rel0 D (dt F [s.heap.objs.size] s'.heap) H₂ s₁∧Hid (dt F [s.heap.objs.size] s'.heap) H₂ fp∧Jo v (k+1) s₁.heap∧gw (itm k) v (upd H' C (.ns m)) H₂) R1 hG hh1 hj hk fun v s₁ H₂ R' hh' j' x=>⟨v,rfl,H₂,R',hh',j',x⟩) (fun r s₁=>cX fun v e H₂ R₂ hh₂ j₂ ix=>?_) fun _ _ x=>x.elim
   subst e
   refine wpAny_mono (T.go v (k+1) _ H₂ s₁ _ R₂ hh₂ j₂ fun s₂ R₃ j₃=>?_) (fun _ s₂ z=>z) fun _ _ x=>x.elim
   obtain⟨R₄,hA₄,kA⟩:=R₃.unhideL base (fun b hb=>(hA b hb).1) live1
   have hacc₄:=kA _ (.head _) _ hacc
   obtain⟨σ',R₅,eH,q⟩:=Rel.drawn x.rel.HL R₄ ix (turn C k m H' hk x.rel.HL hext)
   have hh₅:Hid F (upd σ'.H C (.ns σ'.loc)) (s.heap.objs.size::fp):=fun b hb=>by
    rw [eH]
    rcases List.mem_cons.mp hb with z | z
    ·rw [z];exact hA₄ _ (.head _)
    ·exact⟨hF b hb,(hh₂ b z).2⟩
   have live₅:∀ b∈s.heap.objs.size::fp,∃ o,s₂.heap.get? b=some o:=fun b hb=>by
    rcases List.mem_cons.mp hb with z | z
    ·rw [z];exact⟨_,hacc₄⟩
    ·exact T.live _ _ j₃ b z
   refine wpAny_mono (q _ _ (R₅.hideL hh₅)) (fun _ s₃=>ar fun σ₃ R₆ h₆=>wpAny_mono (h₆ _ _ R₆) (fun ok s₄=>aK fun σ₄ R₇ hok h₇=>?_) fun _ _ x=>x.elim) fun _ _ x=>x.elim
   subst hok
   refine⟨rfl,wpAny_mono (h₇ _ _ R₇) (fun y s₅=>aK fun σ₅ R₈ e₈ y₈=>?_) fun _ _ x=>x.elim⟩
   rw [eR y₈]
   obtain⟨x₈,k₈⟩:=InComp.back R₈ base hF live₅
   have hacc₈:=k₈ _ (.head _) _ hacc₄
   have fin8:∀ h' tk,(∀ b,b≠s.heap.objs.size→h'.get? b=s₅.heap.get? b)→h'.get? s.heap.objs.size=some (jg (bY D.w))→
    ∃ m',m'<j∧ ∃ k m H',m'+k=n∧InComp D F C s.heap.objs.size fp m H' { s₅ with heap:=h',toks:=tk} ∧Ext (upd σ₁.H L (.ns σ₁.loc)) H'∧J k h'∧h'.get? s.heap.objs.size=some (if k=0 then qe (bY D.w)else jg (bY D.w)):=by
    intro h' tk other hnew
    refine⟨j-1,by exact qd hjk hk,k+1,σ₅.loc,σ₅.H,by exact qc hjk hk,⟨?_,x₈.hid⟩,hext.trans e₈,T.frame _ _ _ j₃ fun b hb o e=>(other b fun z=>accfp (z▸hb)).trans (k₈ b (.tail _ hb) o e),by rw [hnew,if_neg (Nat.succ_ne_zero k)]⟩
    have hA8:Hid F (upd σ₅.H C (.ns σ₅.loc)) [s.heap.objs.size]:=fun b hb=>x₈.hid b (by rw [List.mem_singleton.mp hb];exact .head _)
    have:=Rel.pop0 ((x₈.rel.push0).hid (t:=tk) hA8 fun b o hn e=>(other b fun z=>hn (List.mem_singleton.mpr z)).trans e) (L:=C) (ah ..)
    rwa [bf x₈.rel.HL]at this
   by_cases hk0:k=0
   ·rw [if_pos hk0]at hacc₈
    exact iu hacc₈ fun h' hs hn=>fin8 h' _ (fun b hb=>hs.2 b hb) hn
   ·rw [if_neg hk0]at hacc₈
    exact iw hacc₈ (fin8 s₅.heap _ (fun _ _=>rfl) hacc₈)
  ·obtain rfl:k=n:=by exact ro hjk hk
   have hA:Hid F (upd H' C (.ns m)) [s.heap.objs.size]:=fun b hb=>x.hid b (by rw [List.mem_singleton.mp hb];exact .head _)
   have R1:=x.rel.push0.hideL hA
   have hh1:Hid (dt F [s.heap.objs.size] s'.heap) (upd H' C (.ns m)) fp:=fun b hb=>⟨by
    unfold dt;rw [if_neg fun q=>accfp (by rw [← List.mem_singleton.mp q];exact hb)];exact(x.hid b (.tail _ hb)).1,(hhid b hb).2⟩
   have live1:∀ b∈ [s.heap.objs.size],∃ o,s'.heap.get? b=some o:=fun b hb=>by rw [List.mem_singleton.mp hb];exact⟨_,hacc⟩
   refine wpAny_mono (T.stop _ _ s' (fun r s₁=>r=Option.none∧Rel0 D (dt F [s.heap.objs.size] s'.heap) (upd H' C (.ns m)) s₁) R1 hG hh1 hj fun s₁ R' _=>⟨rfl,R'⟩) (fun r s₁=>gD fun e R₂=>?_) fun _ _ x=>x.elim
   subst e
   obtain⟨R₄,hA₄,kA⟩:=R₂.unhideL base (fun b hb=>(hA b hb).1) live1
   rw [if_neg (by exact uV hn)]at hacc
   refine hRR C _ m H' s₁ ⟨by have:=Rel.pop0 R₄ (L:=C) (ah ..);rwa [bf x.rel.HL]at this,x.hid⟩ hext (kA _ (.head _) _ hacc) h3
 exact dh loop (wpAny_mono (T.self 0 _ _ _ (fun v s'=>v= .ref it∧s'= { s with heap:=h₁,toks:=s.toks+([]:List (Str×Value)).length}) x₀.rel.rel J₀ ⟨rfl,rfl⟩) (fun v s'=>gD fun e1 e2=>by subst e1 e2;exact loop) fun _ _ x=>x.elim)
end
end Mine
end
section
open PySem PySem.W PyProof.Rows PySem.Calls PySem.SeqAt
namespace Mine
section
variable {D:Wd}{A:Around}{L:Addr}{σ:St}{env:Env}
theorem E.setComp{elt target iter:Expr}{scope:Scope}{cl:List (Str×Addr)}{pos:Pos}{Q:Value→St→Prop}
 (hclos:closureFor scope env=Pure.pure cl)
 (h:It D A L env target iter (fun n itm g σ₁=>0<n∧
  eG D A L (fun C=>compEnvC scope cl C env) target [] elt n itm (fun _=>true) (fun _ v _=>v= .bool true) (upd σ₁.H L (.ns σ₁.loc))∧
  ∀ a H',Ext σ₁.H H'→σ₁.H a=Option.none→H' a=some (.raw (jg (bY D.w)))→Q (.ref a) ⟨σ₁.loc,H'⟩) σ)
 (hcell:∀ y∈scope.names,y.2≠ .cell:=by decide) (hkind:scope.kind= .function:=by rfl) (hnames:∀ x∈scope.names,x.2= .local→scope.names.lookup x.1=some .local:=by decide)
 (hs:∀ x,foldedSetIterable iter env x=Pure.pure x:=by intro _;rfl):
 WE D A L (eval (.SetComp elt [⟨target,iter,[],0⟩] scope pos) env) Q σ:=fun F s R=>by
 rw [arm_eval_SetComp]
 refine wpAny_comprehension_free (use:=Option.none) rfl hs hclos hkind hnames (wpAny_mono (h F s R) (fun xv s₁ h₁=>wpAny_mono h₁ (fun v s₂=>aH fun n itm g it fp J Jo σ₁ e R₂ hh j T hg t_=>aE t_ fun hn turn fin=>?_) fun _ _ e=>e) fun _ _ e=>e)
 subst e
 refine pS (RR:=fun acc C=>compPost (model PR D.w) A _ Option.none _ acc C) hcell hkind R₂ hh j T hg hn turn fun C acc m H' s' x hext hacc h3=>?_
 refine ai x.rel.nsOf fun mc hnc hm=>?_
 refine⟨mc,hnc,fun h' hs'=>?_⟩
 have neC:acc≠C:=fun q=>by have:=(x.hid acc (.head _)).2;rw [q,ah]at this;cases this
 have hL:H' L=some (.ns σ₁.loc):=hext _ _ (ah ..)
 refine aE (x.fin (L:=L) (tk:=s'.toks) (ao:= .raw (jg (bY D.w))) hs' hL ⟨_,(hs'.2 acc neC).trans hacc,rfl⟩ h3) fun R₃ hn₃ neL=>?_
 have ext₁:Ext σ₁.H (del H' L):=fun b o e=>by
  have ne:b≠L:=fun q=>by rw [q,R₂.HL]at e;cases e
  rw [ay ne];exact hext b o (by rw [af ne];exact e)
 exact⟨_,R₃,fin acc _ (ext₁.trans (aa hn₃)) (az (fun b o e=>ext₁ b o e) hn₃) (ah ..)⟩
end
end Mine
end
section
open PySem PySem.W PyProof.Rows PySem.Calls PySem.SeqAt
open AutoSeq1 (wpAny_loadPart')
namespace Mine
theorem jW:Manifest.owners.lookup (String.ofList ['r','o','t','a','r','e','t','i','_','t','e','s'].reverse)=some Manifest.sig_set_iterator:=by kernel_rfl
theorem slot_setit_next:Slot "set_iterator" "__next__" "set_iterator.__next__" :=
 .of (owner:= "set_iterator") (n:= "__next__") (by rw [typeLookup_type,builtinLookup_eq_fast];kernel_rfl) (by decide+kernel) (by decide+kernel) (by decide+kernel)
  (by first | exact .inl (by decide+kernel) | exact .inr (by decide+kernel)) (by rw [isSubtype_type];kernel_rfl)
theorem cK:entryFor table "set_iterator.__next__" =some Builtin.«set_iterator.__next__» :=entryFor_of_tree (by kernel_rfl)
theorem c7(a:Value):argsOk "set_iterator.__next__" ⟨[a],[]⟩:=by
 unfold argsOk;rw [signature?_of (id:= "set_iterator.__next__") (n:= ['_','_','t','x','e','n','_','_']) (o:= ['r','o','t','a','r','e','t','i','_','t','e','s']) (by kernel_rfl) jW];kernel_rfl
theorem gB:entryFor table "set.__iter__" =some Builtin.«frozenset.__iter__» :=
 entryFor_alias (id':= "frozenset.__iter__") (by kernel_rfl) rfl (by decide+kernel) (by kernel_rfl)
noncomputable def jR(a:Addr)(k i:Nat):Obj:={ cls:= .type "set_iterator",data:= .fields #[rawInt k,rawInt i,.ref a,rawInt 1,rawInt 1]}
theorem cv(led:Bool):(rq led).fits 1=true:=by cases led<;> decide+kernel
theorem vh(f:Nat→Nat)(x:Int×Value):pickOrder f #[x]= #[x]:=by
 show pickOrder.go f 1 0 [x] #[]=_
 unfold pickOrder.go
 have:f 0% [x].length=0:=Nat.mod_one _
 rw [this]
 rfl
section
variable {w:World}{A:Around}{E:Value→Shared→Prop}{s:Shared}{a:Addr}
theorem jT{Q:Value→Shared→Prop}(ha:s.heap.get? a=some (jg (bY w)))(hQ:Q (.ref s.heap.objs.size) { s with heap:=s.heap.push (jR a 0 0)}):
 wpAny (model PR w) A (pyIter (.ref a)) Q E s:=by
 have hT:s.TypeIs (.ref a) "set" :=⟨_,ha,rfl⟩
 refine wpAny_pyIter_slot hT PySem.F.slot_set_iter (wpAny_call_entry PySem.F.slot_set_iter hT gB ?_ (PySem.F.args_set_iter_1 _))
 unfold Builtin.«frozenset.__iter__» Builtin.Frozenset.slot0 slotArgs
 simp only [List.isEmpty_nil,Bool.not_true,Bool.false_eq_true,↓reduceIte,bind_assoc,List.length_nil,bne_self_eq_false]
 unfold Builtin.Frozenset.addrOf Builtin.Frozenset.sizeOf
 refine wpAny_bind (wpAny_pure ?_)
 try dsimp only
 refine wpAny_bind (wpAny_pure ?_)
 try dsimp only
 refine wpAny_bind (wpAny_bind (wpAny_setEntries_of ha rfl (cv _) (wpAny_pure ?_)))
 unfold setDrawn setsByText
 refine wpAny_bind (wpAny_bind (wpAny_setState_of ha rfl (cv _) ?_))
 dsimp only
 refine wpAny_bind (wpAny_bind (wpAny_askSetting (wpAny_pure ?_)))
 refine wpAny_pure ?_
 have e:(!(w.params.followText "set-order") && false)=false:=Bool.and_false _
 show wpAny _ _ (if (!(w.params.followText "set-order") && false)=true then _ else _) _ _ _
 rw [if_neg (by rw [e];exact Bool.false_ne_true)]
 refine wpAny_bind (wpAny_pure ?_)
 unfold newFields
 refine wpAny_bind (wpAny_setEpoch_of ha rfl (cv _) ?_)
 exact wpAny_bind (wpAny_newObj_type (wpAny_pure ⟨_,rfl,"set_iterator",_,⟨_,Heap.get?_push_size _ rfl,rfl⟩,slot_setit_next.lookup,hQ⟩))
theorem gM{Q:Option (Value×Nat)→Shared→Prop}(ha:s.heap.get? a=some (jg (bY w))){k i:Nat}
 (hQ:w.params.followText "set-order" =true→Q ((#[((1:Int),Value.bool true)][i]?).map fun e=>(e.2,k)) s)
 (hQ':w.params.followText "set-order" =false→Q (match (#[((1:Int),Value.bool true)][SetTable.below #[1] k]?),(#[(1:Nat)][SetTable.below #[1] k]?)with | some (_,x),some j=>some (x,j+1) | _,_=>none) s):
 wpAny (model PR w) A (setNext a k i 1) Q E s:=by
 unfold setNext setsByText
 refine wpAny_bind (wpAny_setState_of ha rfl (cv _) ?_)
 dsimp only
 refine wpAny_bind (wpAny_bind (wpAny_askSetting (wpAny_pure ?_)))
 dsimp only
 cases hf:w.params.followText "set-order"
 ·rw [if_neg (show ¬(model PR w).w.params.followText "set-order" =true by rw [show (model PR w).w.params.followText "set-order" =false from hf];exact Bool.false_ne_true)]
  rw [if_neg (by intro h;exact Bool.noConfusion (show false=true from h))]
  refine wpAny_bind ?_
  show wpAny _ _ (if (!(bY w) && true)=true then unsupported "set:maker-not-led" else pure ()) _ _ _
  rw [if_neg (by unfold bY;rw [hf];exact Bool.false_ne_true)]
  exact wpAny_pure (wpAny_pure (hQ' hf))
 ·rw [if_pos (show(model PR w).w.params.followText "set-order" =true from hf)]
  rw [if_neg (by intro h;exact Bool.noConfusion (show false=true from h))]
  unfold setWalk setsByText
  refine wpAny_bind (wpAny_bind (wpAny_setState_of ha rfl (cv _) ?_))
  dsimp only
  refine wpAny_bind (wpAny_bind (wpAny_askSetting (wpAny_pure ?_)))
  dsimp only
  rw [if_pos (show(model PR w).w.params.followText "set-order" =true from hf)]
  refine wpAny_bind (wpAny_askSetting (wpAny_pure ?_))
  rw [vh]
  exact wpAny_pure (hQ hf)
theorem gL{R:PySem.Fin→Shared→Prop}{it:Addr}{k i:Nat}(ha:s.heap.get? a=some (jg (bY w)))(hit:s.heap.get? it=some (jR a k i))
 (h:wpAny (model PR w) A (setNext a k i 1) (fun r s'=>match r with
  | some (x,next)=>wpAny (model PR w) A (do setField (.ref it) 0 (rawInt next);setField (.ref it) 1 (rawInt (i+1));ret x) R E s'
  | none=>wpAny (model PR w) A (do setField (.ref it) 2 .none;raiseNew (← newExc (.type "StopIteration") [])) R E s') (fun _ _=>False) s):
 wpAny (model PR w) A (Builtin.«set_iterator.__next__» ⟨[.ref it],[]⟩) R E s:=by
 unfold Builtin.«set_iterator.__next__» slotArgs
 refine wpAny_bind (wpAny_pure ?_)
 refine wpAny_bind (wpAny_fieldsOf hit rfl ?_)
 show wpAny _ _ (setEntries a>>=_) _ _ _
 refine wpAny_bind (wpAny_setEntries_of ha rfl (cv _) ?_)
 rw [if_neg (by decide)]
 refine wpAny_bind (wpAny_mono h (fun r s' hr=>?_) fun _ _ x=>x.elim)
 rcases r with _ | ⟨x,next⟩
 ·exact hr
 ·exact hr
theorem fg{Q:Option Value→Shared→Prop}{it:Addr}(hne:a≠it)(ha:s.heap.get? a=some (jg (bY w)))(hit:s.heap.get? it=some (jR a 0 0))
 (hQ:∀ h',h'.get? it=some (jR a (if w.params.followText "set-order" then 0 else 2) 1)→Heap.SameBut it s.heap h'→Q (some (.bool true)) { s with heap:=h'}):
 wpAny (model PR w) A (pyNext (.ref it)) Q E s:=by
 have hT:s.TypeIs (.ref it) "set_iterator" :=⟨_,hit,rfl⟩
 have fin:∀ k:Nat,k=(if w.params.followText "set-order" then 0 else 2)→wpAny (model PR w) A.in1 (do setField (.ref it) 0 (rawInt k);setField (.ref it) 1 (rawInt ((0:Nat)+1));ret (.bool true))
  (fun f s'=> ∃ v,f= .done (.ret v)∧wpAny (model PR w) A (pure (some v)) Q E s') (fun e s'=>wpAny (model PR w) A (do if ← isInstance e (.type "StopIteration")then pure none else throw e) Q E s') s:=fun k hk=>by
  refine wpAny_bind (wpAny_setField_rec hit (by simp) fun h₁ g₁ b₁=>?_)
  refine wpAny_bind (wpAny_setField_rec g₁ (by simp) fun h₂ g₂ b₂=>?_)
  exact wpAny_pure ⟨_,rfl,wpAny_pure (hQ h₂ (by rw [show (if w.params.followText "set-order" then 0 else 2)=k from hk.symm];exact g₂.trans rfl) (b₁.trans b₂))⟩
 unfold pyNext
 refine wpAny_bind (wpAny_attempt (wpAny_callSpecial?_slot (name:=Str.ofString "__next__") hT slot_setit_next
  (wpAny_call_entry slot_setit_next hT cK ?_ (c7 _))))
 refine gL ha hit (gM ha (fun hf=>?_) fun hf=>?_)
 ·exact fin 0 (by rw [hf];rfl)
 ·exact fin 2 (by rw [hf];rfl)
theorem fJ{Q:Option Value→Shared→Prop}{it:Addr}(hh:A.handled=none)(hne:a≠it)(ha:s.heap.get? a=some (jg (bY w)))(hit:s.heap.get? it=some (jR a (if w.params.followText "set-order" then 0 else 2) 1))
 (hQ:∀ h',Heap.ExtBut it s.heap h'→Q none { s with heap:=h'}):
 wpAny (model PR w) A (pyNext (.ref it)) Q E s:=by
 have hT:s.TypeIs (.ref it) "set_iterator" :=⟨_,hit,rfl⟩
 unfold pyNext
 refine wpAny_bind (wpAny_attempt (wpAny_callSpecial?_slot (name:=Str.ofString "__next__") hT slot_setit_next
  (wpAny_call_entry slot_setit_next hT cK ?_ (c7 _))))
 have fin:wpAny (model PR w) A.in1 (do setField (.ref it) 2 .none;raiseNew (← newExc (.type "StopIteration") []))
  (fun f s'=> ∃ v,f=PySem.Fin.done (.ret v)∧wpAny (model PR w) A (pure (some v)) Q E s') (fun e s'=>wpAny (model PR w) A (do if ← isInstance e (.type "StopIteration")then pure none else throw e) Q E s') s:=by
  refine wpAny_bind (wpAny_setField_rec hit (by simp) fun h₁ g₁ b₁=>?_)
  refine wpAny_bind ?_
  simp only [newExc,newTuple]
  refine wpAny_bind (wpAny_newObj_type ?_ (by size_fits))
  refine wpAny_bind (m:=firstArgMember _ _) (wpAny_of_eq (a:=Value.none) (by first | rfl | (simp only [firstArgMember];rfl)) ?_)
  refine wpAny_newObj_type ?_ (by size_fits)
  simp only [raiseNew]
  refine wpAny_bind (wpAny_handled ?_)
  first | rw [show A.in1.handled=none from hh] | rw [hh]
  refine wpAny_bind (wpAny_pure (wpAny_throw ?_))
  refine wpAny_bind (wpAny_isInstance (T:= "StopIteration") (b:=true) ⟨_,Heap.get?_push_size _ rfl,rfl⟩ isSubtype_stop ?_)
  exact wpAny_pure (hQ _ ((b₁.extBut.push _).push _))
 refine gL ha hit (gM ha (fun hf=>?_) fun hf=>?_)
 ·exact fin
 ·have:(match (#[((1:Int),Value.bool true)][SetTable.below #[1] (if w.params.followText "set-order" then 0 else 2)]?),(#[(1:Nat)][SetTable.below #[1] (if w.params.followText "set-order" then 0 else 2)]?)with | some (_,x),some j=>some (x,j+1) | _,_=>none)=none:=by rw [hf];rfl
  rw [this]
  exact fin
theorem jM{Q:List Value→Shared→Prop}(hh:A.handled=none)(ha:s.heap.get? a=some (jg (bY w)))
 (hQ:∀ h',Heap.ExtBut s.heap.objs.size s.heap h'→Q [.bool true] { s with heap:=h'}):wpAny (model PR w) A (unpackItems (.ref a) 1 none) Q E s:=by
 have hlt:a≠s.heap.objs.size:=Nat.ne_of_lt (Heap.lt_size ha)
 have hT:s.TypeIs (.ref a) "set" :=⟨_,ha,rfl⟩
 unfold unpackItems
 refine wpAny_bind ?_
 unfold notIterableAtAll
 refine wpAny_bind (wpAny_specialOf hT PySem.F.slot_set_iter.lookup ?_)
 refine wpAny_pure ?_
 simp only [Bool.false_eq_true,if_false]
 refine wpAny_bind (wpAny_holding (jT ha ?_))
 have ha₁:(s.heap.push (jR a 0 0)).get? a=some (jg (bY w)):=Heap.get?_push_of_some _ ha
 refine wpAny_bind (wpAny_holding ?_)
 unfold draw
 refine wpAny_bind (fg (s:={ s with heap:=s.heap.push (jR a 0 0)}) hlt ha₁ (Heap.get?_push_size _ rfl) fun h₁ g₁ b₁=>?_)
 unfold draw
 refine wpAny_bind (wpAny_holding (wpAny_pure (wpAny_pure ?_)))
 rw [if_neg (by simp)]
 have ha₂:h₁.get? a=some (jg (bY w)):=(b₁.2 _ hlt).trans ha₁
 refine wpAny_bind (wpAny_holding (fJ (s:={ s with heap:=h₁}) hh hlt ha₂ g₁ fun h₂ b₂=>?_))
 simp only [Option.isSome_none,Bool.false_eq_true,if_false]
 exact wpAny_pure (hQ h₂ fun b o hb e=>b₂ b o hb (b₁.extBut b o hb (Heap.get?_push_of_some _ e)))
end
section
variable {D:Wd}{A:Around}{L:Addr}{σ:St}{env:Env}
theorem S.assignSet1{x:Expr}{k:Nat}{tpos:Pos}{value:Expr}{pos:Pos}{Q:Flow→St→Prop}(hh:A.handled=Option.none)
 (h:WE D A L (eval value env) (fun v σ₁=> ∃ t,v= .ref t∧σ₁.H t=some (.raw (jg (bY D.w)))∧InOrder D A L ((assignEach [x] env).map (·.2)) [.bool true] (fun σ₂=>Q .next σ₂) σ₁) σ)
 (hstar:(assignEach [x] env).findIdx? (·.1)=Option.none:=by rfl)
 (hs:swapsWithSole [.Tuple [x] k tpos] value pos.line env=Pure.pure false:=by rfl) (hw:swappedStores [.Tuple [x] k tpos] value env=Pure.pure Option.none:=by rfl):
 WS D A L env (.Assign [.Tuple [x] k tpos] value pos) Q σ:=fun Φ s R=>by
 refine PyProof.Rows.Assign_Tuple (wpAny_mono (h Φ s R) (fun v s₁=>fy fun σ₁ R₁ t ev ht hi=>?_) fun _ _ x=>x) hs hw
 rw [al ev,arm_assign_Tuple]
 refine wpAny_bind (wpAny_standAt ?_)
 unfold unpack
 rw [hstar]
 have hn:(assignEach [x] env).length=1:=by cases x<;> rfl
 rw [hn]
 obtain⟨o,ho,er⟩:=(R₁.rel.obj t _ ht).2
 subst er
 refine wpAny_bind (wpAny_holding (wpAny_mono (jM (Q:=fun vs s'=>vs= [.bool true]∧Rel D L Φ σ₁ s') (E:=fun _ _=>False) hh ho fun h' he=>⟨rfl,?_⟩) (fun vs s₂=>gD fun e R₂=>?_) fun _ _ x=>x))
 ·have hid:Hid Φ (upd σ₁.H L (.ns σ₁.loc)) [s₁.heap.objs.size]:=R₁.push0.fresh1 (Nat.le_refl _)
  have:=Rel.pop0 (R₁.push0.hid (t:=s₁.toks) hid fun b o hb e=>he b o (fun q=>hb (List.mem_singleton.mpr q)) e) (L:=L) (ah ..)
  rwa [bf R₁.HL]at this
 ·subst e
  exact InOrder.run (vs:= [.bool true]) hi Φ s₂ R₂
end
end Mine
end
section
open PySem PySem.W PyProof.Rows PySem.Calls PySem.SeqAt
namespace Mine
section
variable {D:Wd}{A:Around}{L:Addr}{α β:Type}{σ:St}{env:Env}{Φ:Frz}{H:AH}{s:Shared}{fp:List Addr}
theorem lF{e it l:Addr}{vs:List Value}{elts:List Expr}{n1:Nat}{p1:Pos}(hh:A.handled=none)(hne:e≠it):
 Turns D A (.Tuple elts n1 p1) vs.length (fun k=> .inr (.tuple [.int k 0,vs.getD k .none])) [(l,.list vs)] e [e,it]
  (fun k h=> ∃ old,IsEnum h e it (k:Int) old∧h.IsListIter it l k)
  (fun v k h=> ∃ a x,v= .ref a∧IsEnumOut h e it (k:Int) x a∧h.IsListIter it l k) where
 frame:=fun k h h'=>ar fun old he hit kk=>⟨old,kk _ (.head _) _ he,hit.at fun o e=>kk _ (.tail _ (.head _)) o e⟩
 live:=fun k h=>ar fun old he hit b hb=>by
  rcases List.mem_cons.mp hb with q | q
  ·exact⟨_,q▸he⟩
  ·rw [List.mem_singleton.mp q];refine ai hit fun o ho _=>?_;clear hit;exact⟨o,ho⟩
 next:=fun k F H s Q R G hd=>ar fun old he hit hk hq=>by
  refine ai (R.listOf (G _ (.head _))) fun its hl ei=>?_
  refine ai (bj ei hk) fun x hx ex=>?_
  refine wpAny_pyNext_enum_item he hit hl hx hne fun h' a1 a2 a3 a4 a5=>?_
  have hfp:∀ b o,b∉ [e,it]→s.heap.get? b=some o→h'.get? b=some o:=fun b o hb eo=>a5 b o (fun q=>hb (q▸ .head _)) (fun q=>hb (q▸ .tail _ (.head _))) eo
  have R1:=R.hid (t:=s.toks+1) hd hfp
  have hn:=R.fresh (dy s.heap)
  have hlt:∀ b∈ [e,it],b≠s.heap.objs.size:=fun b hb q=>by
   rcases List.mem_cons.mp hb with z | z
   ·have:=Heap.lt_size he;rw [← z,q]at this;exact absurd this (Nat.lt_irrefl _)
   ·refine ai hit fun o ho _=>?_;clear hit;have:=Heap.lt_size ho;rw [← List.mem_singleton.mp z,q]at this;exact absurd this (Nat.lt_irrefl _)
  refine hq _ _ _ (R1.adopt (a:=s.heap.objs.size) (ao:= .tuple [.int k 0,vs.getD k .none]) ⟨_,a3,_,_,rfl,by rw [← ex];rfl⟩ hn.1 R.big) (fun b hb=>⟨(hd b hb).1,by rw [af (hlt b hb)];exact(hd b hb).2⟩) ⟨_,x,rfl,by simpa using a1,a2⟩ ⟨_,rfl,hn.2,rfl⟩
 go:=fun v k F H s Q R hd=>cV fun a x ev he hit hq=>by
  subst ev
  refine wpAny_letOwnedTupleGo_enum he fun h' he' hs'=>hq _ (R.hid (t:=s.toks) hd fun b o hb eo=>(hs'.2 b fun q=>hb (q▸ .head _)).trans eo) ⟨x,he',hit.at fun o eo=>(hs'.2 it hne.symm).trans eo⟩
 stop:=fun F H s Q R G hd=>ar fun old he hit hq=>by
  refine ai (R.listOf (G _ (.head _))) fun its hl ei=>?_
  refine wpAny_pyNext_enum_end hh he hit hl (cT ei (Nat.le_refl _)) fun h' hb=>?_
  have hb:∀ b o,b∉ [e,it]→s.heap.get? b=some o→h'.get? b=some o:=fun b o hb' eo=>hb b o (fun q=>hb' (q▸ .tail _ (.head _))) eo
  exact hq _ (R.hid (t:=s.toks) hd hb) hb
 self:=fun k F H s Q R=>ar fun old he hit hq=>wpAny_pyIter_enum he hq
theorem It.enumerate{x:Str}{p pos:Pos}{e:Expr}{elts:List Expr}{n1:Nat}{p1:Pos}{Q:Nat→(Nat→Value ⊕ AO)→List (Addr×AO)→St→Prop}(hh:A.handled=none)
 (h:WE D A L (eval e env) (fun v σ₁=> ∃ l vs,v= .ref l∧σ₁.H l=some (.list vs)∧Q vs.length (fun k=> .inr (.tuple [.int k 0,vs.getD k .none])) [(l,.list vs)] σ₁) σ)
 (hx:∀ P,nsIn (K0 P) mainGlobals x=some Option.none) (hv:bootBuiltins x=some (.type "enumerate"))
 (he:starEach [e] env= [(false,eval e env)]:=by rfl)
 (hplain:(backTo pos (starEach [e] env)).any (·.1)=false:=by rfl) (hg:env.globals=mainGlobals:=by rfl) (hb:env.builtins=builtinsNs:=by rfl) (hk:env.scope.kind= .function:=by rfl) (hl:env.kindOf x=some .globalImplicit:=by rfl) (hdb:(x==("__debug__" :Str))=false:=by decide) (hn:x≠ "__name__" :=by decide):
 It D A L env (.Tuple elts n1 p1) (.Call (.Name x p) [e] [] pos) Q σ:=fun F s R=>by
 rw [show eval (.Call (.Name x p) [e] [] pos) env=(do callWith pos (← eval (.Name x p) env) [] (backTo pos (starEach [e] env)) [])from rfl]
 refine wpAny_bind (wpAny_mono (E.builtin (Q:=fun v σ'=>v= .type "enumerate" ∧σ'=σ) hx hv ⟨rfl,rfl⟩ hg hb hk hl hdb hn F s R) (fun v s₁=>aK fun σ₁ R₁ ev eσ=>?_) fun _ _ x=>x)
 rw [cE ev];subst eσ
 refine PyProof.Rows.callWith_type hplain (bB hplain ?_)
 refine wpAny_mono (I.cons (pos:=pos) (r:= []) (Q:=fun ws σ'=> ∃ l vs,ws= [.ref l]∧σ'.H l=some (.list vs)∧Q vs.length (fun k=> .inr (.tuple [.int k 0,vs.getD k .none])) [(l,.list vs)] σ') (W.mono h fun v σ'=>cV fun l vs e1 e2 q=>I.nil ⟨l,vs,by rw [e1],e2,q⟩) (by rw [he];rfl) F s₁ R₁) (fun ws s₂=>jA fun σ₂ R₂ l vs e1 hl2 q=>?_) fun _ _ x=>x
 refine d7 e1 fun v1 e2=>?_;obtain rfl:=al e2
 refine b6 (R₂.listAt hl2) fun its n ho ei=>?_
 refine call_enumerate_1 ho fun h' i1 i2 i3 i4=>?_
 refine wpAny_pyIter_enum i1 ?_
 have nf:∀ b,s₂.heap.objs.size≤b→F b=none∧upd σ₂.H L (.ns σ₂.loc) b=none:=fun b hb=>R₂.push0.fresh (Heap.get?_none_of_le hb)
 refine⟨vs.length,_,_,_,_,_,_,σ₂,rfl,R₂.ext (t:=s₂.toks) i4,fun b hb=>?_,⟨.none,i1,i2⟩,lF hh (Nat.ne_of_gt (Nat.lt_succ_self _)),Has.one hl2,q⟩
 rcases List.mem_cons.mp hb with z | z
 ·exact nf b (by rw [z];exact Nat.le_succ _)
 ·exact nf b (by rw [List.mem_singleton.mp z];exact Nat.le_refl _)
end
end Mine
end
section
open PySem PySem.W PyProof.Rows PySem.Calls PySem.SeqAt
namespace Mine
section
variable {g:Str→Str}{order gone group:List Str}
structure Ordr (order:List Str):Prop where
 mem:∀ x,x∈order↔x∈NM
 nd:order.Nodup
theorem nextG_iff:∀ {due:List Str} {x:Str},x∈aN g order gone due↔x∈due∧ ∀ one∈order,g one=x→one∈gone
 | [],x=>by simp [aN]
 | y::r,x=>by
  unfold aN
  by_cases q:y∉r∧ ∀ one∈order,g one=y→one∈gone
  ·rw [if_pos q,List.mem_cons,List.mem_cons,nextG_iff (due:=r)]
   constructor
   ·rintro(rfl | ⟨a,b⟩)
    ·exact⟨.inl rfl,q.2⟩
    ·exact⟨.inr a,b⟩
   ·rintro⟨rfl | a,b⟩
    ·exact .inl rfl
    ·exact .inr ⟨a,b⟩
  ·rw [if_neg q,nextG_iff (due:=r),List.mem_cons]
   constructor
   ·rintro⟨a,b⟩;exact⟨.inr a,b⟩
   ·rintro⟨rfl | a,b⟩
    ·refine⟨?_,b⟩
     apply Classical.byContradiction
     intro h
     exact q ⟨h,b⟩
    ·exact⟨a,b⟩
theorem dI:∀ {due:List Str},(aN g order gone due).Nodup
 | []=>by simp [aN]
 | y::r=>by
  unfold aN
  split
  ·rename_i q
   rw [List.nodup_cons]
   exact⟨fun h=>q.1 (nextG_iff.mp h).1,dI⟩
  ·exact dI
structure KInv (g:Str→Str) (gone group:List Str):Prop where
 sub:∀ x∈gone++group,x∈NM
 nd:(gone++group).Nodup
 pre:∀ x∈gone++group,∀ y∈NM,g y=x→y∈gone
 off:∀ x∈gone++group,¬ Per g x
 full:∀ x∈NM,(∀ y∈NM,g y=x→y∈gone)→x∈gone++group
 topo:∀ l₁ x l₂,gone++group=l₁++x::l₂→ ∀ y∈NM,g y=x→y∈l₁
theorem KInv.apart(K:KInv g gone group){x:Str}(h:x∈group):x∉gone:=fun q=>(List.nodup_append.mp K.nd).2.2 x q x h rfl
theorem KInv.ahead(K:KInv g gone group){x:Str}(h:x∈group):g x∉gone++group:=fun q=>K.apart h (K.pre _ q x (K.sub x (List.mem_append_right _ h)) rfl)
theorem KInv.next(hg:bK g)(O:Ordr order)(K:KInv g gone group):KInv g (gone++group) (aN g order (gone++group) (group.map g)) where
 sub:=fun x h=>by
  rcases List.mem_append.mp h with h | h
  ·exact K.sub x h
  ·refine ai (List.mem_map.mp (nextG_iff.mp h).1) fun y hy h2_=>?_;obtain rfl:=h2_
   exact hg y (K.sub y (List.mem_append_right _ hy))
 nd:=by
  rw [List.nodup_append]
  refine⟨K.nd,dI,fun a ha b hb e=>?_⟩
  subst e
  refine ai (List.mem_map.mp (nextG_iff.mp hb).1) fun y hy h2_=>?_;obtain rfl:=h2_
  exact K.ahead hy ha
 pre:=fun x h y hy e=>by
  rcases List.mem_append.mp h with h | h
  ·exact List.mem_append_left _ (K.pre x h y hy e)
  ·exact(nextG_iff.mp h).2 y ((O.mem y).mpr hy) e
 off:=fun x h q=>by
  rcases List.mem_append.mp h with h' | h'
  ·exact K.off x h' q
  ·refine ai q.back fun n a b=>?_
   have hx:x∈NM:=by
    refine ai (List.mem_map.mp (nextG_iff.mp h').1) fun y hy h2_=>?_;obtain rfl:=h2_
    exact hg y (K.sub y (List.mem_append_right _ hy))
   exact K.off _ ((nextG_iff.mp h').2 _ ((O.mem _).mpr (cD hg n hx)) b) a
 full:=fun x hx h=>by
  by_cases q:∀ y∈NM,g y=x→y∈gone
  ·exact List.mem_append_left _ (K.full x hx q)
  ·have⟨y,q⟩:=Classical.not_forall.mp q
   have⟨hy,q⟩:=Classical.not_imp.mp q
   have⟨e,q⟩:=Classical.not_imp.mp q
   refine List.mem_append_right _ (nextG_iff.mpr ⟨List.mem_map.mpr ⟨y,?_,e⟩,fun z hz ez=>h z ((O.mem z).mp hz) ez⟩)
   exact(List.mem_append.mp (h y hy e)).resolve_left q
 topo:=fun l₁ x l₂ e y hy ey=>by
  rcases List.append_eq_append_iff.mp e with⟨a,e1,e2⟩ | ⟨a,e1,e2⟩
  ·have hx:x∈aN g order (gone++group) (group.map g):=by rw [e2];simp
   rw [e1]
   exact List.mem_append_left _ ((nextG_iff.mp hx).2 y ((O.mem y).mpr hy) ey)
  ·cases a with
   | nil=>
    have hx:x∈aN g order (gone++group) (group.map g):=by rw [List.nil_append]at e2;rw [← e2];simp
    rw [List.append_nil]at e1
    rw [← e1]
    exact(nextG_iff.mp hx).2 y ((O.mem y).mpr hy) ey
   | cons b a=>
    obtain rfl:x=b:=by simp at e2;exact e2.1
    exact K.topo l₁ x a e1 y hy ey
theorem cy(O:Ordr order){x:Str}:x∈leaves g order↔x∈NM∧ ∀ y∈NM,g y≠x:=by
 unfold leaves
 rw [List.mem_filter,O.mem,decide_eq_true_iff,List.mem_map]
 refine and_congr_right fun _=>⟨fun h y hy e=>h ⟨y,hy,e⟩,fun h=>ar fun y hy e=>h y hy e⟩
theorem KInv.start(hg:bK g)(O:Ordr order):KInv g [] (leaves g order) where
 sub:=fun x h=>((cy O).mp h).1
 nd:=O.nd.sublist List.filter_sublist
 pre:=fun x h y hy e=>absurd e (((cy O).mp h).2 y hy)
 off:=fun x h q=>by
  refine ai q.back fun n a b=>?_
  obtain⟨h1,h2⟩:=(cy O).mp h
  exact h2 _ (cD hg n h1) b
 full:=fun x hx h=>(cy O).mpr ⟨hx,fun y hy e=>nomatch h y hy e⟩
 topo:=fun l₁ x l₂ e y hy ey=>by
  have hx:x∈leaves g order:=by rw [List.nil_append]at e;rw [e];simp
  exact absurd ey (((cy O).mp hx).2 y hy)
theorem KInv.len(K:KInv g gone group):gone.length+group.length≤8:=by
 have:=cR K.nd K.sub
 rw [List.length_append,ie]at this;exact this
theorem gN(hg:bK g)(O:Ordr order):∀ (n:Nat) (gone group:List Str),KInv g gone group→9≤n+gone.length→
 KInv g (gone++(aL g order n group gone).flatten) []∧fC g order n group gone
 | 0,gone,group,K,h=>by have:=K.len;exact(qD this h).elim
 | n+1,gone,group,K,h=>by
  unfold aL fC
  by_cases q:group= []
  ·subst q
   rw [if_pos rfl]
   exact⟨by simpa using K,.inl rfl⟩
  ·rw [if_neg q]
   have hl:0<group.length:=List.length_pos_iff.mpr q
   have:=gN hg O n _ _ (K.next hg O) (by rw [List.length_append];exact qC hl h)
   rw [List.flatten_cons,← List.append_assoc]
   exact⟨this.1,.inr this.2⟩
noncomputable def an(g:Str→Str)(order:List Str):List Str:=(aC g order).flatten
theorem dw(hg:bK g)(O:Ordr order):KInv g (an g order) []∧fC g order 9 (leaves g order) []:=gN hg O 9 [] _ (KInv.start hg O) (by simp)
theorem dv(hg:bK g)(O:Ordr order){x:Str}(hx:x∈NM):x∈an g order↔x∉am g:=by
 have K:=(dw hg O).1
 constructor
 ·intro h q
  exact K.off x (List.mem_append_left _ h) ((bC hg).mp q).2
 ·intro h
  apply Classical.byContradiction
  intro hn
  refine h ((bC hg).mpr ⟨hx,pB hg (fun x=>x∈NM∧x∉an g order) ?_ ⟨hx,hn⟩⟩)
  rintro z ⟨hz,hzn⟩
  refine⟨hz,?_⟩
  apply Classical.byContradiction
  intro q
  have:=K.full z hz fun y hy e=>by
   apply Classical.byContradiction
   intro hy'
   exact q ⟨y,⟨hy,hy'⟩,e⟩
  rw [List.append_nil]at this
  exact hzn this
theorem nk(hg:bK g)(O:Ordr order){l₁ l₂:List Str}{x:Str}(e:an g order=l₁++x::l₂):g x∈am g∨g x∈l₂:=by
 have K:=(dw hg O).1
 have hx:x∈NM:=K.sub x (by rw [e];simp)
 by_cases q:g x∈am g
 ·exact .inl q
 ·right
  have hg':=(dv hg O (hg x hx)).mpr q
  refine jC (List.append_of_mem hg') fun a b e2=>?_
  have hxa:=K.topo a (g x) b (by rw [List.append_nil];exact e2) x hx rfl
  have nd:=K.nd
  rw [List.append_nil]at nd
  refine jC (List.append_of_mem hxa) fun c d h2_=>?_;obtain rfl:=h2_
  have e3:l₁++x::l₂=c++x::(d++g x::b):=by rw [← e,e2];simp
  rw [e]at nd
  have:l₁=c∧l₂=d++g x::b:=by
   rcases List.append_eq_append_iff.mp e3 with⟨u,e4,e5⟩ | ⟨u,e4,e5⟩
   ·cases u with
    | nil=>simp at e4 e5;exact⟨e4.symm,e5⟩
    | cons y u=>
     simp at e5
     obtain⟨rfl,e5⟩:=e5
     exfalso
     rw [e5]at nd
     have:=(List.nodup_append.mp nd).2.1
     simp at this
   ·cases u with
    | nil=>simp at e4 e5;exact⟨e4,e5.symm⟩
    | cons y u=>
     simp at e5
     obtain⟨rfl,e5⟩:=e5
     exfalso
     rw [e4]at nd
     exact(List.nodup_append.mp nd).2.2 x (by simp) x (by simp) rfl
  rw [this.2];simp
noncomputable def cnt(g:Str→Str)(order gone:List Str)(x:Str):Nat:=(order.filter fun y=>decide (g y=x∧y∉gone)).length
theorem oE{x:Str}:cnt g order gone x=0↔ ∀ y∈order,g y=x→y∈gone:=by
 unfold cnt
 rw [List.length_eq_zero_iff,List.filter_eq_nil_iff]
 refine⟨fun h y hy e=>?_,fun h y hy=>?_⟩
 ·have:=h y hy
  apply Classical.byContradiction
  intro q
  exact this (by simp [e,q])
 ·simp only [decide_eq_true_iff]
  rintro⟨e,q⟩
  exact q (h y hy e)
theorem nF{n x:Str}(h:g n≠x):cnt g order (gone++ [n]) x=cnt g order gone x:=by
 unfold cnt
 congr 1
 refine List.filter_congr fun y _=>?_
 by_cases e:y=n
 ·subst e;simp [h]
 ·simp [e]
theorem hE{p:Str→Bool}{n:Str}:∀ {l:List Str},l.Nodup→n∈l→p n=true→(l.filter p).length=(l.filter fun y=>p y && decide (y≠n)).length+1
 | [],_,h,_=>nomatch h
 | x::r,hd,hm,hp=>by
  rw [List.nodup_cons]at hd
  by_cases e:x=n
  ·subst e
   rw [List.filter_cons_of_pos hp,List.filter_cons_of_neg (by simp),List.length_cons]
   congr 2
   refine List.filter_congr fun y hy=>?_
   have:y≠x:=fun q=>hd.1 (q▸hy)
   simp [this]
  ·have ih:=hE hd.2 ((List.mem_cons.mp hm).resolve_left (Ne.symm e)) hp
   cases q:p x
   ·rw [List.filter_cons_of_neg (by simp [q]),List.filter_cons_of_neg (by simp [q])];exact ih
   ·rw [List.filter_cons_of_pos q,List.filter_cons_of_pos (by simp [q,e]),List.length_cons,List.length_cons,ih]
theorem pT(O:Ordr order){n:Str}(hn:n∈NM)(h:n∉gone):cnt g order gone (g n)=cnt g order (gone++ [n]) (g n)+1:=by
 unfold cnt
 rw [hE O.nd ((O.mem n).mpr hn) (by simp [h])]
 congr 2
 refine List.filter_congr fun y _=>?_
 rw [Bool.eq_iff_iff]
 simp only [Bool.and_eq_true,decide_eq_true_iff,List.mem_append,List.mem_singleton,not_or,ne_eq,and_assoc]
noncomputable def KV(g:Str→Str)(order gone:List Str)(V:Vw):Prop:=∀ x∈NM,V.np x=if x∈gone then -2 else(cnt g order gone x:Int)
noncomputable def MV(g:Str→Str)(order gone S:List Str)(V:Vw):Prop:=∀ x∈NM,V.np x=if x∈gone then -2 else if x∈S then -1 else(cnt g order gone x:Int)
theorem MV.step(hg:bK g)(O:Ordr order){n:Str}{P S:List Str}{V:Vw}{R:List Str}(K:KInv g gone group)(e:group=P++n::S)(M:MV g order (gone++P) (n::S) V):
 V.np n= -1∧MV g order (gone++(P++ [n])) S (fin g (V,R) n).1∧(fin g (V,R) n).2++aN g order (gone++group) (S.map g)=R++aN g order (gone++group) ((n::S).map g):=by
 have hn:n∈group:=by rw [e];simp
 have hnN:n∈NM:=K.sub n (List.mem_append_right _ hn)
 have nd:=K.nd
 have hng:n∉gone:=K.apart hn
 rw [e]at nd
 have nd2:=(List.nodup_append.mp nd).2.1
 have hnP:n∉P:=fun q=>(List.nodup_append.mp nd2).2.2 n q n (by simp) rfl
 have hnS:n∉S:=(List.nodup_cons.mp (List.nodup_append.mp nd2).2.1).1
 have hnGP:n∉gone++P:=by simp [hng,hnP]
 have ha:=K.ahead hn
 have hgG:g n∉gone:=fun q=>ha (List.mem_append_left _ q)
 have hgg:g n∉group:=fun q=>ha (List.mem_append_right _ q)
 have hgP:g n∉gone++P:=by
  rw [List.mem_append];rintro(q | q)
  ·exact hgG q
  ·exact hgg (by rw [e];simp [q])
 have hgn:g n≠n:=fun q=>hgg (by rw [q];exact hn)
 have hgS:g n∉S:=fun q=>hgg (by rw [e];simp [q])
 have hgnS:g n∉n::S:=by rw [List.mem_cons];rintro(q | q);exact hgn q;exact hgS q
 have h1:=M (g n) (hg n hnN)
 rw [if_neg hgP,if_neg hgnS,pT O hnN hnGP]at h1
 have h2:(V.setN n (-2)).np (g n)-1=(cnt g order (gone++(P++ [n])) (g n):Int):=by
  show(if g n=n then(-2:Int)else V.np (g n))-1=_
  rw [if_neg hgn,h1,← List.append_assoc];exact uF
 refine⟨?_,?_,?_⟩
 ·have:=M n hnN
  rw [if_neg hnGP,if_pos (by simp)]at this;exact this
 ·intro x hx
  show(if x=g n then(V.setN n (-2)).np (g n)-1 else if x=n then(-2:Int)else V.np x)=_
  by_cases q:x=g n
  ·rw [if_pos q,h2,q,if_neg,if_neg hgS]
   rw [← List.append_assoc,List.mem_append,List.mem_singleton]
   rintro(q | q)
   ·exact hgP q
   ·exact hgn q
  ·rw [if_neg q]
   by_cases r:x=n
   ·subst r
    rw [if_pos rfl,if_pos (by simp)]
   ·rw [if_neg r,M x hx,← List.append_assoc,nF (Ne.symm q)]
    simp [r]
 ·have key:cnt g order (gone++(P++ [n])) (g n)=0↔g n∉S.map g∧ ∀ one∈order,g one=g n→one∈gone++group:=by
   rw [oE]
   constructor
   ·intro h
    refine⟨fun q=>?_,fun one ho eo=>?_⟩
    ·refine ai (List.mem_map.mp q) fun y hy ey=>?_
     have hyg:y∈group:=by rw [e];simp [hy]
     have:=h y ((O.mem y).mpr (K.sub y (List.mem_append_right _ hyg))) ey
     rw [List.mem_append,List.mem_append,List.mem_singleton]at this
     rcases this with q | q | q
     ·exact K.apart hyg q
     ·exact(List.nodup_append.mp nd2).2.2 y q y (by simp [hy]) rfl
     ·subst q;exact hnS hy
    ·have:=h one ho eo
     rw [List.mem_append,List.mem_append,List.mem_singleton]at this
     rw [List.mem_append,e]
     rcases this with q | q | q
     ·exact .inl q
     ·exact .inr (by simp [q])
     ·exact .inr (by simp [q])
   ·rintro⟨h1,h2⟩ y hy ey
    have:=h2 y hy ey
    rw [List.mem_append,e,List.mem_append,List.mem_cons]at this
    rw [List.mem_append,List.mem_append,List.mem_singleton]
    rcases this with q | q | q | q
    ·exact .inl q
    ·exact .inr (.inl q)
    ·exact .inr (.inr q)
    ·exact absurd (List.mem_map.mpr ⟨y,q,ey⟩) h1
  show(if (V.setN n (-2)).np (g n)-1=0 then R++ [g n]else R)++_=R++aN g order (gone++group) (g n::S.map g)
  rw [h2]
  conv=>rhs;unfold aN
  by_cases q:cnt g order (gone++(P++ [n])) (g n)=0
  ·rw [if_pos (by exact uE q),if_pos (key.mp q),List.append_assoc];rfl
  ·rw [if_neg (by exact uC q),if_neg fun h=>q (key.mpr h)]
theorem MV.run(hg:bK g)(O:Ordr order)(K:KInv g gone group):∀ (S P:List Str) (V:Vw) (R:List Str),group=P++S→MV g order (gone++P) S V→
 MV g order (gone++group) [] (eQ g (V,R) S).1∧(eQ g (V,R) S).2=R++aN g order (gone++group) (S.map g)∧ ∀ j,j<S.length→(eQ g (V,R) (S.take j)).1.np (S.getD j default)= -1
 | [],P,V,R,e,M=>by
  rw [List.append_nil]at e;subst e
  exact⟨M,by simp [eQ,aN],fun j h=>absurd h (by simp)⟩
 | n::S,P,V,R,e,M=>by
  refine aE (MV.step hg O (R:=R) K e M) fun h1 h2 h3=>?_
  have ih:=MV.run hg O K S (P++ [n]) (fin g (V,R) n).1 (fin g (V,R) n).2 (by rw [e];simp) h2
  have es:eQ g (V,R) (n::S)=eQ g ((fin g (V,R) n).1,(fin g (V,R) n).2) S:=rfl
  rw [es]
  refine⟨ih.1,ih.2.1.trans h3,fun j hj=>?_⟩
  cases j with
  | zero=>exact h1
  | succ j=>
   have:=ih.2.2 j (by simpa using hj)
   simpa [eQ] using this
theorem lK(hg:bK g)(O:Ordr order)(K:KInv g gone group){V:Vw}(M:KV g order gone V):
 KV g order (gone++group) (eQ g (V.outs group,[]) group).1∧(eQ g (V.outs group,[]) group).2=aN g order (gone++group) (group.map g)∧ ∀ j,j<group.length→(eQ g (V.outs group,[]) (group.take j)).1.np (group.getD j default)= -1:=by
 have:=MV.run hg O K group [] (V.outs group) [] rfl (by
  intro x hx
  rw [List.append_nil]
  show(if x∈group then(-1:Int)else V.np x)=_
  by_cases q:x∈group
  ·rw [if_pos q,if_neg (K.apart q),if_pos q]
  ·rw [if_neg q,if_neg q,M x hx])
 refine⟨fun x hx=>?_,by simpa using this.2.1,this.2.2⟩
 have h:=this.1 x hx
 simpa using h
noncomputable def V0:Vw:=⟨[],fun _=>0,fun _=> []⟩
noncomputable def aX(g:Str→Str)(l:List Str):Vw:=l.foldl (fun V one=>V.add (g one) one) V0
theorem eE(l:List Str)(x:Str):aX g (l++ [x])=(aX g l).add (g x) x:=by simp [aX]
theorem ik{V:Vw}{k x:Str}:x∈(V.touch k).ks↔x∈V.ks∨x=k:=by
 unfold Vw.touch;dsimp only
 split
 ·rename_i h
  exact⟨.inl,fun q=>q.elim id fun e=>e▸h⟩
 ·simp
theorem c8(hl:∀ x∈order,x∈NM):∀ (l:List Str),l.Nodup→(∀ x,(aX g l).np x=((l.filter fun y=>decide (g y=x)).length:Int))∧(∀ x,(aX g l).sc x=if x∈l then [g x]else [])∧(∀ x,x∈(aX g l).ks↔x∈l∨x∈l.map g):=by
 intro l
 generalize hm:l.length=m
 induction m generalizing l with
 | zero=>
  intro _
  obtain rfl:=List.length_eq_zero_iff.mp hm
  exact⟨fun x=>rfl,fun x=>by simp [aX,V0],fun x=>by simp [aX,V0]⟩
 | succ m ih=>
  intro hd
  obtain⟨r,x,rfl⟩:∃ r x,l=r++ [x]:=⟨l.dropLast,l.getLast (by intro e;rw [e]at hm;cases hm),(List.dropLast_concat_getLast _).symm⟩
  rw [List.length_append,List.length_singleton]at hm
  have hd':=List.nodup_append.mp hd
  refine aE (ih r (by exact pv hm) hd'.1) fun a b c=>?_
  have hx:x∉r:=fun q=>hd'.2.2 x q x (by simp) rfl
  rw [eE]
  refine⟨fun y=>?_,fun y=>?_,fun y=>?_⟩
  ·show(if y=g x then(aX g r).np (g x)+1 else(aX g r).np y)=_
   rw [List.filter_append,List.length_append]
   by_cases q:y=g x
   ·subst q;rw [if_pos rfl,a];simp
   ·rw [if_neg q,a];simp [Ne.symm q]
  ·show(if y=x then(aX g r).sc x++ [g x]else(aX g r).sc y)=_
   by_cases q:y=x
   ·subst q;rw [if_pos rfl,b,if_neg hx];simp
   ·rw [if_neg q,b];simp [q]
  ·show y∈((((aX g r).touch (g x)).setN (g x) _).touch x).ks↔_
   rw [ik]
   show(y∈((aX g r).touch (g x)).ks∨_)↔_
   rw [ik,c]
   simp only [List.map_append,List.mem_append,List.map_cons,List.map_nil,List.mem_singleton]
   constructor
   ·rintro(((q | q) | q) | q)
    ·exact .inl (.inl q)
    ·exact .inr (.inl q)
    ·exact .inr (.inr q)
    ·exact .inl (.inr q)
   ·rintro((q | q) | (q | q))
    ·exact .inl (.inl (.inl q))
    ·exact .inr q
    ·exact .inl (.inl (.inr q))
    ·exact .inl (.inr q)
theorem nN:∀ (l:List Str) {x:Str} {r:List Str},l=x::r→ ∃ rest,(aX g l).ks=g x::rest:=by
 intro l
 generalize hm:l.length=m
 induction m generalizing l with
 | zero=>intro x r e;rw [e]at hm;cases hm
 | succ m ih=>
  intro x r e
  obtain⟨r',y,rfl⟩:∃ r x,l=r++ [x]:=⟨l.dropLast,l.getLast (by intro e;rw [e]at hm;cases hm),(List.dropLast_concat_getLast _).symm⟩
  rw [List.length_append,List.length_singleton]at hm
  rw [eE]
  have grow:∀ (V:Vw) (k:Str) (z:Str) (t:List Str),V.ks=z::t→ ∃ rest,(V.touch k).ks=z::rest:=by
   intro V k z t h
   unfold Vw.touch;dsimp only
   split
   ·exact⟨t,h⟩
   ·exact⟨t++ [k],by rw [h];rfl⟩
  cases r' with
  | nil=>
   simp at e
   obtain⟨rfl,-⟩:=e
   have h1:(((aX g []).touch (g y)).setN (g y) ((aX g []).np (g y)+1)).ks=g y::[]:=by
    show(if g y∈ []then []else []++ [g y])=_
    simp
   exact grow _ y _ _ h1
  | cons z r'=>
   simp at e
   obtain⟨rfl,-⟩:=e
   obtain⟨t,ht⟩:=ih (z::r') (by exact pv hm) rfl
   obtain⟨t1,h1⟩:=grow (aX g (z::r')) (g y) _ _ ht
   exact grow (((aX g (z::r')).touch (g y)).setN (g y) ((aX g (z::r')).np (g y)+1)) y _ _ h1
theorem kG{order:List Str}(hd:order.Nodup)(p:Str→Bool)(hp:∀ x∈order,p (g x)=false):∀ (l:List Str),l <+:order→(aX g l).ks.filter p=l.filter p:=by
 intro l
 generalize hm:l.length=m
 induction m generalizing l with
 | zero=>intro _;obtain rfl:=List.length_eq_zero_iff.mp hm;rfl
 | succ m ih=>
  intro hl
  obtain⟨r,x,rfl⟩:∃ r x,l=r++ [x]:=⟨l.dropLast,l.getLast (by intro e;rw [e]at hm;cases hm),(List.dropLast_concat_getLast _).symm⟩
  rw [List.length_append,List.length_singleton]at hm
  have hr:r <+:order:=(List.prefix_append _ _).trans hl
  have ih':=ih r (by exact pv hm) hr
  have hdl:(r++ [x]).Nodup:=hd.sublist hl.sublist
  have hx:x∉r:=fun q=>(List.nodup_append.mp hdl).2.2 x q x (by simp) rfl
  refine aE (c8 (g:=g) (order:=NM) (fun _ h=>h) r (List.nodup_append.mp hdl).1) fun _ _ ck=>?_
  have hgx:p (g x)=false:=hp x (hl.subset (by simp))
  rw [eE]
  show((((aX g r).touch (g x)).setN (g x) _).touch x).ks.filter p=_
  have e1:((aX g r).touch (g x)).ks.filter p=r.filter p:=by
   unfold Vw.touch;dsimp only
   split
   ·exact ih'
   ·rw [List.filter_append,ih'];simp [hgx]
  unfold Vw.touch;dsimp only
  show List.filter p (if x∈((aX g r).touch (g x)).ks then((aX g r).touch (g x)).ks else((aX g r).touch (g x)).ks++ [x])=_
  split
  ·rename_i h
   rw [e1,List.filter_append]
   rw [ik,ck]at h
   have:p x=false:=by
    rcases h with(h | h) | h
    ·exact absurd h hx
    ·refine ai (List.mem_map.mp h) fun y hy h2_=>?_;obtain rfl:=h2_
     exact hp y (hr.subset hy)
    ·rw [h];exact hgx
   simp [this]
  ·rw [List.filter_append,e1,List.filter_append]
end
end Mine
end
section
open PySem PySem.W PyProof.Rows PySem.Calls PySem.SeqAt
namespace Mine
section
variable {g:Str→Str}{order:List Str}
theorem fq(R:List Str)(x:Str):bt g R x=rd (cC g R x):=rfl
theorem dU(hg:bK g){x:Str}(hx:x∈NM):(∀ c∈cC g (am g) x,c∈NM)∧(cC g (am g) x).length≤16:=by
 refine aE (eW hg (R:=am g) 8 x [] hx (fun _ h=>nomatch h)) fun a b c=>?_
 refine⟨fun y hy=>?_,?_⟩
 ·rcases List.mem_append.mp hy with h | h
  ·refine ai (List.mem_map.mp (List.mem_of_mem_take h)) fun z hz h2_=>?_;obtain rfl:=h2_
   exact hg z (bP hg z hz)
  ·exact a y h
 ·unfold cC
  rw [List.length_append,List.length_take]
  have:=dW (g:=g)
  have:((am g).map g).length≤8:=by rw [List.length_map];exact this
  unfold aG
  simp only [List.length_nil]at c
  exact uv this c
theorem bT{C:List Str}(hC:∀ c∈C,c∈NM)(hn:C.length≤16):(rd C).length≤100:=by
 by_cases h:C= []
 ·subst h;rw [gO,c9];decide
 ·rw [ff h,b8,cM]
  have:∀ C:List Str,(∀ c∈C,c∈NM)→(C.flatMap fun c=>47::cs c).length≤4*C.length:=by
   intro C hC
   induction C with
   | nil=>simp
   | cons c r ih=>
    have h1:=eF c (hC c (by simp))
    rw [b8]at h1
    have h2:=ih fun x hx=>hC x (by simp [hx])
    rw [List.flatMap_cons,List.length_append,List.length_cons,List.length_cons]
    exact qB h1 h2
  have:=this C hC
  exact uu this hn
theorem kL(hg:bK g){j:Nat}(hj:j<(am g).length):cC g (am g) (g ((am g).getD j default))=((am g).map g).take (j+1):=by
 have hm:(am g).getD j default∈am g:=aF hj
 have hr:=jm hg hm
 unfold cC
 rw [ib hr,List.append_nil]
 congr 2
 have h1:((am g).map g)[j]'(by rw [List.length_map];exact hj)=g ((am g).getD j default):=by
  rw [List.getElem_map];simp [List.getD,hj]
 have:=(bS hg).idxOf_getElem j (by rw [List.length_map];exact hj)
 rw [h1]at this;exact this
theorem jj(hg:bK g){x:Str}(hx:x∈NM)(h:x∉am g):cC g (am g) x=cC g (am g) (g x)++ [x]:=by
 unfold cC
 rw [mr hg hx h]
 simp
theorem mU(hg:bK g){x:Str}(hx:x∈NM)(h:x∉am g):d8 (bt g (am g) (g x)) x=bt g (am g) x:=by
 rw [fq,fq,jj hg hx h]
 exact lb (fun c hc=>bN c ((dU hg (hg x hx)).1 c hc)) (bN x hx)
theorem lU(hg:bK g){j:Nat}(hj:j<(am g).length):d8 (rd (((am g).map g).take j)) (g ((am g).getD j default))=bt g (am g) (g ((am g).getD j default))∧bt g (am g) (g ((am g).getD j default))=rd (((am g).map g).take (j+1)):=by
 have hm:(am g).getD j default∈am g:=aF hj
 have sub:∀ c∈(am g).map g,c∈NM:=fun c hc=>by
  refine ai (List.mem_map.mp hc) fun z hz h2_=>?_;obtain rfl:=h2_
  exact hg z (bP hg z hz)
 refine⟨?_,by rw [fq,kL hg hj]⟩
 rw [fq,kL hg hj,lb (fun c hc=>bN c (sub c (List.mem_of_mem_take hc))) (bN _ (hg _ (bP hg _ hm)))]
 congr 1
 rw [List.take_add_one,List.getElem?_map]
 simp [List.getD,List.getElem?_eq_getElem hj]
noncomputable def aj(g:Str→Str):List Str:=(am g).map g
theorem kW(hg:bK g)(O:Ordr order){x:Str}(hx:x∈NM):x∈aj g++(an g order).reverse:=by
 by_cases h:x∈am g
 ·exact List.mem_append_left _ ((cw hg).mpr h)
 ·exact List.mem_append_right _ (List.mem_reverse.mpr ((dv hg O hx).mpr h))
theorem iA(hg:bK g)(O:Ordr order){x:Str}(h:x∈an g order):x∈NM:=(dw hg O).1.sub x (List.mem_append_left _ h)
theorem lX(hg:bK g)(O:Ordr order):(an g order).Nodup:=by have:=(dw hg O).1.nd;rwa [List.append_nil]at this
theorem o3(hg:bK g)(O:Ordr order):(an g order).length≤8:=by have:=(dw hg O).1.len;simpa using this
theorem gU(hg:bK g)(O:Ordr order):(aj g++(an g order).reverse).Nodup:=by
 rw [List.nodup_append]
 refine⟨bS hg,List.pairwise_reverse.mpr ((lX hg O).imp fun h=>Ne.symm h),fun a ha b hb e=>?_⟩
 subst e
 have:=List.mem_reverse.mp hb
 exact(dv hg O (iA hg O this)).mp this ((cw hg).mp ha)
theorem on(hg:bK g)(O:Ordr order){k:Nat}(hk:k<(an g order).length):g ((an g order).reverse.getD k default)∈aj g++(an g order).reverse.take k:=by
 have hk':k<(an g order).reverse.length:=by rw [List.length_reverse];exact hk
 have e1:(an g order).reverse=(an g order).reverse.take k++(an g order).reverse.getD k default::(an g order).reverse.drop (k+1):=by
  conv=>lhs;rw [← List.take_append_drop k (an g order).reverse]
  rw [List.drop_eq_getElem_cons hk']
  simp [List.getD,List.getElem?_eq_getElem hk']
 have e2:an g order=((an g order).reverse.drop (k+1)).reverse++(an g order).reverse.getD k default::((an g order).reverse.take k).reverse:=by
  have:=congrArg List.reverse e1
  rw [List.reverse_reverse,List.reverse_append,List.reverse_cons,List.append_assoc,List.singleton_append]at this
  exact this
 rcases nk hg O e2 with h | h
 ·exact List.mem_append_left _ ((cw hg).mpr h)
 ·exact List.mem_append_right _ (List.mem_reverse.mp h)
end
end Mine
end
section
open PySem PySem.W PyProof.Rows PySem.Calls PySem.SeqAt
namespace Mine
noncomputable def lcp:List Str→List Str→List Str
 | x::xs,y::ys=>if x=y then x::lcp xs ys else []
 | _,_=> []
theorem kU:∀ a b:List Str,lcp a b=lcp b a
 | [],[]=>rfl
 | [],_::_=>rfl
 | _::_,[]=>rfl
 | x::xs,y::ys=>by
  unfold lcp
  by_cases h:x=y
  ·subst h;simp [kU xs ys]
  ·rw [if_neg h,if_neg (Ne.symm h)]
theorem fN:∀ {a b:List Str},ltL a b=true→ltL b a=true→False
 | [],[],h,_=>by cases h
 | [],_::_,_,h=>by cases h
 | _::_,[],h,_=>by cases h
 | x::xs,y::ys,h,k=>by
  unfold ltL at h k
  by_cases e:x=y
  ·subst e;simp at h k;exact fN h k
  ·rw [if_neg e]at h;rw [if_neg (Ne.symm e)]at k
   exact List.lt_asymm (of_decide_eq_true h) (of_decide_eq_true k)
theorem lS(a:List Str):ltL a a=false:=by
 cases h:ltL a a
 ·rfl
 ·exact(fN h h).elim
theorem ju:∀ {a b:List Str},ltL a b=false→ltL b a=false→a=b
 | [],[],_,_=>rfl
 | [],_::_,h,_=>by cases h
 | _::_,[],_,h=>by cases h
 | x::xs,y::ys,h,k=>by
  unfold ltL at h k
  by_cases e:x=y
  ·subst e;simp at h k;rw [ju h k]
  ·rw [if_neg e]at h;rw [if_neg (Ne.symm e)]at k
   have h:=of_decide_eq_false h
   have k:=of_decide_eq_false k
   exact absurd (bb (List.le_antisymm (List.not_lt.mp k) (List.not_lt.mp h))) e
noncomputable def loL(a b:List Str):List Str:=if ltL b a then b else a
noncomputable def hiL(a b:List Str):List Str:=if ltL a b then b else a
theorem vo(a b:List Str):ltL (hiL a b) (loL a b)=false:=by
 unfold hiL loL
 cases h1:ltL b a<;> cases h2:ltL a b<;> simp [h1,h2,lS]
theorem mS(a b:List Str):lcp (loL a b) (hiL a b)=lcp a b:=by
 unfold hiL loL
 cases h1:ltL b a<;> cases h2:ltL a b
 ·rw [ju h2 h1];simp
 ·simp
 ·simp [kU a b]
 ·exact(fN h1 h2).elim
theorem kT:∀ {a b:List Str} {k:Nat},k<a.length→k<b.length→a.take k=b.take k→a.getD k default≠b.getD k default→lcp a b=a.take k
 | x::xs,y::ys,0,_,_,_,h=>by
  unfold lcp;rw [if_neg (by simpa using h)];rfl
 | x::xs,y::ys,k+1,h1,h2,e,h=>by
  simp only [List.take_succ_cons,List.cons.injEq]at e
  unfold lcp
  rw [if_pos e.1,kT (by simpa using h1) (by simpa using h2) e.2 (by simpa using h),List.take_succ_cons]
theorem mT:∀ {a b:List Str},a=b.take a.length→lcp a b=a
 | [],[],_=>rfl
 | [],_::_,_=>rfl
 | x::xs,[],h=>by simp at h
 | x::xs,y::ys,h=>by
  simp only [List.length_cons,List.take_succ_cons,List.cons.injEq]at h
  unfold lcp;rw [if_pos h.1,mT h.2]
theorem i8:∀ a b:List Str,lcp a b=a.take (lcp a b).length
 | [],[]=>rfl
 | [],_::_=>rfl
 | _::_,[]=>rfl
 | x::xs,y::ys=>by
  unfold lcp
  by_cases h:x=y
  ·rw [if_pos h,List.length_cons,List.take_succ_cons,← i8 xs ys]
  ·rw [if_neg h];rfl
theorem eY:∀ {a b:List Str},b.length<a.length→a.take b.length=b→ltL b a=true
 | [],b,h,_=>by simp at h
 | _::_,[],_,_=>rfl
 | x::xs,y::ys,h,e=>by
  simp only [List.length_cons,List.take_succ_cons,List.cons.injEq]at e
  unfold ltL;rw [if_pos e.1.symm];exact eY (by simpa using h) e.2
theorem mZ{a b:List Str}{k:Nat}(h:ltL b a=false)(hk:k<a.length)(e:a.take k=b.take k):k<b.length:=by
 rcases Nat.lt_or_ge k b.length with q | q
 ·exact q
 ·rw [List.take_of_length_le q]at e
  have hl:b.length=k:=by have:=congrArg List.length e;rw [List.length_take,Nat.min_eq_left (Nat.le_of_lt hk)]at this;exact this.symm
  rw [eY (by exact uG hl hk) (by rw [hl];exact e)]at h;cases h
theorem m8{a b:List Str}{k:Nat}(h1:k<a.length)(h2:k<b.length)(e:a.take k=b.take k)(h:a.getD k default=b.getD k default):a.take (k+1)=b.take (k+1):=by
 rw [List.take_succ_eq_append_getElem h1,List.take_succ_eq_append_getElem h2,e]
 simp only [List.getD_eq_getElem?_getD,List.getElem?_eq_getElem h1,List.getElem?_eq_getElem h2,Option.getD_some]at h
 rw [h]
theorem kJ{C:List Str}(h:C≠ [])(hC:∀ c∈C,Good c):Txt.split (rd C) SL=Str.ofString "" ::C:=by
 have h0:cs (Str.ofString "")= []:=by decide+kernel
 have:rd C=Str.join SL (Str.ofString "" ::C):=bb (by rw [ff h,cM,bg,h0,fk];simp)
 rw [this]
 exact eM (by simp) fun c hc=>by
  rcases List.mem_cons.mp hc with q | q
  ·rw [q,h0];simp
  ·exact(hC c q).free
noncomputable def qf(c:Str):Bool:=decide (c.length≠0) && decide (c≠DOT)
theorem p7{C:List Str}(hC:∀ c∈C,Good c):(Str.ofString "" ::C).filter qf=C:=by
 rw [List.filter_cons_of_neg (by decide+kernel)]
 refine List.filter_eq_self.mpr fun c hc=>?_
 unfold qf
 rw [decide_eq_true,decide_eq_true (hC c hc).d1];·rfl
 intro e
 rw [b8]at e
 exact(hC c hc).ne (List.length_eq_zero_iff.mp e)
end Mine
end
section
open PySem PySem.W PyProof.Rows PySem.Calls PySem.SeqAt
namespace Mine
section
variable {D:Wd}{A:Around}{L:Addr}{σ:St}{env:Env}{H:AH}
noncomputable abbrev xl(D:Wd)(A:Around)(L:Addr)(env:Env)(r:List Expr)(Q:Bool→St→Prop):Bool→St→Prop:=fun b σ=>b=false∧W D A L (allTrue .Or r env) Q σ
noncomputable abbrev v6(D:Wd)(A:Around)(L:Addr)(env:Env)(o:List Stmt)(Q:Flow→St→Prop):Bool→St→Prop:=fun c σ=>c=false∧WB D A L env o Q σ
theorem W.orF{x:Expr}{r:List Expr}{Q:Bool→St→Prop}(h:WT D A L env x (xl D A L env r Q) σ):W D A L (allTrue .Or (x::r) env) Q σ:=
 W.orCons (W.mono h fun b σ₁=>gD fun e q=>by subst e;exact q)
theorem S.iteF{t:Expr}{b o:List Stmt}{pos:Pos}{Q:Flow→St→Prop}(h:WT D A L env t (v6 D A L env o Q) σ):WS D A L env (.If t b o pos) Q σ:=
 S.ite (W.mono h fun c σ₁=>gD fun e q=>by subst e;exact q)
theorem Cd.back{c:Code}{m:Str→Option Value}{P P':Addr→Prop}{Z:Value→AH→Prop}{Q:Value→St→Prop}(hn:H L=none)(hP:¬ P L)(h:Cd D A c (fun r H'=>Z r H'∧Grow (upd H L (.ns m)) H' P P') (upd H L (.ns m)))
 (k:∀ r H',Z r H'→H' L=some (.ns m)→Grow H (del H' L) P P'→Q r ⟨m,del H' L⟩):Cd D A c (nT L ⟨m,H⟩ Q) (upd H L (.ns m)):=h.mono fun r H'=>gD fun z g=>by
 have hL:=g.keep _ _ (ah H L (.ns m)) hP
 exact⟨hL,k r H' z hL (g.off hn)⟩
end
section
variable {D:Wd}{A:Around}{H:AH}
theorem nX:UniqKeys #[]:=List.Pairwise.nil
theorem kD(hA:Ok A 7):Cd D A (.call (.ref 271) ⟨[],[]⟩) (fun r H'=>Ext H H'∧ ∃ Sr SD N,r= .ref Sr∧H Sr=none∧H SD=none∧H N=none∧ ∀ adr,Sor H' Sr SD N adr V0 .none 0 0) H:=by
 refine Cd.make (C:=271) (fI:=207) (ao:= .fld fun _=>none) (n:=6) (fun P=>rfl) (fun P=>rfl) (fun P=>rfl) (fun w=>⟨#[],0,rfl,fun _ he=>by simp at he,nX,fun _=>rfl⟩) hA fun x dx A2 hA2 hx hdx hne=>?_
 refine Cd.mono (jI (hA2.mono (by decide)) rfl (ah ..) ((af hne.symm).trans (ah ..))) ?_
 rintro r H' h2_;refine gG h2_ fun er0 N m hN h1 h2 m1 m2 m3 m4 mw h3=>?_;clear h2_
 have nx:N≠x:=fun e=>by rw [e,ah]at hN;cases hN
 have nd:N≠dx:=fun e=>by rw [e,af hne.symm,ah]at hN;cases hN
 have hN0:H N=none:=(af nd).symm.trans ((af nx).symm.trans hN)
 refine⟨er0,fun b o hb=>?_,x,dx,N,rfl,hx,hdx,hN0,fun adr=>?_⟩
 ·have bx:b≠x:=fun e=>by rw [e,hx]at hb;cases hb
  have bd:b≠dx:=fun e=>by rw [e,hdx]at hb;cases hb
  have bn:b≠N:=fun e=>by rw [e,hN0]at hb;cases hb
  rw [h3 b bd bn,af bx,af bd];exact hb
 ·have hS:H' x=some (.inst 271 dx []):=(h3 x hne nx.symm).trans (ah ..)
  exact { s:=hS,f:=⟨m,h2,m1,m2,m3,m4,mw⟩,n:=⟨0,h1⟩,i:=fun t ht=>(nomatch ht),nd:=List.nodup_nil,sa:=fun t ht=>(nomatch ht),out:=fun t _=>⟨rfl,rfl⟩}
end
section
variable {g:Str→Str}{order:List Str}
theorem ji(hg:bK g)(O:Ordr order):∀ (n:Nat) (gone group:List Str),KInv g gone group→9≤n+gone.length→ ∀ j,j≤(aL g order n group gone).length→
 KInv g (gone++((aL g order n group gone).take j).flatten) ((aL g order n group gone).getD j [])∧
 (j<(aL g order n group gone).length→(aL g order n group gone).getD j []≠ []∧
  (aL g order n group gone).getD (j+1) []=aN g order ((gone++((aL g order n group gone).take j).flatten)++(aL g order n group gone).getD j []) (((aL g order n group gone).getD j []).map g))
 | 0,gone,group,K,h,j,hj=>by have:=K.len;exact(qD this h).elim
 | n+1,gone,group,K,h,j,hj=>by
  unfold aL at hj ⊢
  by_cases q:group= []
  ·subst q
   rw [if_pos rfl]at hj ⊢
   obtain rfl:j=0:=by simpa using hj
   exact⟨by simpa using K,fun h=>absurd h (by simp)⟩
  ·rw [if_neg q]at hj ⊢
   have hl:0<group.length:=List.length_pos_iff.mpr q
   have ih:=ji hg O n _ _ (K.next hg O) (by rw [List.length_append];exact qC hl h)
   have first:(aL g order n (aN g order (gone++group) (group.map g)) (gone++group)).getD 0 []=aN g order (gone++group) (group.map g):=by
    cases n with
    | zero=>have:=K.len;simp at h;exact(sU this hl h).elim
    | succ n=>
     unfold aL
     first | split | (dsimp only [gV,bv];split)
     ·rename_i e;simp [e]
     ·rfl
   generalize aL g order n (aN g order (gone++group) (group.map g)) (gone++group)=Rs at ih hj first
   cases j with
   | zero=>exact⟨by simpa using K,fun _=>⟨q,by simpa using first⟩⟩
   | succ j=>
    have:=ih j (by simpa using hj)
    simpa [← List.append_assoc] using this
theorem lJ(hg:bK g)(O:Ordr order){j:Nat}(hj:j≤(aC g order).length):KInv g ((aC g order).take j).flatten ((aC g order).getD j [])∧
 (j<(aC g order).length→(aC g order).getD j []≠ []∧(aC g order).getD (j+1) []=aN g order (((aC g order).take j).flatten++(aC g order).getD j []) (((aC g order).getD j []).map g)):=by
 have:=ji hg O 9 [] _ (KInv.start hg O) (by simp) j hj
 simp only [List.nil_append]at this
 exact this
theorem kg(hg:bK g)(O:Ordr order):(aC g order).getD 0 []=leaves g order:=by
 unfold aC
 unfold aL
 first | split | (dsimp only [gV,bv];split)
 ·rename_i e;rw [e];rfl
 ·rfl
end
end Mine
end
section
open PySem PySem.W PyProof.Rows PySem.Calls PySem.SeqAt
namespace Mine
theorem pX:∀ n:Nat,(ap n).head?≠some 65:=by
 intro n
 induction n using Nat.strongRecOn with
 | ind n ih=>
  by_cases h:n=0
  ·subst h;rw [bX];simp
  ·rw [fe h]
   by_cases q:n/16=0
   ·rw [q,bX]
    have hm:n%16≠0:=by exact rN q h
    have hl:n%16<16:=Nat.mod_lt _ (by decide)
    simp only [List.nil_append,List.head?_cons]
    intro e
    have e:=Option.some.inj e
    have:=congrArg UInt8.toNat e
    rw [UInt8.toNat_ofNat']at this
    have h2:(65:UInt8).toNat=65:=rfl
    rw [h2]at this
    omega
   ·have:=ih (n/16) (by exact rM q)
    cases hq:ap (n/16)with
    | nil=>rw [fe q]at hq;simp at hq
    | cons x r=>rw [hq]at this;exact this
theorem l7:∀ (k m n:Nat),0<m→n<16 ^ k→ap (m*16 ^ k+n)=ap m++List.replicate (k-(ap n).length) 65++ap n
 | 0,m,n,hm,hn=>by
  obtain rfl:n=0:=by simpa using hn
  simp [bX]
 | k+1,m,n,hm,hn=>by
  have hp:0<m*16 ^ (k+1):=Nat.mul_pos hm (Nat.pow_pos (by decide))
  rw [fe (by exact rL hp)]
  have hd:(m*16 ^ (k+1)+n)/16=m*16 ^ k+n/16:=by
   rw [Nat.pow_succ,← Nat.mul_assoc];exact rK
  have hmd:(m*16 ^ (k+1)+n)%16=n%16:=by
   rw [Nat.pow_succ,← Nat.mul_assoc];exact rJ
  have hn':n/16<16 ^ k:=by rw [Nat.pow_succ]at hn;exact qy hn
  rw [hd,hmd,l7 k m (n/16) hm hn']
  by_cases h:n=0
  ·subst h
   simp [bX,List.replicate_succ']
  ·rw [fe h]
   have hl:k+1-((ap (n/16)).length+1)=k-(ap (n/16)).length:=by exact rI
   simp [hl]
theorem du{z:Str}(hz:z.length≤10){xs:List Str}(hx:∀ x∈xs,x.length≤1000)(hn:xs.length≤1000):JoinOk z xs=true:=by
 unfold JoinOk Builtin.Str.tooLong
 have:∀ (l:List Str) (a:Nat),(∀ x∈l,x.length≤1000)→l.foldl (fun a x=>a+x.length+z.length) a≤a+1010*l.length:=by
  intro l
  induction l with
  | nil=>intro a _;simp
  | cons x r ih=>
   intro a h
   have h1:=h x (.head _)
   have h2:=ih (a+x.length+z.length) fun y hy=>h y (.tail _ hy)
   simp only [List.foldl_cons,List.length_cons];exact rH h2 h1 hz
 have h:=this xs 0 hx
 have hs:1010000≤sizeLine:=by decide
 simp only [List.size_toArray,List.foldl_toArray']
 simp only [Bool.not_eq_true',decide_eq_false_iff_not]
 exact rG hs h hn
theorem iR(xs:List Str):cs (Txt.join (Str.ofString "") xs)=xs.flatMap cs:=by
 have h0:cs (Str.ofString "")= []:=by decide+kernel
 rw [fw]
 cases xs with
 | nil=>exact h0
 | cons c r=>rw [bg,h0];simp
theorem kO(k:Nat):(List.replicate k [65]).flatten=List.replicate k 65:=by
 induction k with
 | zero=>rfl
 | succ k ih=>rw [List.replicate_succ,List.flatten_cons,ih,List.replicate_succ];rfl
noncomputable def nW(n:Nat):Str:=⟨(List.replicate (8-(ap n).length) 65++(ap n).map UInt8.toNat).toArray⟩
theorem bQ{n:Nat}(h:n≤100000):n≤sizeLine:=Nat.le_trans h (by decide)
variable {D:Wd}{A:Around}
set_option maxHeartbeats 2000000 in
theorem qY{H:AH}{n:Nat}{v:Value}(hA:Ok A 9)(hv:er v= .int n 0)(hn:n<16 ^ 8):
 Cd D A (.call (.ref 308) ⟨[v],[]⟩) (fun r H'=>Ext H H'∧r= .str (nW n) 0) H:=by
 obtain⟨t,rfl⟩:=aB hv
 have l8:=nM 8 n hn
 refine Cd.fn (fun P=>rfl) rfl (fun P=>rfl) rfl hA (by decide) (locs rfl) (fun L hL hA'=>?_)
 refine WB.fold3 ?_
 intro A1_ env1_ Q1_
 refine W.foldL ?_
 intro lc2_ q2_
 refine B.cons (S.assign (E.call1 (f:=282) (fun P=>rfl) (fun P=>rfl) (E.local (v:= .int n 0) rfl ⟨_,fun v hv H _=>iW (hA'.mono (by decide)) hv (by exact rF hn),fun H1 e1=>?_⟩)))
 have ena:(n:Int).natAbs=n:=Int.natAbs_natCast n
 rw [ena]
 refine W.foldL ?_
 intro lc3_ q3_
 refine B.cons (S.iteF (T.boolop (W.orF (T.not (T.value (E.callB (id:= "isinstance") (fun P=>rfl) (by kernel_rfl) (I.cons (E.local (v:= .bytes (ap n).toArray 0) rfl (I.cons (E.builtin (v:= .type "bytes") (fun P=>rfl) (by kernel_rfl) (I.nil (F.isBytesBytes (T.trBool ⟨rfl,?_⟩)))))))))))))
 refine W.orF (T.compare (E.sliceBytes (E.local (v:= .bytes (ap n).toArray 0) rfl (.none (.some (E.int ⟨1,rfl,ap n,rfl,by exact m0 l8,E.bytes (O.eqBB (y:= [65]) ⟨_,rfl,?_,?_⟩)⟩))))))
 ·rw [decide_eq_false_iff_not]
  intro e
  apply pX n
  unfold cut at e
  cases hq:ap n with
  | nil=>rw [hq]at e;simp at e
  | cons x r=>rw [hq]at e;simp at e;rw [e];rfl
 refine W.orF (T.compare (E.call1 (f:=282) (fun P=>rfl) (fun P=>rfl) (E.negName (E.local (v:= .int n 0) rfl ⟨rfl,_,fun v hv H _=>iW (hA'.mono (by decide)) hv (by exact rE hn),fun H2 e2=>?_⟩))))
 have enb:(-(n:Int)).natAbs=n:=by exact rD
 have epow:(15:Int)*16 ^ (16:Int).toNat+(n:Int)=((15*16 ^ 16+n:Nat):Int):=by
  have:(16:Int) ^ (16:Int).toNat=18446744073709551616:=by decide
  exact rC this
 rw [enb]
 refine E.local (v:= .bytes (ap n).toArray 0) rfl (O.neBB ⟨_,rfl,by simp,W.orNil ⟨rfl,B.nil ?_⟩⟩)
 refine W.foldL ?_
 intro lc4_ q4_
 refine B.cons (S.iteF (T.compare (E.call1 (f:=282) (fun P=>rfl) (fun P=>rfl) (E.binop (E.binop (E.int (E.binop (E.int (E.int (O.powII (by decide) (by decide) (O.mulII (IntMulOk.of_left (by decide)) (E.local (v:= .int n 0) rfl (O.addII ⟨_,fun v hv H _=>iW (hA'.mono (by decide)) hv ?_,fun H3 e3=>?_⟩)))))))))))))
 ·rw [epow];exact rB hn
 rw [epow]
 have en:((15*16 ^ 16+n:Nat):Int).natAbs=15*16 ^ 16+n:=Int.natAbs_natCast _
 rw [en,l7 16 15 n (by decide) (by exact rA hn)]
 have e15:ap 15= [80]:=by rw [fe (by decide)];rw [show 15/16=0 from rfl,bX];rfl
 rw [e15]
 have erep:∀ k:Nat,(List.replicate k ([65]:List UInt8)).flatten=List.replicate k 65:=by
  intro k
  induction k with
  | zero=>rfl
  | succ k ih=>rw [List.replicate_succ,List.flatten_cons,ih,List.replicate_succ];rfl
 refine E.binop (E.binop (E.bytes (E.binop (E.bytes (E.binop (E.int (E.callB (id:= "len") (fun P=>rfl) (by kernel_rfl) (I.cons (E.local (v:= .bytes (ap n).toArray 0) rfl (I.nil (F.lenBytes (by exact m0 l8) (O.subII ?_))))))))))))
 refine O.mulBB (x:= [65]) (by decide) (by decide) (by exact r9 l8) (by exact r8) ?_
 have e16:((16:Int)-((ap n).length:Nat)).toNat=16-(ap n).length:=by exact r7
 rw [e16,erep]
 refine O.addBB (x:= [80]) (by simp;exact r6) (E.local (v:= .bytes (ap n).toArray 0) rfl (O.addBB (by simp;exact r5 l8) (O.neBB ⟨_,rfl,by simp,B.nil ?_⟩)))
 refine W.foldL ?_
 intro lc5_ q5_
 refine B.cons (S.ret (E.binop (E.binop (E.str (E.binop (E.int (E.callB (id:= "len") (fun P=>rfl) (by kernel_rfl) (I.cons (E.local (v:= .bytes (ap n).toArray 0) rfl (I.nil (F.lenBytes (by exact m0 l8) (O.subII ?_))))))))))))
 have e8:((8:Int)-((ap n).length:Nat))=((8-(ap n).length:Nat):Int):=by exact r4 l8
 rw [e8]
 refine O.mulSS (by show 1*_≤_;exact r3) ?_ (by exact rz)
 refine E.meth (T:= "str") (id:= "str.join") F.plainAttrs_str F.slot_str_join (by kernel_rfl) (E.str ⟨rfl,I.cons (E.compIdx (cl:= []) rfl (It.of (E.local (v:= .bytes (ap n).toArray 0) rfl ⟨_,_,_,fun v hv=>mB hv hA'.hand,Has.nil,?_⟩)))⟩)
 refine⟨by exact qh e8,fun k=> .int (((ap n).getD k 0).toNat:Int) 0,fun k=> .str ⟨#[((ap n).getD k 0).toNat]⟩ 0,fun k=>rfl,?_,?_⟩
 ·intro C k m H' hk hC hext
  have hb:((ap n).getD k 0).toNat≤0x10FFFF:=Nat.le_trans (Nat.le_of_lt (UInt8.toNat_lt _)) (by decide)
  exact E.callB (id:= "chr") (fun P=>rfl) (by kernel_rfl) (I.cons (E.local (v:= .int (((ap n).getD k 0).toNat:Int) 0) rfl (I.nil (F.chr hb ⟨rfl,Ext.refl _⟩))))
 ·intro a H4 e4 ha hH4
  have hl:(List.range (ap n).length).map (fun k=>Value.str ⟨#[((ap n).getD k 0).toNat]⟩ 0)=ag ((ap n).map fun b=>⟨#[b.toNat]⟩):=by
   unfold ag
   rw [List.map_map]
   refine List.ext_getElem? fun k=>?_
   simp only [List.getElem?_map,List.getElem?_range,Function.comp_def]
   by_cases h:k<(ap n).length
   ·simp [h,List.getD,List.getElem?_eq_getElem h]
   ·simp [h,List.getElem?_eq_none (Nat.le_of_not_lt h)]
  rw [hl]at hH4
  have hj:(Txt.join (Str.ofString "") ((ap n).map fun b=>⟨#[b.toNat]⟩)).length=(ap n).length:=by
   rw [b8,iR,List.flatMap_map]
   generalize ap n=l
   induction l with
   | nil=>rfl
   | cons b r ih=>rw [List.flatMap_cons,List.length_append,ih];show 1+_=_;rw [List.length_cons];exact ry
  refine I.nil (M.join hH4 ?_ ?_)
  ·refine du (by decide) (fun x hx=>?_) (by rw [List.length_map];exact qh e8)
   refine ai (List.mem_map.mp hx) fun b _ h2_=>?_;obtain rfl:=h2_
   show 1≤1000;decide
  ·have hA:cs (Str.ofString "A")= [65]:=by decide+kernel
   refine O.addSS (bQ ?_) ?_
   ·rw [hj,b8,k9]
    show((List.replicate _ (cs (Str.ofString "A"))).flatten).length+_≤_
    rw [hA,kO,List.length_replicate];exact rx e8
   ·intro v' hv'
    refine⟨(e1.trans e2).trans (e3.trans e4),hv'.trans (congrArg (fun x=>Value.str x 0) (bb ?_))⟩
    rw [c6,iR,k9]
    show(List.replicate _ (cs (Str.ofString "A"))).flatten++_=_
    rw [hA,kO]
    unfold nW
    rw [k9,List.flatMap_map]
    congr 1
    generalize ap n=l
    induction l with
    | nil=>rfl
    | cons b r ih=>rw [List.flatMap_cons,ih];rfl
end Mine
end
section
open PySem PySem.W PyProof.Rows PySem.Calls PySem.SeqAt
namespace Mine
variable {D:Wd}{A:Around}
theorem T.trTuple{L:Addr}{σ:St}{l:Addr}{vs:List Value}{Q:Bool→St→Prop}(hl:σ.H l=some (.tuple vs))(hz:vs.length<2 ^ 62)(h:Q (!vs.isEmpty) σ):W1 D A L truthy (.ref l) Q σ:=fun va ea Φ s R=>by
 rw [al ea]
 refine bz (R.obj hl) fun o ho its n h4_ e=>?_;obtain rfl:=h4_
 have hs:=aM e
 refine ktl_truthy ho (by exact ue hs hz) ⟨σ,R.tok _,?_⟩
 have:its.isEmpty=vs.isEmpty:=by
  rw [Array.isEmpty,hs];cases vs<;> simp
 rw [this];exact h
theorem DOT_is:Str.ofString "." =DOT:=rfl
theorem mI{α:Type}{P:Nat→α→Prop}{ys:List α}(h:Paired P (iy 2 fun _=>true) ys):∃ a b,ys= [a,b]∧P 0 a∧P 1 b:=by
 have e:iy 2 (fun _=>true)= [0,1]:=by decide
 rw [e]at h
 cases h with
 | cons h0 r=>cases r with
  | cons h1 r=>cases r with
   | nil=>exact⟨_,_,rfl,h0,h1⟩
set_option maxHeartbeats 4000000 in
theorem oM{H:AH}{p:Addr}{P Q:List Str}{v:Value}(hA:Ok A 14)(hv:er v= .ref p)(hp:H p=some (.list (ag [rd P,rd Q])))(hP:∀ c∈P,c∈NM)(hQ:∀ c∈Q,c∈NM)(hP0:P≠ [])(hQ0:Q≠ [])(hPn:P.length≤16)(hQn:Q.length≤16):
 Cd D A (.call (.ref 155) ⟨[v],[]⟩) (fun r H'=>Ext H H'∧r= .str (rd (lcp P Q)) 0) H:=by
 obtain rfl:=al hv
 refine Cd.fnC (fun P=>rfl) rfl (fun P=>rfl) rfl hA rfl (fun k x hx=>?_) (by decide) (fun L hL hA'=>?_)
 ·simp at hx;subst hx;exact .inl rfl
 have n0:H L=none:=hL _ (Nat.le_refl _)
 have n1:H (L+1)=none:=hL _ (Nat.le_succ _)
 have n2:H (L+2)=none:=hL _ (Nat.le_add_right ..)
 show W _ _ _ _ _ ⟨_,upd (upd H (L+1) (.cell none)) (L+2) (.cell none)⟩
 have x0:Ext H (upd (upd H (L+1) (.cell none)) (L+2) (.cell none)):=(aa n1).trans (aa (by rw [af (aT L (by decide))];exact n2))
 have k1:upd (upd H (L+1) (.cell none)) (L+2) (.cell none) (L+1)=some (.cell none):=by rw [af (aT L (by decide)),ah]
 have k2:upd (upd H (L+1) (.cell none)) (L+2) (.cell none) (L+2)=some (.cell none):=ah ..
 generalize upd (upd H (L+1) (.cell none)) (L+2) (.cell none)=H0 at x0 k1 k2
 have hp0:=x0 _ _ hp
 refine WB.fold3 ?_
 intro A1_ env1_ Q1_
 refine W.foldL ?_
 intro l_ q_
 refine B.cons (S.assign (E.callT (T:= "tuple") (fun P=>rfl) (by kernel_rfl) (I.cons (E.callT (T:= "map") (fun P=>rfl) (by kernel_rfl) (I.cons (E.glob (v:= .ref 94) (fun P=>rfl) (I.cons (E.local (v:= .ref p) rfl (I.nil (F.mapNew hp0 ?_))))))))))
 intro it tp m hit htp hm ne1 ne2 ne3
 have x1:Ext H0 (upd (upd (upd H0 it (nS p 0)) tp (.tuple [.ref it])) m (.raw (cJ tp (.ref 94)))):=
  ((aa hit).trans (aa (by rw [af ne1.symm];exact htp))).trans (aa (by rw [af ne3.symm,af ne2.symm];exact hm))
 have ms:MapSt (upd (upd (upd H0 it (nS p 0)) tp (.tuple [.ref it])) m (.raw (cJ tp (.ref 94)))) m tp it p [rd P,rd Q] 0:=by
  refine⟨ah ..,?_,?_,x1 _ _ hp0⟩
  ·rw [af ne3,ah]
  ·rw [af ne2,af ne1,ah]
 generalize upd (upd (upd H0 it (nS p 0)) tp (.tuple [.ref it])) m (.raw (cJ tp (.ref 94)))=H1 at x1 ms
 refine I.nil (F.tupleMap (hA'.mono (by decide)) (by show 2≤1000;decide) ms fun t H2 x2 ht=>?_)
 have x3:Ext H0 (upd H2 t (.tuple (ag [rd P,rd Q]))):=((x1.del hit).trans x2).trans (aa ht)
 have ht3:(upd H2 t (.tuple (ag [rd P,rd Q]))) t=some (.tuple (ag [rd P,rd Q])):=ah ..
 generalize upd H2 t (.tuple (ag [rd P,rd Q]))=H3 at x3 ht3
 show WB _ _ _ _ _ _ _
 refine W.foldL ?_
 intro l_ q_
 refine B.cons (S.iteF (T.not (T.value (E.local (v:= .ref t) rfl (T.trTuple ht3 (by show 2<2 ^ 62;decide) ⟨rfl,B.nil ?_⟩)))))
 show WB _ _ _ _ _ _ _
 have y1:=x3 _ _ k1
 have y2:=x3 _ _ k2
 have e3:=x0.trans x3
 refine W.foldL ?_
 intro l_ q_
 refine B.cons (S.iteF (T.value (E.callB (id:= "isinstance") (fun P=>rfl) (by kernel_rfl) (I.cons (E.sub (T:= "tuple") (id:= "tuple.__getitem__") (by kernel_rfl) (E.local (v:= .ref t) rfl (E.int ⟨⟨_,ht3,rfl⟩,O.itemTuple (k:=0) ht3 (by show 0<2;decide) (by decide) ?_⟩)))))))
 refine I.cons (E.builtin (v:= .type "bytes") (fun P=>rfl) (by kernel_rfl) (I.nil (F.isBytesStr (x:=rd P) (T.trBool ⟨rfl,?_⟩))))
 refine W.foldL ?_
 intro l_ q_
 refine B.cons (S.assignCell (c:=L+1) rfl (E.str ⟨_,y1,?_⟩))
 show WB _ _ _ _ _ _ _
 have y2':upd H3 (L+1) (.cell (some (.str (Str.ofString "/") 0))) (L+2)=some (.cell none):=by rw [af (aT L (by decide))];exact y2
 refine W.foldL ?_
 intro l_ q_
 refine B.cons (S.assignCell (c:=L+2) rfl (E.str ⟨_,y2',B.nil ?_⟩))
 have e4:Ext H (upd (upd H3 (L+1) (.cell (some (.str (Str.ofString "/") 0)))) (L+2) (.cell (some (.str (Str.ofString ".") 0)))):=(e3.upd _ n1).upd _ n2
 have c1:(upd (upd H3 (L+1) (.cell (some (.str (Str.ofString "/") 0)))) (L+2) (.cell (some (.str (Str.ofString ".") 0)))) (L+1)=some (.cell (some (.str SL 0))):=by rw [af (aT L (by decide)),ah];rfl
 have c2:(upd (upd H3 (L+1) (.cell (some (.str (Str.ofString "/") 0)))) (L+2) (.cell (some (.str (Str.ofString ".") 0)))) (L+2)=some (.cell (some (.str DOT 0))):=ah ..
 have ht4:(upd (upd H3 (L+1) (.cell (some (.str (Str.ofString "/") 0)))) (L+2) (.cell (some (.str (Str.ofString ".") 0)))) t=some (.tuple (ag [rd P,rd Q])):=by
  rw [af (fun e=>by rw [e,y2]at ht3;cases ht3),af (fun e=>by rw [e,y1]at ht3;cases ht3)];exact ht3
 generalize upd (upd H3 (L+1) (.cell (some (.str (Str.ofString "/") 0)))) (L+2) (.cell (some (.str (Str.ofString ".") 0)))=H4 at e4 c1 c2 ht4
 show WB _ _ _ _ _ _ _
 have gP:=fun c hc=>bN c (hP c hc)
 have gQ:=fun c hc=>bN c (hQ c hc)
 have two:∀ k,k<2→(ag [rd P,rd Q]).getD k .none= .str (rd ([P,Q].getD k [])) 0∧(∀ c∈ [P,Q].getD k [],Good c)∧ [P,Q].getD k []≠ []∧([P,Q].getD k []).length≤16∧ ∀ c∈ [P,Q].getD k [],c∈NM:=fun k hk=>by
  rcases k with _ | _ | k
  ·exact⟨rfl,gP,hP0,hPn,hP⟩
  ·exact⟨rfl,gQ,hQ0,hQn,hQ⟩
  ·exact(qA hk).elim
 refine W.hl fun hLn=>?_
 dsimp only at hLn
 refine W.foldL ?_
 intro l_ q_
 refine B.cons (S.tryOk ?_)
 refine W.foldL ?_
 intro l_ q_
 refine B.cons (S.assignListComp (cl:= [("sep",L+1)]) rfl (It.tuple hA'.hand (E.local (v:= .ref t) rfl ⟨t,_,rfl,ht4,?_⟩)))
 refine⟨by show 2≤sizeLine;decide,fun _=>true,fun k v H=> ∃ l,v= .ref l∧H l=some (.list (ag (Str.ofString "" ::[P,Q].getD k []))),fun k v H H'=>ar fun l e q x=>⟨l,e,x _ _ q⟩,?_,?_⟩
 ·intro C k mm H' hk hC hext
  show ∀ v,er v=_→_
  refine aD (two k hk) fun ek gk k0 kn km=>?_
  intro v hv
  rw [ek]at hv
  refine W.assignLocal (L:=C) ?_
  rw [hv]
  refine W.testsNil ⟨rfl,?_⟩
  have hcs:upd H' C (.ns mm) (L+1)=some (.cell (some (.str SL 0))):=by
   have:=hext _ _ ((aa (o:= .ns _) hLn) _ _ c1)
   rw [af fun e=>by rw [e,hC]at this;cases this];exact this
  rw [if_pos rfl]
  refine E.meth (T:= "str") (id:= "str.split") F.plainAttrs_str F.slot_str_split (by kernel_rfl) (E.local (L:=C) (v:= .str (rd ([P,Q].getD k [])) 0) rfl ⟨rfl,I.cons (E.cell (v:= .str SL 0) rfl (hext _ _ ((aa (o:= .ns _) hLn) _ _ c1)) (I.nil (M.split (by decide+kernel) (bQ (Nat.le_trans (bT km kn) (by decide))) ?_ ?_)))⟩)
  ·rw [kJ k0 gk,List.length_cons];exact bQ (by exact ud kn)
  ·intro l hl
   rw [kJ k0 gk]
   exact⟨aa hl,l,rfl,by
    have nl:l≠L:=fun e=>by subst e;exact nomatch hl.symm.trans (hext _ _ (ah ..))
    rw [ay nl];exact ah ..⟩
 ·intro a H5 ys e5 ha ha5 hys
  obtain⟨v0,v1,rfl,⟨l0,rfl,h0⟩,l1,rfl,h1⟩:=mI hys
  have nl:t≠L:=fun e=>by subst e;exact nomatch ht4.symm.trans hLn
  show WB _ _ _ _ _ _ _
  refine W.hl fun hL5=>?_
  dsimp only at hL5
  refine W.foldL ?_
  intro l_ q_
  refine B.cons (S.tryOk (B.cons (S.assignSet1 hA'.hand (E.setComp (cl:= [("sep",L+1)]) rfl (It.tuple hA'.hand (E.local (v:= .ref t) rfl ⟨t,_,rfl,e5 _ _ ht4,by show 0<2;decide,?_,?_⟩))))))
  ·intro C k mm H' hk hC hext
   show ∀ v,er v=_→_
   refine aD (two k hk) fun ek gk k0 kn km=>?_
   intro v hv
   rw [ek]at hv
   refine W.assignLocal (L:=C) ?_
   rw [hv]
   refine W.testsNil ⟨rfl,?_⟩
   rw [if_pos rfl]
   have hst:Txt.startswith (rd ([P,Q].getD k [])) SL=true:=(gK _).mpr (by rw [rd,c6,fk];rfl)
   refine E.meth (T:= "str") (id:= "str.startswith") F.plainAttrs_str F.slot_str_startswith (by kernel_rfl) (E.local (L:=C) (v:= .str (rd ([P,Q].getD k [])) 0) rfl ⟨rfl,I.cons (E.cell (v:= .str SL 0) rfl (hext _ _ ((aa (o:= .ns _) hL5) _ _ (e5 _ _ c1))) (I.nil (M.startswith ?_)))⟩)
   rw [hst]
   exact⟨Ext.refl _,rfl⟩
  ·intro sa H6 e6 hsa hH6
   refine⟨sa,rfl,hH6,?_⟩
   intro v hv
   refine W.assignLocal ?_
   rw [hv]
   refine B.nil (B.nil ?_)
   show WB _ _ _ _ _ _ _
   have e45:=e5.trans e6
   have lsts:∀ k,k<2→ ∃ l,[Value.ref l0,Value.ref l1].getD k .none= .ref l∧H6 l=some (.list (ag (Str.ofString "" ::[P,Q].getD k []))):=fun k hk=>by
    rcases k with _ | _ | k
    ·exact⟨l0,rfl,e6 _ _ h0⟩
    ·exact⟨l1,rfl,e6 _ _ h1⟩
    ·exact(qA hk).elim
   refine W.hl fun hL6=>?_
   dsimp only at hL6
   refine W.foldL ?_
   intro l_ q_
   refine B.cons (S.assignListComp (cl:= [("curdir",L+2)]) rfl (It.list hA'.hand (E.local (v:= .ref a) rfl ⟨a,_,rfl,e6 _ _ ha5,?_⟩)))
   refine⟨by show 2≤sizeLine;decide,fun _=>true,fun k v H=> ∃ l,v= .ref l∧H l=some (.list (ag ([P,Q].getD k []))),fun k v H H'=>ar fun l e q x=>⟨l,e,x _ _ q⟩,?_,?_⟩
   ·intro C k mm H' hk hC hext
    show ∀ v,er v=_→_
    have hk:k<2:=hk
    refine aD (two k hk) fun ek gk k0 kn km=>?_
    refine ai (lsts k hk) fun l el hl=>?_
    intro v hv
    have hv:er v= .ref l:=hv.trans el
    refine W.assignLocal (L:=C) ?_
    rw [hv]
    refine W.testsNil ⟨rfl,?_⟩
    rw [if_pos rfl]
    have hl':=hext _ _ ((aa (o:= .ns _) hL6) _ _ hl)
    have hcd:=hext _ _ ((aa (o:= .ns _) hL6) _ _ (e45 _ _ c2))
    refine E.compFilter (L:=C) (cl:= [("curdir",L+2)]) hA'.hand rfl (E.local (L:=C) (v:= .ref l) rfl ⟨l,_,rfl,hl',by rw [List.length_cons];exact uc kn,qf,?_,?_⟩)
    ·intro C2 j m2 H7 hj hC2 e7
     have hcd7:=e7 _ _ ((aa (o:= .ns _) hC) _ _ hcd)
     generalize hc:(Str.ofString "" ::[P,Q].getD k []).getD j default=c
     have hz:c.length≤sizeLine:=by
      have hm:c∈Str.ofString "" ::[P,Q].getD k []:=by rw [← hc];exact aF hj
      have h1:∀ x∈NM,x.length≤100:=by decide+kernel
      rcases List.mem_cons.mp hm with q | q
      ·rw [q];exact bQ (by decide)
      ·exact bQ (Nat.le_trans (h1 c (km c q)) (by decide))
     refine T.boolop (W.andCons (T.value (E.local (L:=C2) (v:= .str c 0) rfl (T.trStr hz ?_))))
     by_cases h0:c.length=0
     ·simp only [h0,ne_eq,not_true_eq_false,decide_false,Bool.false_eq_true,if_false]
      exact⟨by unfold qf;simp [h0],rfl,Ext.refl _⟩
     ·simp only [h0,ne_eq,not_false_eq_true,decide_true,if_true]
      refine W.andCons (T.compare (E.local (L:=C2) (v:= .str c 0) rfl (E.cell (v:= .str DOT 0) rfl hcd7 (O.neSS ⟨_,rfl,?_⟩))))
      by_cases hd:c=DOT
      ·simp only [hd,bne_self_eq_false,Bool.false_eq_true,if_false]
       exact⟨by unfold qf;simp,rfl,Ext.refl _⟩
      ·dsimp only;rw [if_pos (by simpa using hd)]
       exact W.andNil ⟨by unfold qf;simp [h0,hd],rfl,Ext.refl _⟩
    ·intro b H7 e7 hb hH7
     have nb:b≠L:=fun e=>by subst e;exact nomatch hb.symm.trans (hext _ _ (ah ..))
     rw [p7 gk]at hH7
     exact⟨e7,b,rfl,by rw [ay nb];exact hH7⟩
   ·intro b H7 ys e7 hb hH7 hys
    obtain⟨v0,v1,rfl,⟨b0,rfl,g0⟩,b1,rfl,g1⟩:=mI hys
    show WB _ _ _ _ _ _ _
    have e47:=e45.trans e7
    have eH7:=e4.trans e47
    have c17:=e47 _ _ c1
    have g0:H7 b0=some (.list (ag P)):=g0
    have g1:H7 b1=some (.list (ag Q)):=g1
    clear hys hL6 hL5 lsts h0 h1
    have hu:A.units+3+10<cLine:=by have:=hA.units;have:(9000:Nat)≤cLine:=by decide
                                   omega
    refine W.foldL ?_
    intro l_ q_
    refine B.cons (S.assign (E.callB (id:= "min") (fun P=>rfl) (by kernel_rfl) (I.cons (E.local (v:= .ref b) rfl (I.nil (F.minLists hA'.hand hu hH7 g0 g1 ?_))))))
    show WB _ _ _ _ _ _ _
    refine B.cons (S.assign (E.callB (id:= "max") (fun P=>rfl) (by kernel_rfl) (I.cons (E.local (v:= .ref b) rfl (I.nil (F.maxLists hA'.hand hu hH7 g0 g1 ?_))))))
    show WB _ _ _ _ _ _ _
    have s1:H7 (if ltL Q P then b1 else b0)=some (.list (ag (loL P Q))):=by unfold loL;split<;> assumption
    have s2:H7 (if ltL P Q then b1 else b0)=some (.list (ag (hiL P Q))):=by unfold hiL;split<;> assumption
    generalize (if ltL Q P then b1 else b0)=sl1 at s1
    generalize (if ltL P Q then b1 else b0)=sl2 at s2
    refine B.cons (S.assign (E.local (v:= .ref sl1) rfl ?_))
    show WB _ _ _ _ _ _ _
    have lo_mem:∀ c∈loL P Q,c∈NM:=by unfold loL;split<;> assumption
    have hi_mem:∀ c∈hiL P Q,c∈NM:=by unfold hiL;split<;> assumption
    have lo_len:(loL P Q).length≤16:=by unfold loL;split<;> assumption
    have lh:=vo P Q
    have lc:=mS P Q
    generalize loL P Q=lo at s1 lo_mem lo_len lh lc
    generalize hiL P Q=hi at s2 hi_mem lh lc
    have com_take:lcp lo hi=lo.take (lcp lo hi).length:=i8 lo hi
    have mem_com:∀ c∈lcp lo hi,c∈NM:=fun c hc=>by rw [com_take]at hc;exact lo_mem c (List.mem_of_mem_take hc)
    have len_com:(lcp lo hi).length≤16:=by rw [com_take,List.length_take];exact q9 lo_len
    let I2:St→Prop:=fun σ=>Ext H σ.H∧σ.H (L+1)=some (.cell (some (.str SL 0)))∧σ.loc "isabs" =some (.bool true)∧ ∃ q,σ.loc "common" =some (.ref q)∧σ.H q=some (.list (ag (lcp lo hi)))
    refine W.foldL ?_
    intro l_ q_
    refine B.seq I2 ?_ ?_
    ·refine S.for_ (It.enumerate hA'.hand (E.local (v:= .ref sl1) rfl ⟨sl1,_,rfl,s1,fun k σ=>Ext H7 σ.H∧σ.loc "isabs" =some (.bool true)∧σ.loc "common" =some (.ref sl1)∧σ.loc "s1" =some (.ref sl1)∧σ.loc "s2" =some (.ref sl2)∧lo.take k=hi.take k,⟨Ext.refl _,rfl,rfl,rfl,rfl,rfl⟩,?_,?_,?_⟩) (fun P=>rfl) (by kernel_rfl))
     ·rintro k σ ⟨g,-⟩
      exact Has.one (g _ _ s1)
     ·rintro k ⟨loc,Hs⟩ hk h3_;refine aW h3_ fun x7 l1 l2 l3 l4 htk=>?_;clear h3_
      dsimp only at x7 l1 l2 l3 l4 htk
      rw [ae]at hk
      have hk2:=mZ lh hk htk
      show ∀ a,Hs a=none→_
      intro tu htu
      have xt:Ext H7 (upd Hs tu (.tuple [.int k 0,(ag lo).getD k .none])):=x7.trans (aa htu)
      have e1:(upd Hs tu (.tuple [.int k 0,(ag lo).getD k .none])) tu=some (.tuple [.int k 0,.str (lo.getD k default) 0]):=by rw [ah,ax hk]
      show W _ _ _ _ _ ⟨_,upd Hs tu (.tuple [.int k 0,(ag lo).getD k .none])⟩
      generalize upd Hs tu (.tuple [.int k 0,(ag lo).getD k .none])=Hs' at xt e1
      refine assignTup hA'.hand e1 (by rfl) ?_
      intro v1 hv1
      refine W.assignLocal ?_
      intro v2 hv2
      refine W.assignLocal ?_
      simp only [hv1,hv2]
      refine W.foldL ?_
      intro l_ q_
      refine B.cons (S.iteP (lo.getD k default≠hi.getD k default) (T.compare (E.local (v:= .str (lo.getD k default) 0) rfl (E.sub (T:= "list") (id:= "list.__getitem__") (by kernel_rfl) (E.local (v:= .ref sl2) l4 (E.local (v:= .int k 0) rfl ⟨⟨_,xt _ _ s2,rfl⟩,O.itemList (xt _ _ s2) (by rw [ae];exact hk2) (by have:=len_com;exact ua hk lo_len) ?_⟩)) (by intro _ _;rfl)))) (fun hne=>?_) (fun heq=>?_))
      ·rw [ax hk2]
       exact O.neSS ⟨_,rfl,by by_cases h:lo.getD k default=hi.getD k default<;> simp only [h,bne_self_eq_false,ne_eq,not_true_eq_false,decide_false,not_false_eq_true,decide_true,bne_iff_ne],rfl⟩
      ·refine W.foldL ?_
       intro l_ q_
       refine B.cons (S.assign (E.sliceList (E.local (v:= .ref sl1) l3 (.none (.some (E.local (v:= .int k 0) rfl ⟨k,rfl,sl1,_,rfl,xt _ _ s1,by rw [ae];exact bQ (by exact tZ lo_len),by simp,by rw [ae];simp;exact q8 hk,by simp,?_⟩))))))
       intro q hq
       show WB _ _ _ _ _ _ _
       refine W.foldL ?_
       intro l_ q_
       refine B.cons (S.brk ?_)
       refine⟨eH7.trans (xt.trans (aa hq)),xt.trans (aa hq) _ _ c17,l1,q,rfl,?_⟩
       show upd _ _ _ _=_
       rw [ah,kT hk hk2 htk hne]
       show some (AO.list (((ag lo).take k).drop 0))=some (AO.list (ag (lo.take k)))
       rw [List.drop_zero];unfold ag;rw [List.map_take]
      ·refine B.nil (B.nil ?_)
       exact⟨xt,l1,l2,l3,l4,m8 hk hk2 htk (Classical.not_not.mp heq)⟩
     ·rintro⟨loc,Hs⟩ h1_;refine aW h1_ fun x7 l1 l2 l3 l4 ht=>?_;clear h1_
      refine B.nil ?_
      refine⟨eH7.trans x7,x7 _ _ c17,l1,sl1,l2,?_⟩
      rw [ae,List.take_length]at ht
      rw [mT ht];exact x7 _ _ s1
    ·rintro⟨loc,Hs⟩ h1_;refine iP h1_ fun eH cc l1 q l2 hq=>?_;clear h1_
     dsimp only at eH cc l1 l2 hq
     refine W.foldL ?_
     intro l_ q_
     refine B.cons (S.assign (E.ifexp (T.value (E.local (v:= .bool true) l1 (T.trBool ?_)))))
     rw [if_pos rfl]
     refine E.cell (v:= .str SL 0) rfl cc ?_
     show WB _ _ _ _ _ _ _
     refine W.foldL ?_
     intro l_ q_
     refine B.cons (S.ret (E.binop (E.local (v:= .str SL 0) rfl (E.meth (T:= "str") (id:= "str.join") F.plainAttrs_str F.slot_str_join (by kernel_rfl) (E.cell (v:= .str SL 0) rfl cc ⟨rfl,I.cons (E.local (v:= .ref q) l2 (I.nil (M.join hq ?_ (O.addSS ?_ ?_))))⟩)))))
     ·exact du (by decide) (fun x hx=>by
       have h1:∀ x∈NM,x.length≤1000:=by decide+kernel
       exact h1 x (mem_com x hx)) (by exact ps len_com)
     ·have:=bT mem_com len_com
      unfold rd at this
      rw [Str.length_append]at this
      exact bQ (by exact tY this)
     ·intro v' hv'
      exact⟨eH,hv'.trans (by rw [← lc];rfl)⟩
end Mine
end
section
open PySem PySem.W PyProof.Rows PySem.Calls PySem.SeqAt
namespace Mine
section
variable {D:Wd}{A:Around}{L:Addr}{α β:Type}{σ:St}{env:Env}{Φ:Frz}{H:AH}{s:Shared}{fp:List Addr}
theorem F.sortedStrs{l:Addr}{xs:List Str}{Q:Value→St→Prop}(hl:σ.H l=some (.list (ag xs)))(h64:xs.length<64)
 (h:∀ ys:List Str,ys.Perm xs→sortedS ys=true→New Q σ (.list (ag ys))):Cb D A L "sorted" [.ref l] Q σ:=fun vs' e Φ s R=>by
 refine d7 e fun v1 e1=>?_;refine aV e1 ?_
 refine ai (R.listOf hl) fun its hi ei=>?_
 have hs:=aM ei
 rw [ae]at hs
 have hi':s.heap.IsList l its.toList.toArray:=by simpa using hi
 refine sorted_strs hi' (bl ei) (by simpa [hs] using h64) fun out ys h1 h2 h3=>?_
 obtain⟨e,he⟩:=sortedAll_at s.heap its.toList out
 have eo:out.toList.map er=ag ys:=by
  generalize out.toList=o at h1
  clear h2 h3 he
  induction h1 with
  | nil=>rfl
  | cons x t r ih=>rw [List.map_cons,ih];rfl
 exact⟨_,R.alloc (t:=s.toks) (a:=s.heap.objs.size+1) (ao:= .list (ag ys)) (Nat.le_succ _) (fun _ _=>sortedAll_old) ⟨_,he,out,e,rfl,eo⟩,h ys h2 h3 _ (R.rel.fresh (Heap.get?_none_of_le (Nat.le_succ _))).2⟩
theorem m7{z TI TO i1 i2 l1 l2:Addr}{vs us:List Value}{elts:List Expr}{n1:Nat}{p1:Pos}(hh:A.handled=none)(hD:ZipApart z TI TO i1 i2 l1 l2)(hlen:us.length=vs.length):
 Turns D A (.Tuple elts n1 p1) vs.length (fun k=> .inr (.tuple [vs.getD k .none,us.getD k .none])) [(l1,.list vs),(l2,.list us)] z [z,TI,TO,i1,i2]
  (fun k h=>IsZip h z TI TO .none∧IsPair h TI (.ref i1) (.ref i2)∧(∃ a b,IsPair h TO a b)∧h.IsListIter i1 l1 k∧h.IsListIter i2 l2 k)
  (fun v k h=> ∃ T,v= .ref T∧IsZip h z TI TO (rawInt T)∧IsPair h TI (.ref i1) (.ref i2)∧(∃ a b,IsPair h TO a b)∧h.IsListIter i1 l1 k∧h.IsListIter i2 l2 k) where
 frame:=fun k h h' ⟨hz,hTI,⟨a,b,hTO⟩,h1,h2⟩ kk=>⟨kk z (by simp) _ hz,kk TI (by simp) _ hTI,⟨a,b,kk TO (by simp) _ hTO⟩,h1.at fun o e=>kk i1 (by simp) o e,h2.at fun o e=>kk i2 (by simp) o e⟩
 live:=fun k h ⟨hz,hTI,⟨a,b,hTO⟩,h1,h2⟩ c hc=>by
  simp at hc
  rcases hc with q | q | q | q | q
  ·exact⟨_,q▸hz⟩
  ·exact⟨_,q▸hTI⟩
  ·exact⟨_,q▸hTO⟩
  ·refine ai h1 fun o ho _=>?_;clear h1;exact⟨o,q▸ho⟩
  ·refine ai h2 fun o ho _=>?_;clear h2;exact⟨o,q▸ho⟩
 next:=fun k F H s Q R G hd ⟨hz,hTI,⟨a,b,hTO⟩,h1,h2⟩ hk hq=>by
  refine ai (R.listOf (G _ (.head _))) fun xs hl1 e1=>?_
  refine ai (R.listOf (G _ (.tail _ (.head _)))) fun ys hl2 e2=>?_
  refine ai (bj e1 hk) fun x hx ex=>?_
  refine ai (bj e2 (k:=k) (by exact qb hk hlen)) fun y hy ey=>?_
  refine wpAny_pyNext_zip_item hD hz hTI hTO h1 h2 hl1 hl2 hx hy fun h' a1 a2 a3 a4 a5 a6 a7=>?_
  have hfp:∀ b o,b∉ [z,TI,TO,i1,i2]→s.heap.get? b=some o→h'.get? b=some o:=fun b o hb eo=>a7 b o (fun q=>hb (by simp [q])) (fun q=>hb (by simp [q])) (fun q=>hb (by simp [q])) (fun q=>hb (by simp [q])) eo
  have R1:=R.hid (t:=s.toks) hd hfp
  have hn:=R.fresh (dy s.heap)
  have hlt:∀ b∈ [z,TI,TO,i1,i2],b≠s.heap.objs.size:=fun c hc q=>by
   have:∃ o,s.heap.get? c=some o:=by
    simp at hc
    rcases hc with q | q | q | q | q
    ·exact⟨_,q▸hz⟩
    ·exact⟨_,q▸hTI⟩
    ·exact⟨_,q▸hTO⟩
    ·refine ai h1 fun o ho _=>?_;clear h1;exact⟨o,q▸ho⟩
    ·refine ai h2 fun o ho _=>?_;clear h2;exact⟨o,q▸ho⟩
   obtain⟨o,ho⟩:=this
   have:=Heap.lt_size ho
   rw [q]at this;exact absurd this (Nat.lt_irrefl _)
  refine hq _ _ _ (R1.adopt (a:=s.heap.objs.size) (ao:= .tuple [vs.getD k .none,us.getD k .none]) ⟨_,a5,_,_,rfl,by rw [← ex,← ey];rfl⟩ hn.1 R.big) (fun b hb=>⟨(hd b hb).1,by rw [af (hlt b hb)];exact(hd b hb).2⟩)
   ⟨_,rfl,a1,a7 _ _ hD.TIz hD.TITO hD.TIi1 hD.TIi2 hTI,⟨_,_,a2⟩,a3,a4⟩ ⟨_,rfl,hn.2,rfl⟩
 go:=fun v k F H s Q R hd ⟨T,ev,hz,hTI,⟨a,b,hTO⟩,h1,h2⟩ hq=>by
  subst ev
  refine wpAny_letOwnedTupleGo_zip hz fun h' hz' hs'=>hq _ (R.hid (t:=s.toks) hd fun b o hb eo=>(hs'.2 b fun q=>hb (by simp [q])).trans eo)
   ⟨hz',hs'.extBut _ _ hD.TIz hTI,⟨a,b,hs'.extBut _ _ hD.TOz hTO⟩,h1.extBut hs'.extBut hD.i1z,h2.extBut hs'.extBut hD.i2z⟩
 stop:=fun F H s Q R G hd ⟨hz,hTI,⟨a,b,hTO⟩,h1,h2⟩ hq=>by
  refine ai (R.listOf (G _ (.head _))) fun xs hl1 e1=>?_
  refine ai (R.listOf (G _ (.tail _ (.head _)))) fun ys hl2 e2=>?_
  refine wpAny_pyNext_zip_end hh hD hz hTI hTO h1 h2 hl1 hl2 (.inl (cT e1 (Nat.le_refl _))) fun h' a7=>?_
  have hb:∀ b o,b∉ [z,TI,TO,i1,i2]→s.heap.get? b=some o→h'.get? b=some o:=fun b o hb eo=>a7 b o (fun q=>hb (by simp [q])) (fun q=>hb (by simp [q])) (fun q=>hb (by simp [q])) (fun q=>hb (by simp [q])) eo
  exact hq _ (R.hid (t:=s.toks) hd hb) hb
 self:=fun k F H s Q R=>gD fun hz _ hq=>wpAny_pyIter_zip hz hq
theorem It.zip{x:Str}{p pos:Pos}{es:List Expr}{elts:List Expr}{n1:Nat}{p1:Pos}{Q:Nat→(Nat→Value ⊕ AO)→List (Addr×AO)→St→Prop}(hh:A.handled=none)
 (h:WI D A L env pos es (fun ws σ₁=> ∃ l1 l2 vs us,ws= [.ref l1,.ref l2]∧σ₁.H l1=some (.list vs)∧σ₁.H l2=some (.list us)∧us.length=vs.length∧Q vs.length (fun k=> .inr (.tuple [vs.getD k .none,us.getD k .none])) [(l1,.list vs),(l2,.list us)] σ₁) σ)
 (hx:∀ P,nsIn (K0 P) mainGlobals x=some Option.none) (hv:bootBuiltins x=some (.type "zip"))
 (hplain:(backTo pos (starEach es env)).any (·.1)=false:=by rfl) (hg:env.globals=mainGlobals:=by rfl) (hb:env.builtins=builtinsNs:=by rfl) (hk:env.scope.kind= .function:=by rfl) (hl:env.kindOf x=some .globalImplicit:=by rfl) (hdb:(x==("__debug__" :Str))=false:=by decide) (hn:x≠ "__name__" :=by decide):
 It D A L env (.Tuple elts n1 p1) (.Call (.Name x p) es [] pos) Q σ:=fun F s R=>by
 rw [show eval (.Call (.Name x p) es [] pos) env=(do callWith pos (← eval (.Name x p) env) [] (backTo pos (starEach es env)) [])from rfl]
 refine wpAny_bind (wpAny_mono (E.builtin (Q:=fun v σ'=>v= .type "zip" ∧σ'=σ) hx hv ⟨rfl,rfl⟩ hg hb hk hl hdb hn F s R) (fun v s₁=>aK fun σ₁ R₁ ev eσ=>?_) fun _ _ x=>x)
 rw [cE ev];subst eσ
 refine PyProof.Rows.callWith_type hplain (bB hplain ?_)
 refine wpAny_mono (h F s₁ R₁) (fun ws s₂=>iI fun σ₂ R₂ l1 l2 vs us e1 hl1 hl2 hlen q=>?_) fun _ _ x=>x
 refine eA e1 fun v1 e2 v2 e3=>?_;refine aV e2 ?_;refine aV e3 ?_
 refine ai (R₂.listOf hl1) fun xs hi1 ei1=>?_
 refine ai (R₂.listOf hl2) fun ys hi2 ei2=>?_
 have lt1:l1<s₂.heap.objs.size:=by refine ai hi1 fun o ho _=>?_;clear hi1;exact Heap.lt_size ho
 have lt2:l2<s₂.heap.objs.size:=by refine ai hi2 fun o ho _=>?_;clear hi2;exact Heap.lt_size ho
 refine call_zip_2 hi1 hi2 fun h' a1 a2 a3 a4 a5 a6 a7=>?_
 refine wpAny_pyIter_zip a1 ?_
 have nf:∀ b,s₂.heap.objs.size≤b→F b=none∧upd σ₂.H L (.ns σ₂.loc) b=none:=fun b hb=>R₂.push0.fresh (Heap.get?_none_of_le hb)
 have ap:∀ {n:Nat},n<s₂.heap.objs.size→ ∀ k,n≠s₂.heap.objs.size+k:=fun h k e=>absurd h (by rw [e];exact Nat.not_lt.mpr (Nat.le_add_right ..))
 have ap0:∀ {n:Nat},n<s₂.heap.objs.size→n≠s₂.heap.objs.size:=fun h e=>absurd h (by rw [e];exact Nat.lt_irrefl _)
 have c:∀ {m n:Nat},m≠n→s₂.heap.objs.size+m≠s₂.heap.objs.size+n:=fun h e=>h (Nat.add_left_cancel e)
 have c0:∀ {n:Nat},n≠0→s₂.heap.objs.size≠s₂.heap.objs.size+n:=fun h e=>h (Nat.add_left_cancel (n:=s₂.heap.objs.size) (k:=0) e.symm)
 have hD:ZipApart (s₂.heap.objs.size+4) (s₂.heap.objs.size+2) (s₂.heap.objs.size+3) s₂.heap.objs.size (s₂.heap.objs.size+1) l1 l2:=
  ⟨c (by decide),c (by decide),c0 (by decide),c (by decide),c (by decide),(c0 (by decide)).symm,c (by decide),(c0 (by decide)).symm,c (by decide),c0 (by decide),ap lt1 _,ap lt1 _,ap0 lt1,ap lt1 _,ap lt2 _,ap lt2 _,ap0 lt2,ap lt2 _⟩
 refine⟨vs.length,_,_,_,_,_,_,σ₂,rfl,R₂.ext (t:=s₂.toks) a7,fun b hb=>?_,⟨a1,a2,⟨_,_,a3⟩,a4,a5⟩,m7 hh hD hlen,?_,q⟩
 ·simp at hb
  rcases hb with z | z | z | z | z
  ·exact nf b (by rw [z];exact Nat.le_add_right ..)
  ·exact nf b (by rw [z];exact Nat.le_add_right ..)
  ·exact nf b (by rw [z];exact Nat.le_add_right ..)
  ·exact nf b (by rw [z];exact Nat.le_refl _)
  ·exact nf b (by rw [z];exact Nat.le_add_right ..)
 ·intro p hp
  rcases List.mem_cons.mp hp with z | z
  ·rw [z];exact hl1
  ·rw [List.mem_singleton.mp z];exact hl2
end
end Mine
end
section
open PySem PySem.W PyProof.Rows PySem.Calls PySem.SeqAt
namespace Mine
section
variable {D:Wd}{A:Around}{env:Env}
theorem iz{w:World}{c0 c1 c2 c3:Str}{k0 k1 k2 k3:Nat}{p0 p1 p2 p3 lp pos:Pos}{e:Expr}{i:Nat}(hi:i<4){s:Shared}{Q:Value→Shared→Prop}
 (he:∀ h' tk,(∀ b o,s.heap.get? b=some o→h'.get? b=some o)→s.toks≤tk→wpAny (model PR w) A (eval e env) (fun v s₂=> ∃ t tk',v= .int (i:Int) t∧tk≤tk'∧s₂= { s with heap:=h',toks:=tk'}) (fun _ _=>False) { s with heap:=h',toks:=tk})
 (h:∀ t h' tk,s.toks≤t→t<tk→(∀ b o,s.heap.get? b=some o→h'.get? b=some o)→Q (.str ([c0,c1,c2,c3].getD i default) t) { s with heap:=h',toks:=tk})
 (hsl:∀ o j,subscripted e false o j=operate [o,j] (getItem o j):=by intro _ _;rfl)
 (hlt:∀ o r,letTemporaryGo (.List [.Constant (.str c0) k0 p0,.Constant (.str c1) k1 p1,.Constant (.str c2) k2 p2,.Constant (.str c3) k3 p3] lp) o r=letTemporaryGo (.List [.Constant (.str c0) k0 p0,.Constant (.str c1) k1 p1,.Constant (.str c2) k2 p2,.Constant (.str c3) k3 p3] lp) o r:=by intro _ _;rfl):
 wpAny (model PR w) A (eval (.Subscript (.List [.Constant (.str c0) k0 p0,.Constant (.str c1) k1 p1,.Constant (.str c2) k2 p2,.Constant (.str c3) k3 p3] lp) e pos) env) Q (fun _ _=>False) s:=by
 rw [eval_Subscript]
 refine wpAny_bind (wpAny_List (wpAny_items_cons (wpAny_Constant_str (wpAny_items_cons (wpAny_Constant_str (wpAny_items_cons (wpAny_Constant_str (wpAny_items_cons (wpAny_Constant_str (wpAny_items_nil ⟨by show 4≤_;decide,?_⟩))))))))))
 dsimp only
 have kp:∀ b o,s.heap.get? b=some o→(s.heap.push { cls:= .type "list",data:= .seq [Value.str c0 s.toks,.str c1 (s.toks+1),.str c2 (s.toks+1+1),.str c3 (s.toks+1+1+1)].toArray}).get? b=some o:=fun b o e=>Heap.get?_push_of_some _ e
 have hl:(s.heap.push { cls:= .type "list",data:= .seq [Value.str c0 s.toks,.str c1 (s.toks+1),.str c2 (s.toks+1+1),.str c3 (s.toks+1+1+1)].toArray}).get? s.heap.objs.size=some { cls:= .type "list",data:= .seq [Value.str c0 s.toks,.str c1 (s.toks+1),.str c2 (s.toks+1+1),.str c3 (s.toks+1+1+1)].toArray}:=Heap.get?_push_size _ rfl
 refine wpAny_bind (wpAny_holding (wpAny_mono (he _ (s.toks+1+1+1+1) kp (by exact ph)) (fun v s₂=>cV fun t tk' e1 e2 e3=>?_) fun _ _ x=>x))
 subst e1 e3
 refine wpAny_bind (wpAny_standAt ?_)
 have hT:({ s with heap:=s.heap.push { cls:= .type "list",data:= .seq [Value.str c0 s.toks,.str c1 (s.toks+1),.str c2 (s.toks+1+1),.str c3 (s.toks+1+1+1)].toArray},toks:=tk'}:Shared).TypeIs (.ref s.heap.objs.size) "list" :=⟨_,hl,rfl⟩
 refine wpAny_bind ?_
 rw [getitemInPython_of_ne hT.not_modules]
 refine wpAny_bind (wpAny_specialOf hT (T:= "list") (name:= "__getitem__") (r:=some (.builtin "list.__getitem__")) (by kernel_rfl) ?_)
 refine wpAny_pure ?_
 rw [hsl]
 have e2:s.toks+1+1+1+1≤tk':=e2
 have hx:∃ t:Nat,[Value.str c0 s.toks,.str c1 (s.toks+1),.str c2 (s.toks+1+1),.str c3 (s.toks+1+1+1)].toArray[i]?=some (.str ([c0,c1,c2,c3].getD i default) t)∧s.toks≤t∧t<tk':=by
  match i,hi with
  | 0,_=>exact⟨s.toks,rfl,Nat.le_refl _,by exact sj e2⟩
  | 1,_=>exact⟨s.toks+1,rfl,by exact qq,by exact si e2⟩
  | 2,_=>exact⟨s.toks+1+1,rfl,by exact pk,by exact sh e2⟩
  | 3,_=>exact⟨s.toks+1+1+1,rfl,by exact sg,by exact sf e2⟩
 refine aR hx fun tt hx h1 h2=>?_
 refine wpAny_bind (wpAny_operating (wpAny_getItem_list ⟨_,hl,rfl,_,rfl⟩ (by exact m6) (by exact sd hi) (by simpa using hx) ?_))
 exact wpAny_bind (wpAny_letTemporaryGo (wpAny_pure (h tt _ tk' h1 h2 kp)))
end
noncomputable def SLT:List Str:= [Str.ofString "/",Str.ofString "//",Str.ofString "/./",Str.ofString "/Q/../"]
noncomputable def FRT:List Str:= [Str.ofString "/",Str.ofString "///",Str.ofString "/../",Str.ofString "/./"]
noncomputable def TLT:List Str:= [Str.ofString "",Str.ofString "/",Str.ofString "//.",Str.ofString "/Q/.."]
noncomputable def bh(road:Str)(q:Int):Str:=FRT.getD ((q.fdiv 4).fmod 4).toNat default++Txt.replace (b4 road (some 1) none) SL (SLT.getD (q.fmod 4).toNat default)++TLT.getD ((q.fdiv 16).fmod 4).toNat default
theorem fh(a:Int):(a.fmod 4)=((a.fmod 4).toNat:Int)∧(a.fmod 4).toNat<4:=by
 have h1:0≤a.fmod 4:=Int.fmod_nonneg_of_pos a (by decide)
 have h2:a.fmod 4<4:=Int.fmod_lt_of_pos a (by decide)
 exact sb h1 h2
theorem xf(a:Int):Builtin.divisionGoesByPylong a 4=false:=PyProof.noPylong_small (by exact rZ)
theorem vj(a:Int):Builtin.divisionGoesByPylong a 16=false:=PyProof.noPylong_small (by exact rY)
theorem kR{n:Nat}(h:n≤100000):n≤sizeLine:=Nat.le_trans h (by decide)
theorem gu:∀ i,i<4→(SLT.getD i default).length≤6∧(FRT.getD i default).length≤6∧(TLT.getD i default).length≤6:=by decide+kernel
theorem mV(z:Str):∀ (p:Str) (r:List Str),(cs (Str.join z (p::r))).length+r.length=(cs (Str.join SL (p::r))).length+r.length*(cs z).length:=by
 intro p r
 rw [bg,bg,List.length_append,List.length_append]
 induction r with
 | nil=>simp
 | cons d r ih=>
  simp only [List.flatMap_cons,List.length_append,List.length_cons,fk,Nat.succ_mul,List.length_nil]at ih ⊢
  exact rX ih
theorem oo(x z:Str):(Txt.replace x SL z).length≤x.length+(x.length+1)*z.length:=by
 have e:Txt.replace x SL z=Str.join z (Txt.split x SL):=by rw [nQ];exact StrLaws.replace_one x z 47
 rw [e]
 have hj:=StrLaws.join_split x SL
 cases hq:Txt.split x SL with
 | nil=>exact absurd hq (kK x)
 | cons p r=>
  rw [hq]at hj
  have h1:=mV z p r
  rw [hj]at h1
  have h2:r.length≤(cs x).length:=by
   have:=bg SL p r
   rw [hj]at this
   rw [this,List.length_append]
   have:∀ r:List Str,r.length≤(r.flatMap fun p=>cs SL++cs p).length:=by
    intro r
    induction r with
    | nil=>simp
    | cons d r ih=>simp at ih ⊢;exact qi ih
   have:=this r
   exact qi this
  rw [b8,b8 x,b8 z]
  have h3:r.length*(cs z).length≤(cs x).length*(cs z).length:=Nat.mul_le_mul_right _ h2
  rw [Nat.succ_mul]
  exact rW h1 h3
variable {D:Wd}{A:Around}
theorem jH{H:AH}{road:Str}{q:Int}{v u:Value}(hA:Ok A 5)(hv:er v= .str road 0)(hu:er u= .int q 0)(hz:road.length≤1000)(hnb:NoneBooked D.h₀):
 Cd D A (.call (.ref 296) ⟨[v,u],[]⟩) (fun r H'=>Ext H H'∧r= .str (bh road q) 0) H:=by
 obtain⟨t1,rfl⟩:=au hv
 obtain⟨t2,rfl⟩:=aB hu
 intro Φ s R
 refine codeAny_call_def (binds:= [("road",.str road t1),("q",.int q t2)]) (by have:=hA.depth;show A.depth<1000;exact rV this) (R.K 296 _ rfl) rfl R.sta.nolimit (codeRec_of R.K rfl) rfl (BindsTo.of_eq rfl) (by decide) (by intro x hx;simp at hx;rcases hx with rfl | rfl<;> rfl) (fun h₁ hns hk₁=>?_) rfl rfl rfl
 have nbk:∀ h',(∀ b o,h₁.get? b=some o→h'.get? b=some o)→NoneBooked h':=fun h' k=>by
  refine ai hnb fun mc hmc hno=>?_;clear hnb
  exact⟨mc,hmc.keeps fun b o e=>k b o (hk₁ b o (R.keep b o e)),hno⟩
 refine wpAny_mono (Q:=fun f s'=> ∃ v h' tk,f= .ret v∧er v= .str (bh road q) 0∧s'= { s with heap:=h',toks:=tk} ∧(∀ b o,s.heap.get? b=some o→h'.get? b=some o)) (E:=fun _ _=>False) ?_ (fun fl s'=>fS fun v h' tk e1 e2 e3 kp=>by subst e1 e3;exact⟨v,H,rfl,R.ext kp,Ext.refl _,e2⟩) (fun _ _ x=>x.elim)
 rw [execs_cons]
 refine wpAny_bind (wpAny_Assign_Name (iz (i:=(q.fmod 4).toNat) (fh q).2 (fun h' tk kp htk=>?_) (fun t h2 tk g1 g2 kp=>?_)))
 ·refine wpAny_BinOp (wpAny_Name (wpAny_loadName_local rfl rfl (hns.keeps kp) rfl (wpAny_Constant_int (PyProof.Rows.mod_int' (by decide) ⟨_,_,by rw [(fh q).1.symm],by dsimp only;exact pk,rfl⟩))) (by decide))
 refine wpAny_storeName_local rfl (hns.keeps kp) (fun h3 hns3 hs3=>?_)
 dsimp only
 rw [execs_cons]
 refine wpAny_bind (wpAny_Assign_Name (iz (i:=((q.fdiv 4).fmod 4).toNat) (fh _).2 (fun h' tk kp htk=>?_) (fun t' h4 tk' g1' g2' kp'=>?_)))
 ·refine wpAny_BinOp (wpAny_BinOp (wpAny_Name (wpAny_loadName_local rfl rfl (hns3.keeps kp) rfl (wpAny_Constant_int (PyProof.Rows.floordiv_int (by decide) (wpAny_Constant_int (PyProof.Rows.mod_int' (by decide) ⟨_,_,by rw [(fh _).1.symm],by dsimp only;exact ph,rfl⟩)) (.inl (xf q))))) (by decide)))
 refine wpAny_storeName_local rfl (hns3.keeps kp') (fun h5 hns5 hs5=>?_)
 dsimp only at g1 g2 g1' g2' kp kp' ⊢
 have hsT:s.toks+2≤t:=g1
 have big:∀ b o,s.heap.get? b=some o→b≠s.heap.objs.size:=fun b o e=>Nat.ne_of_lt (Heap.lt_size e)
 have keep5:∀ b o,s.heap.get? b=some o→h5.get? b=some o:=fun b o e=>(hs5.2 b (big b o e)).trans (kp' b o ((hs3.2 b (big b o e)).trans (kp b o (hk₁ b o e))))
 have nb5:∀ h',(∀ b o,h5.get? b=some o→h'.get? b=some o)→NoneBooked h':=fun h' k=>by
  refine ai hnb fun mc hmc hno=>?_;clear hnb
  exact⟨mc,hmc.keeps fun b o e=>k b o (keep5 b o (R.keep b o e)),hno⟩
 have L1:=gu _ (fh q).2
 have L2:=gu _ (fh (q.fdiv 4)).2
 have L3:=gu _ (fh (q.fdiv 16)).2
 have Lr:(b4 road (some 1) none).length≤1000:=Nat.le_trans (fm ..) hz
 have Lp:=oo (b4 road (some 1) none) (SLT.getD (q.fmod 4).toNat default)
 have Lq:((b4 road (some 1) none).length+1)*(SLT.getD (q.fmod 4).toNat default).length≤1001*6:=Nat.mul_le_mul (by exact rU Lr) L1.1
 rw [execs_cons]
 refine wpAny_bind (wpAny_Return_some (wpAny_BinOp (wpAny_BinOp (wpAny_Name (wpAny_loadName_local rfl rfl hns5 rfl ?_) (by decide)))))
 refine wpAny_Call_method_late rfl rfl rfl rfl (wpAny_mono (lE (Q:=fun ov s₁=> ∃ tv h' tk,ov= .str (b4 road (some 1) none) tv∧s₁= { s with heap:=h',toks:=tk} ∧(∀ b o,h5.get? b=some o→h'.get? b=some o)) (E:=fun _ _=>False) ?_) (fun ov s₁=>ny fun htk tv h6 tk6 e1 e2 kp6=>?_) fun _ _ x=>x.2)
 ·refine wpAny_Subscript_str_slice (wpAny_Name (wpAny_loadName_local rfl rfl hns5 rfl (wpAny_evalPart_some (wpAny_Constant_int (wpAny_evalPart_none ⟨road,t1,some (1,tk'+1),none,rfl,rfl,rfl,?_⟩)))) (by decide))
  exact dC (a:=some 1) (b:=none) rfl rfl (aq hz) fun tk tk'=>⟨tk,_,tk',rfl,rfl,fun b o e=>Heap.get?_push_of_some _ e⟩
 subst e1 e2
 have htk:tk'+1≤tk6:=htk
 have hsT:s.toks+2≤t:=g1
 have z1:(tk6:Nat)≠0:=by exact rT htk
 have z2:(t:Nat)≠0:=by exact rS hsT
 have z3:(tk6:Nat)≠t:=by exact rR htk g1' g2 g2'
 refine⟨"str","str.replace",F.plainAttrs_str,F.slot_str_replace,by kernel_rfl,typeIs_str _ _ _,(fun a e=>nomatch e),Calls.callWith_builtin rfl ?_⟩
 refine Calls.evalArgs_plain (wpAny_items_cons (wpAny_Constant_str (wpAny_items_cons (wpAny_Name (wpAny_loadName_local rfl rfl (hns5.keeps kp6) rfl ?_) (by decide)))))
 refine wpAny_items_nil ?_
 refine SC.replaceA (x:=b4 road (some 1) none) (y:=SL) (z:=SLT.getD (q.fmod 4).toNat default) z1 z2 z3 (by exact rQ Lr Lq) (fun tr kr=>?_) (nb5 _ kp6)
 refine PyProof.Rows.add_str (fun tu ku=>?_) (kR ?_)
 ·refine iz (i:=((q.fdiv 16).fmod 4).toNat) (fh _).2 (fun h' tk kp htk=>?_) (fun t7 h7 tk7 g7 g7' kp7=>?_)
  ·refine wpAny_BinOp (wpAny_BinOp (wpAny_Name (wpAny_loadName_local rfl rfl ((hns5.keeps kp6).keeps kp) rfl (wpAny_Constant_int (PyProof.Rows.floordiv_int (by decide) (wpAny_Constant_int (PyProof.Rows.mod_int' (by decide) ⟨_,_,by rw [(fh _).1.symm],by dsimp only;exact ph,rfl⟩)) (.inl (vj q))))) (by decide)))
  ·refine PyProof.Rows.add_str (fun tx kx=>?_) (kR ?_)
   ·exact wpAny_pure ⟨_,_,_,rfl,rfl,rfl,fun b o e=>kp7 b o (kp6 b o (keep5 b o e))⟩
   ·show(FRT.getD ((q.fdiv 4).fmod 4).toNat default++Txt.replace (b4 road (some 1) none) SL (SLT.getD (q.fmod 4).toNat default)).length+(TLT.getD ((q.fdiv 16).fmod 4).toNat default).length≤100000
    rw [Str.length_append];exact rP L2.2.1 L3.2.2 Lr Lp Lq
 ·show(FRT.getD ((q.fdiv 4).fmod 4).toNat default).length+(Txt.replace (b4 road (some 1) none) SL (SLT.getD (q.fmod 4).toNat default)).length≤100000
  exact rO L2.2.1 Lp Lr Lq
end Mine
end
section
open PySem PySem.W PyProof.Rows PySem.Calls PySem.SeqAt
namespace Mine
noncomputable def PRE:List (List Str):= [[],[Str.ofString "",Str.ofString ""],[DD],[DOT]]
noncomputable def MID:List (List Str):= [[],[Str.ofString ""],[DOT],[Str.ofString "Q",DD]]
noncomputable def SUF:List (List Str):= [[],[Str.ofString ""],[Str.ofString "",DOT],[Str.ofString "Q",DD]]
noncomputable def cn(m:List Str):List Str→List Str
 | []=> []
 | [c]=> [c]
 | c::d::r=>c::(m++cn m (d::r))
theorem kM(m:List Str)(z:Str)(hz:cs z=cs (sl m)++ [47]):∀ (c:Str) (r:List Str),cs (sl (cn m (c::r)))=47::cs (Str.join z (c::r))
 | c,[]=>by rw [cn,cM,bg];simp
 | c,d::r=>by
  have ih:=kM m z hz d r
  rw [cn,cM,List.flatMap_cons,List.flatMap_append,← cM,← cM,ih,bg,bg]
  simp [hz]
noncomputable def v7(q:Int):Nat:=((q.fdiv 4).fmod 4).toNat
noncomputable def kSl(q:Int):Nat:=(q.fmod 4).toNat
noncomputable def kTl(q:Int):Nat:=((q.fdiv 16).fmod 4).toNat
noncomputable def ct(C:List Str)(q:Int):List Str:=PRE.getD (v7 q) []++cn (MID.getD (kSl q) []) C++SUF.getD (kTl q) []
theorem oY{P:Nat→Prop}(h0:P 0)(h1:P 1)(h2:P 2)(h3:P 3):∀ k,k<4→P k:=fun k hk=>by
 rcases k with _ | _ | _ | _ | k
 ·exact h0
 ·exact h1
 ·exact h2
 ·exact h3
 ·exact(u4 hk).elim
theorem fO(q:Int):v7 q<4:=(fh _).2
theorem kY(q:Int):kSl q<4:=(fh _).2
theorem kX(q:Int):kTl q<4:=(fh _).2
theorem qU:∀ k,k<4→cs (FRT.getD k default)=cs (sl (PRE.getD k []))++ [47]:=oY (by decide+kernel) (by decide+kernel) (by decide+kernel) (by decide+kernel)
theorem qM:∀ k,k<4→cs (SLT.getD k default)=cs (sl (MID.getD k []))++ [47]:=oY (by decide+kernel) (by decide+kernel) (by decide+kernel) (by decide+kernel)
theorem qJ:∀ k,k<4→cs (TLT.getD k default)=cs (sl (SUF.getD k [])):=oY (by decide+kernel) (by decide+kernel) (by decide+kernel) (by decide+kernel)
theorem lH{C:List Str}(h:C≠ [])(hC:∀ c∈C,Good c)(q:Int):bh (rd C) q=sl (ct C q):=by
 have e1:b4 (rd C) (some 1) none=Str.join SL C:=bb (by
  rw [dM,rd,fw,c6,fk];simp)
 have e2:Txt.replace (Str.join SL C) SL (SLT.getD (kSl q) default)=Str.join (SLT.getD (kSl q) default) C:=by
  have:=StrLaws.replace_one (Str.join SL C) (SLT.getD (kSl q) default) 47
  rw [← nQ]at this
  rw [this,eM h fun c hc=>(hC c hc).free]
 unfold bh ct
 show FRT.getD (v7 q) default++Txt.replace _ _ (SLT.getD (kSl q) default)++TLT.getD (kTl q) default=_
 rw [e1,e2,mC,mC]
 obtain⟨c,r,rfl⟩:∃ c r,C=c::r:=by cases C with
  | nil=>exact absurd rfl h
  | cons c r=>exact⟨c,r,rfl⟩
 refine bb ?_
 rw [c6,c6,c6,c6,qU _ (fO q),qJ _ (kX q),kM _ _ (qM _ (kY q))]
 simp
theorem oS(x:Str)(i:Nat):b4 x (some i) (some (i+1))=SL↔(cs x)[i]?=some 47:=by
 have e:cs (b4 x (some i) (some (i+1)))=((cs x).take (i+1)).drop i:=by rw [dM];rfl
 have e2:((cs x).take (i+1)).drop i=((cs x)[i]?).toList:=by
  generalize cs x=l
  induction l generalizing i with
  | nil=>simp
  | cons a r ih=>cases i with
   | zero=>simp
   | succ i=>simpa using ih i (by
    rw [dM]at *;simp at *)
 constructor
 ·intro h
  have:=congrArg cs h
  rw [e,e2,fk]at this
  cases q:(cs x)[i]? with
  | none=>rw [q]at this;cases this
  | some a=>rw [q]at this;simp at this;rw [this]
 ·intro h
  refine bb ?_
  rw [e,e2,h,fk];rfl
theorem p6{K:List Str}(h:K≠ [])(hh:(cs (sl K))[1]?≠some 47∨(cs (sl K))[2]?=some 47):aI (sl K)=(SL,Str.join SL K):=by
 obtain⟨c,r,rfl⟩:∃ c r,K=c::r:=by cases K with
  | nil=>exact absurd rfl h
  | cons c r=>exact⟨c,r,rfl⟩
 have h0:b4 (sl (c::r)) none (some 1)=SL:=bb (by rw [dM,cM];simp)
 have e1:b4 (sl (c::r)) (some 1) none=Str.join SL (c::r):=bb (by rw [dM];show(List.take (cs (sl (c::r))).length (cs (sl (c::r)))).drop 1=_;rw [List.take_length,cM,bg];simp)
 unfold aI
 rw [if_neg (by simpa using h0),if_pos,e1]
 rcases hh with q | q
 ·exact .inl fun e=>q ((oS _ 1).mp e)
 ·exact .inr ((oS _ 2).mpr q)
theorem nj{c:Str}(h:Good c):∃ a r,cs c=a::r∧a≠47:=by
 cases e:cs c with
 | nil=>exact absurd e h.ne
 | cons a r=>exact⟨a,r,rfl,fun q=>h.free (by rw [e,q];simp)⟩
theorem f8{C:List Str}(h:C≠ [])(q:Int):ct C q≠ []:=by
 unfold ct
 match C,h with
 | [c],_=>simp [cn]
 | c::d::r,_=>simp [cn]
theorem lW(m:List Str)(c:Str)(r:List Str):∃ r',cn m (c::r)=c::r':=by
 cases r with
 | nil=>exact⟨_,rfl⟩
 | cons d r=>exact⟨_,rfl⟩
theorem lL{C:List Str}(h:C≠ [])(hC:∀ c∈C,Good c)(q:Int):aI (sl (ct C q))=(SL,Str.join SL (ct C q)):=by
 refine p6 (f8 h q) ?_
 obtain⟨c,r,rfl⟩:∃ c r,C=c::r:=by cases C with
  | nil=>exact absurd rfl h
  | cons c r=>exact⟨c,r,rfl⟩
 obtain⟨r',e'⟩:=lW (MID.getD (kSl q) []) c r
 refine b6 (nj (hC c (.head _))) fun a t ea ha=>?_
 have hd:cs (Str.ofString "")= []:=by decide+kernel
 have key:∀ k,k<4→(cs (sl (PRE.getD k []++cn (MID.getD (kSl q) []) (c::r)++SUF.getD (kTl q) [])))[1]?≠some 47∨(cs (sl (PRE.getD k []++cn (MID.getD (kSl q) []) (c::r)++SUF.getD (kTl q) [])))[2]?=some 47:=by
  rw [e']
  refine oY ?_ ?_ ?_ ?_
  ·left;rw [cM];simp [PRE,ea,ha]
  ·right;rw [cM];simp [PRE,hd]
  ·left;rw [cM];simp [PRE]
  ·left;rw [cM];simp [PRE]
 exact key _ (fO q)
theorem gT{acc:List Str}{c:Str}(h:Good c):b5 acc c=acc++ [c]:=by
 unfold b5
 rw [if_neg,if_pos (.inl h.d2)]
 rintro(q | q)
 ·rw [b8]at q;exact h.ne (List.length_eq_zero_iff.mp q)
 ·exact h.d1 q
theorem cS{m:List Str}(hm:m= []∨m= [Str.ofString ""]∨m= [DOT]∨m= [Str.ofString "",DOT]∨m= [Str.ofString "Q",DD])(acc:List Str):m.foldl b5 acc=acc:=by
 have e0:∀ acc,b5 acc (Str.ofString "")=acc:=fun acc=>if_pos (.inl rfl)
 have e1:∀ acc,b5 acc DOT=acc:=fun acc=>if_pos (.inr rfl)
 have e2:∀ acc,b5 acc (Str.ofString "Q")=acc++ [Str.ofString "Q"]:=fun acc=>by
  unfold b5;rw [if_neg (by decide+kernel),if_pos (.inl (by decide+kernel))]
 have e3:∀ acc,b5 (acc++ [Str.ofString "Q"]) DD=acc:=fun acc=>by
  unfold b5
  rw [if_neg (by decide+kernel),if_neg]
  ·simp
  ·rintro(q | q)
   ·exact q rfl
   ·simp at q;revert q;decide+kernel
 rcases hm with rfl | rfl | rfl | rfl | rfl
 ·rfl
 ·exact e0 _
 ·exact e1 _
 ·rw [List.foldl_cons,List.foldl_cons,List.foldl_nil,e0,e1]
 ·rw [List.foldl_cons,List.foldl_cons,List.foldl_nil,e2,e3]
theorem jY:∀ k,k<4→ ∀ acc,(MID.getD k []).foldl b5 acc=acc:=oY (cS (.inl rfl)) (cS (.inr (.inl rfl))) (cS (.inr (.inr (.inl rfl)))) (cS (.inr (.inr (.inr (.inr rfl)))))
theorem jP:∀ k,k<4→ ∀ acc,(SUF.getD k []).foldl b5 acc=acc:=oY (cS (.inl rfl)) (cS (.inr (.inl rfl))) (cS (.inr (.inr (.inr (.inl rfl))))) (cS (.inr (.inr (.inr (.inr rfl)))))
theorem jV:∀ k,k<4→(PRE.getD k []).foldl b5 []= []:=oY (by decide+kernel) (by decide+kernel) (by decide+kernel) (by decide+kernel)
theorem jy{m:List Str}(hm:∀ acc,m.foldl b5 acc=acc):∀ (C:List Str),(∀ c∈C,Good c)→ ∀ acc,(cn m C).foldl b5 acc=acc++C
 | [],_,acc=>by simp [cn]
 | [c],h,acc=>by rw [cn,List.foldl_cons,gT (h c (.head _))];rfl
 | c::d::r,h,acc=>by
  rw [cn,List.foldl_cons,gT (h c (.head _)),List.foldl_append,hm,jy hm (d::r) fun x hx=>h x (.tail _ hx)]
  simp
theorem nC{C:List Str}(hC:∀ c∈C,Good c)(q:Int):(ct C q).foldl b5 []=C:=by
 unfold ct
 rw [List.foldl_append,List.foldl_append,jV _ (fO q),jy (jY _ (kY q)) C hC,jP _ (kX q)]
 rfl
theorem jz{m:List Str}:∀ {C:List Str} {x:Str},x∈cn m C→x∈m∨x∈C
 | [],_,h=>by simp [cn]at h
 | [c],_,h=> .inr h
 | c::d::r,x,h=>by
  rw [cn]at h
  rcases List.mem_cons.mp h with q | q
  ·exact .inr (q▸ .head _)
  ·rcases List.mem_append.mp q with q | q
   ·exact .inl q
   ·rcases jz q with q | q
    ·exact .inl q
    ·exact .inr (.tail _ q)
theorem j0{m:List Str}(hm:m.length≤2):∀ C:List Str,(cn m C).length≤3*C.length
 | []=>by simp [cn]
 | [c]=>by simp [cn]
 | c::d::r=>by have:=j0 hm (d::r);rw [cn];simp only [List.length_cons,List.length_append]at *;exact u3 hm this
theorem dp:∀ k,k<4→(∀ x∈PRE.getD k [],47∉cs x∧x.length≤2)∧(PRE.getD k []).length≤2∧(∀ x∈MID.getD k [],47∉cs x∧x.length≤2)∧(MID.getD k []).length≤2∧(∀ x∈SUF.getD k [],47∉cs x∧x.length≤2)∧(SUF.getD k []).length≤2:=
 oY (by decide+kernel) (by decide+kernel) (by decide+kernel) (by decide+kernel)
theorem nD{C:List Str}(hC:∀ c∈C,c∈NM)(q:Int):∀ x∈ct C q,47∉cs x∧x.length≤3:=by
 have hn:∀ x∈NM,47∉cs x∧x.length≤3:=by decide+kernel
 refine aW (dp _ (fO q)) fun a _ _ _ _ _=>?_
 refine aW (dp _ (kY q)) fun _ _ b _ _ _=>?_
 refine aW (dp _ (kX q)) fun _ _ _ _ c _=>?_
 intro x hx
 unfold ct at hx
 rcases List.mem_append.mp hx with h | h
 ·rcases List.mem_append.mp h with h | h
  ·exact⟨(a x h).1,Nat.le_succ_of_le (a x h).2⟩
  ·rcases jz h with h | h
   ·exact⟨(b x h).1,Nat.le_succ_of_le (b x h).2⟩
   ·exact hn x (hC x h)
 ·exact⟨(c x h).1,Nat.le_succ_of_le (c x h).2⟩
theorem nE{C:List Str}(hn:C.length≤16)(q:Int):(ct C q).length≤52:=by
 refine aW (dp _ (fO q)) fun _ a _ _ _ _=>?_
 refine aW (dp _ (kY q)) fun _ _ _ b _ _=>?_
 refine aW (dp _ (kX q)) fun _ _ _ _ _ c=>?_
 have:=j0 b C
 unfold ct
 rw [List.length_append,List.length_append];exact u2 a this c hn
theorem oR:∀ {K:List Str},(∀ x∈K,x.length≤3)→(sl K).length≤4*K.length
 | [],_=>Nat.le_refl _
 | c::r,h=>by
  have ih:=oR (K:=r) fun x hx=>h x (.tail _ hx)
  have h1:=h c (.head _)
  rw [b8,cM]at *
  rw [List.flatMap_cons,List.length_append,List.length_cons,List.length_cons]
  exact qB h1 ih
section
variable {D:Wd}{A:Around}
theorem pe{H:AH}{C:List Str}{q:Int}{v:Value}(hA:Ok A 7)(hv:er v= .str (bh (rd C) q) 0)(hC:∀ c∈C,c∈NM)(h:C≠ [])(hn:C.length≤16):
 Cd D A (.call (.ref 150) ⟨[v],[]⟩) (fun r H'=>Ext H H'∧r= .str (rd C) 0) H:=by
 have hG:=fun c hc=>bN c (hC c hc)
 have er:=lL h hG q
 have em:=nD hC q
 have el:=nE hn q
 have es:Txt.split (Str.join SL (ct C q)) SL=ct C q:=eM (f8 h q) fun c hc=>(em c hc).1
 have ec:lP (sl (ct C q))=C:=by unfold lP;rw [er];dsimp only;rw [es,nC hG]
 have ef:jX (sl (ct C q))=rd C:=by unfold jX;rw [er,ec];rfl
 have hl:=oR fun x hx=>(em x hx).2
 have hj:(Str.join SL (ct C q)).length≤(sl (ct C q)).length:=by
  rw [b8,b8]
  obtain⟨c,r,e⟩:∃ c r,ct C q=c::r:=by cases e:ct C q with
   | nil=>exact absurd e (f8 h q)
   | cons c r=>exact⟨c,r,rfl⟩
  rw [e,bg,cM];simp
 have rl:=bT hC hn
 rw [lH h hG]at hv
 rw [← ef]
 refine mu hA hv (by exact u1 hl el) (by rw [er];dsimp only;exact u0 hj hl el) (fun e=>?_) (by rw [er];show SL.length≠0;decide+kernel) (by rw [er];dsimp only;rw [es];exact uz el) (fun c hc=>?_) ?_ ?_
 ·rw [b8,cM]at e
  have:=f8 h q
  cases e':ct C q with
  | nil=>exact this e'
  | cons c r=>rw [e']at e;simp at e
 ·rw [er]at hc;dsimp only at hc;rw [es]at hc
  exact Nat.le_trans (em c hc).2 (by decide)
 ·rw [ec]
  have h1:∀ x∈NM,x.length≤1000:=by decide+kernel
  exact du (by decide) (fun x hx=>h1 x (hC x hx)) (by exact ps hn)
 ·rw [ef];exact bQ (by exact uy rl)
end
end Mine
end
section
open PySem PySem.W PyProof.Rows PySem.Calls PySem.SeqAt
namespace Mine
section
variable {g:Str→Str}{order:List Str}
noncomputable def eJ(g:Str→Str)(x:Str):Str:=(aG g (am g) x).2
noncomputable def rdl(g:Str→Str)(x:Str):List Str:=cC g (am g) x
theorem bG(hg:bK g){x:Str}:x∈aj g↔x∈am g:=cw hg
theorem fD(hg:bK g):∀ x∈aj g,x∈NM:=fun x hx=>bP hg x ((bG hg).mp hx)
theorem jf:(aj g).length≤8:=by unfold aj;rw [List.length_map];exact dW
theorem oX(hg:bK g){j:Nat}(hj:j<(aj g).length):(aj g).idxOf ((aj g)[j])=j:=(bS hg).idxOf_getElem j hj
theorem jO(hg:bK g){x:Str}(hx:x∈NM):eJ g x∈aj g:=(bG hg).mpr (gj hg hx)
theorem fG(hg:bK g){x:Str}(hx:x∈NM):∃ C,rdl g x=C++ [x]∧(x∉aj g→C=rdl g (g x)):=by
 by_cases h:x∈am g
 ·have hs:=(bG hg).mpr h
  obtain⟨j,hj,e⟩:=List.getElem_of_mem hs
  refine⟨(aj g).take j,?_,fun q=>absurd hs q⟩
  unfold rdl cC
  rw [ib h,List.append_nil]
  show(aj g).take ((aj g).idxOf x+1)=_
  rw [← e,oX hg hj,List.take_succ_eq_append_getElem hj]
 ·exact⟨_,jj hg hx h,fun _=>rfl⟩
theorem qO(hg:bK g){x:Str}(hx:x∈NM):rdl g x≠ []:=by
 refine ai (fG hg hx) fun C e _=>?_
 rw [e];simp
theorem jS(hg:bK g){x:Str}(hx:x∈NM):(∀ c∈rdl g x,c∈NM)∧(rdl g x).length≤16:=dU hg hx
theorem pG(P:List Str):∀ (a b:List Str),lcp (P++a) (P++b)=P++lcp a b:=by
 induction P with
 | nil=>intro a b;rfl
 | cons x r ih=>intro a b;simp [lcp,ih]
theorem oh(hg:bK g){x:Str}(hx:x∈NM):∃ C,lcp (rdl g x) (aj g)=C++ [eJ g x]:=by
 obtain⟨j,hj,e⟩:=List.getElem_of_mem (jO hg hx)
 have hi:(aj g).idxOf (eJ g x)=j:=by rw [← e,oX hg hj]
 refine⟨(aj g).take j,?_⟩
 have e1:rdl g x=(aj g).take (j+1)++(aG g (am g) x).1:=by
  unfold rdl cC
  show(aj g).take ((aj g).idxOf (eJ g x)+1)++_=_
  rw [hi]
 have off:=jG (R:=am g) hg 8 x [] (fun y hy=>by simp at hy)
 have e2:aj g=(aj g).take (j+1)++(aj g).drop (j+1):=(List.take_append_drop ..).symm
 have:lcp (rdl g x) (aj g)=(aj g).take (j+1)++lcp (aG g (am g) x).1 ((aj g).drop (j+1)):=by
  rw [e1];conv=>lhs;rw [e2]
  rw [← e2,← pG,← e2]
 rw [this]
 have z:lcp (aG g (am g) x).1 ((aj g).drop (j+1))= []:=by
  cases h1:(aG g (am g) x).1 with
  | nil=>unfold lcp;rfl
  | cons a r=>
   cases h2:(aj g).drop (j+1)with
   | nil=>unfold lcp;rfl
   | cons b t=>
    unfold lcp;rw [if_neg]
    intro q
    refine off a (by show a∈(aG g (am g) x).1;rw [h1];simp) ?_
    rw [q]
    exact(bG hg).mp (List.mem_of_mem_drop (by rw [h2];simp))
 rw [z,List.append_nil,List.take_succ_eq_append_getElem hj,e]
theorem jk:∀ {l:List Str} {p:Str},risingS p l=true→ ∀ x∈l,¬ cs x<cs p
 | [],p,_,x,hx=>by cases hx
 | y::r,p,h,x,hx=>by
  unfold risingS at h
  rw [Bool.and_eq_true,Bool.not_eq_true',ltCps_eq,decide_eq_false_iff_not]at h
  rcases List.mem_cons.mp hx with q | q
  ·rw [q];exact h.1
  ·have:=jk h.2 x q
   intro z
   exact h.1 (List.lt_of_le_of_lt (List.not_lt.mp this) z)
theorem dG:∀ {l:List Str},sortedS l=true→l.Pairwise fun a b=> ¬ cs b<cs a
 | [],_=> .nil
 | x::r,h=>by
  refine .cons (jk h) (dG ?_)
  cases r with
  | nil=>rfl
  | cons y t=>
   have h:risingS x (y::t)=true:=h
   unfold risingS at h
   rw [Bool.and_eq_true]at h
   exact h.2
theorem NM_rising:NM.Pairwise fun a b=> ¬ cs b<cs a:=dG (by decide+kernel)
theorem jQ(hg:bK g){ys:List Str}(hp:ys.Perm (aj g))(hs:sortedS ys=true):ys=am g:=by
 have pr:(aj g).Perm (am g):=by
  refine(List.perm_ext_iff_of_nodup (bS hg) dq).mpr fun x=>bG hg
 have sr:(am g).Pairwise fun a b=> ¬ cs b<cs a:=NM_rising.sublist List.filter_sublist
 exact(hp.trans pr).eq_of_pairwise (fun a b _ _ h1 h2=>bb (List.le_antisymm (List.not_lt.mp h1) (List.not_lt.mp h2))) (dG hs) sr
end
theorem p8{C:List Str}(hC:∀ c∈C,Good c):rd C=SL↔C= []:=by
 constructor
 ·intro h
  cases C with
  | nil=>rfl
  | cons c r=>
   have:=congrArg (fun x=>(cs x).length) h
   simp only [ff (List.cons_ne_nil c r),cM,List.flatMap_cons,List.length_append,List.length_cons,fk,List.length_nil]at this
   have h1:0<(cs c).length:=List.length_pos_iff.mpr (hC c (.head _)).ne
   exact(ux this h1).elim
 ·rintro rfl;exact gO
end Mine
end
section
open PySem PySem.W PyProof.Rows PySem.Calls PySem.SeqAt
namespace Mine
variable {D:Wd}{A:Around}
section
variable {H:AH}{g:Str→Str}{order:List Str}
noncomputable def aO(ks:List Str)(f:Str→Str):List (Str×Value):=ks.map fun t=>(t,Value.str (f t) 0)
theorem dk(ks:List Str)(f:Str→Str){x:Str}(h:x∉ks):stored (aO ks f) x (.str (f x) 0)=aO (ks++ [x]) f:=by
 unfold aO
 rw [dn _ _ _ (by simpa [Function.comp_def] using h)]
 simp
theorem rf{d gl:Addr}{ep:Nat}{v u:Value}(hA:Ok A 12)(hv:er v= .ref d)(hu:er u= .ref gl)(hd:H d=some (.dict (d9 g) ep))(hgl:H gl=some (.list (ag (an g order))))(hg:bK g)(Od:Ordr order):
 Cd D A (.call (.ref 363) ⟨[v,u],[]⟩) (fun r H'=>Ext H H'∧ ∃ a rdA ep',r= .ref a∧H a=none∧H rdA=none∧H' a=some (.tuple [.ref rdA,.str (rd (aj g)) 0])∧H' rdA=some (.dict (aO (aj g++(an g order).reverse) (bt g (am g))) ep')) H:=by
 obtain rfl:=al hv
 obtain rfl:=al hu
 refine Cd.fnC (fun P=>rfl) rfl (fun P=>rfl) rfl hA rfl (fun k x hx=>?_) (by decide) (fun L hL hA'=>?_)
 ·simp at hx
  rcases hx with⟨_,_,rfl⟩ | ⟨_,_,rfl⟩
  ·exact .inl rfl
  ·exact .inr ⟨rfl,rfl⟩
 have hdl:d≠L:=fun e=>by rw [e,hL _ (Nat.le_refl _)]at hd;cases hd
 have hgL:gl≠L:=fun e=>by rw [e,hL _ (Nat.le_refl _)]at hgl;cases hgl
 have n1:H (L+1)=none:=hL _ (Nat.le_add_right _ _)
 show W _ _ _ _ _ ⟨_,upd H (L+1) (.cell (some (.ref gl)))⟩
 have x0:Ext H (upd H (L+1) (.cell (some (.ref gl)))):=aa n1
 have k1:upd H (L+1) (.cell (some (.ref gl))) (L+1)=some (.cell (some (.ref gl))):=ah ..
 generalize upd H (L+1) (.cell (some (.ref gl)))=H0 at x0 k1
 refine WB.fold3 ?_
 intro A1_ env1_ Q1_
 refine W.foldL ?_
 intro l_ q_
 refine B.cons (S.assignSwap hA'.hand (names:= ["roads","road"]) rfl (E.tuple (I.cons (E.dictEmpty fun rdA hrdA=>?_))))
 have hrdA:H0 rdA=none:=hrdA
 refine I.cons (E.str (I.nil ⟨bZ,fun tp htp=>?_⟩))
 have htp:upd H0 rdA (.dict [] 0) tp=none:=htp
 refine⟨tp,_,rfl,ah ..,rfl,?_⟩
 intro v1 hv1
 refine W.bindLocal ?_
 intro v2 hv2
 refine W.bindLocal ?_
 simp only [hv1,hv2]
 have e1:Ext H0 (upd (upd H0 rdA (.dict [] 0)) tp (.tuple [.ref rdA,.str (Str.ofString "/") 0])):=(aa hrdA).trans (aa htp)
 have hrd1:upd (upd H0 rdA (.dict [] 0)) tp (.tuple [.ref rdA,.str (Str.ofString "/") 0]) rdA=some (.dict [] 0):=(af fun e=>by rw [e,ah]at htp;cases htp).trans (ah ..)
 show WB _ _ _ _ _ _ ⟨_,upd (upd H0 rdA (.dict [] 0)) tp (.tuple [.ref rdA,.str (Str.ofString "/") 0])⟩
 generalize upd (upd H0 rdA (.dict [] 0)) tp (.tuple [.ref rdA,.str (Str.ofString "/") 0])=H1 at e1 hrd1
 have frd:H rdA=none:=az (fun a o e=>x0 a o e) hrdA
 have sub:∀ c∈aj g,c∈NM:=fun c hc=>by
  refine ai (List.mem_map.mp hc) fun z hz h2_=>?_;obtain rfl:=h2_
  exact hg z (bP hg z hz)
 have spl:(aj g).length=(am g).length:=List.length_map _
 have rl8:=dW (g:=g)
 let I2:St→Prop:=fun σ=>σ.loc "goes" =some (.ref d)∧σ.loc "roads" =some (.ref rdA)∧σ.loc "road" =some (.str (rd (aj g)) 0)∧Ext H σ.H∧σ.H (L+1)=some (.cell (some (.ref gl)))∧ ∃ ep',σ.H rdA=some (.dict (aO (aj g) (bt g (am g))) ep')
 refine W.foldL ?_
 intro l_ q_
 refine B.seq I2 ?_ ?_
 ·refine S.for_ (It.list hA'.hand (E.compFilter (cl:= [("given",L+1)]) hA'.hand rfl (E.callFn (f:=289) (fun P=>rfl) (fun P=>rfl) (I.nil ?_))))
  intro vs' hvs hLn
  obtain rfl:=map_nil hvs
  refine Cd.new hLn (kE (hA'.mono (by decide))) (fun a H2 e2 ha hH2=>?_)
  have eHH:Ext H H2:=(x0.trans e1).trans e2
  have hc2:=e2 _ _ (e1 _ _ k1)
  refine⟨a,NM,rfl,hH2,by decide,fun one=>decide (one∉an g order),?_,?_⟩
  ·intro C k m H3 hk hC e3
   generalize NM.getD k default=one
   have hc3:=e3 _ _ ((af (dO L (by decide))).trans hc2)
   have hg3:=e3 _ _ ((af hgL).trans (eHH _ _ hgl))
   exact T.compare (E.local (v:= .str one 0) rfl (E.cell (v:= .ref gl) rfl hc3 (O.notInStrs hg3 ⟨_,rfl,rfl,rfl,Ext.refl _⟩)))
  ·intro b H3 e3 hb hH3
   have hfil:NM.filter (fun one=>decide (one∉an g order))=am g:=by
    refine List.filter_congr fun x hx=>?_
    have h1:=dv hg Od hx
    have h2:x∈am g↔g (bU (aQ g x))=x:=by
     unfold am
     rw [List.mem_filter,decide_eq_true_iff]
     exact⟨fun h=>h.2,fun h=>⟨hx,h⟩⟩
    rw [decide_eq_decide,h1,Classical.not_not,h2]
   rw [hfil]at hH3
   have hrd3:=e3 _ _ (e2 _ _ hrd1)
   have eH3:=eHH.trans e3
   have hc3:=e3 _ _ hc2
   have hb3:b≠rdA:=fun e=>by subst e;exact nomatch ((e2 _ _ hrd1).symm.trans hb)
   show ∃ l' vs,Value.ref b= .ref l'∧H3 l'=some (.list vs)∧_
   refine⟨b,ag (am g),rfl,hH3,fun j σ=>σ.loc "goes" =some (.ref d)∧σ.loc "roads" =some (.ref rdA)∧σ.loc "road" =some (.str (rd ((aj g).take j)) 0)∧Ext H σ.H∧σ.H (L+1)=some (.cell (some (.ref gl)))∧σ.H b=some (.list (ag (am g)))∧ ∃ ep',σ.H rdA=some (.dict (aO ((aj g).take j) (bt g (am g))) ep'),?_,?_,?_,?_⟩
   ·refine⟨rfl,rfl,?_,eH3,hc3,hH3,0,hrd3⟩
    show some _=some _
    rw [List.take_zero,gO];rfl
   ·rintro k σ h2_;refine c5 h2_ fun _ _ _ _ _ h _=>?_;clear h2_
    exact Has.one h
   ·rintro j ⟨loc,Hs⟩ hj h3_;refine hW h3_ fun l1 l2 l3 eH hc hbl ep' hrd=>?_;clear h3_
    dsimp only at l1 l2 l3 eH hc hbl hrd
    rw [ae]at hj
    show ∀ v,er v=(ag (am g)).getD j .none→_
    intro v hv
    rw [ax hj]at hv
    have hm:(am g).getD j default∈am g:=aF hj
    have hn:=bP hg _ hm
    have js:d8 (rd ((aj g).take j)) (g ((am g).getD j default))=bt g (am g) (g ((am g).getD j default))∧bt g (am g) (g ((am g).getD j default))=rd ((aj g).take (j+1)):=lU hg hj
    have hgn:g ((am g).getD j default)=(aj g).getD j default:=by unfold aj;simp [List.getD,List.getElem?_eq_getElem hj]
    have hnew:(aj g).getD j default∉(aj g).take j:=by
     have nd:=bS hg
     intro q
     have hj2:j<(aj g).length:=by rw [spl];exact hj
     have ht:=(List.take_append_drop j (aj g)).symm
     rw [List.drop_eq_getElem_cons hj2]at ht
     have nd2:((aj g).take j++(aj g)[j]::(aj g).drop (j+1)).Nodup:=ht▸nd
     refine(List.nodup_append.mp nd2).2.2 _ q _ List.mem_cons_self ?_
     simp [List.getD,List.getElem?_eq_getElem hj2]
    have htk:(aj g).take (j+1)=(aj g).take j++ [(aj g).getD j default]:=by
     rw [br (by rw [spl];exact hj)]
    have lr:=bT (C:=(aj g).take j) (fun c hc=>sub c (List.mem_of_mem_take hc)) (by rw [List.length_take];exact tE hj rl8)
    have hd1:=eH _ _ hd
    show W _ _ _ (PySem.assign _ _ v) (fun _ σ₂=>WB _ _ _ _ _ (nY (fun σ=>σ.loc "goes" =some (.ref d)∧σ.loc "roads" =some (.ref rdA)∧σ.loc "road" =some (.str (rd ((aj g).take (j+1))) 0)∧Ext H σ.H∧σ.H (L+1)=some (.cell (some (.ref gl)))∧σ.H b=some (.list (ag (am g)))∧ ∃ ep',σ.H rdA=some (.dict (aO ((aj g).take (j+1)) (bt g (am g))) ep')) _) σ₂) _
    rw [htk]
    rw [htk,hgn]at js
    obtain⟨js1,js2⟩:=js
    generalize (am g).getD j default=n at hv hm hn hgn
    refine W.assignLocal ?_
    rw [hv]
    refine W.foldL ?_
    intro l_ q_
    refine B.cons (S.assign (E.callFn (f:=115) (fun P=>rfl) (fun P=>rfl) (I.cons (E.local (v:= .str (rd ((aj g).take j)) 0) l3 (I.cons (E.goes (E.local (v:= .ref d) l1 ⟨d,rfl,E.local (v:= .str n 0) rfl ⟨n,g,ep,rfl,hn,hd1,I.nil ?_⟩⟩)))))))
    intro vs' hvs hLn
    have hLn:Hs L=none:=hLn
    refine eA hvs fun w1 ew1 w2 ew2=>?_
    refine Cd.val hLn (pf (hA'.mono (by decide)) ew1 ew2 (by exact ii lr) (Nat.le_trans (eF _ (hg n hn)) (by decide))) (fun H4 e4=>?_)
    rw [hgn]
    show WB _ _ _ _ _ _ _
    have hd4:=e4 _ _ hd1
    refine B.cons (S.assignSub (E.local (v:= .str (d8 (rd ((aj g).take j)) ((aj g).getD j default)) 0) rfl (E.local (v:= .ref rdA) l2 (E.goes (E.local (v:= .ref d) l1 ⟨d,rfl,E.local (v:= .str n 0) rfl ⟨n,g,ep,rfl,hn,hd4,?_⟩⟩)))))
    intro v' ov' iv' e5 e6 e7
    rw [hgn]at e7
    refine W.setDict e6 e7 e5 (e4 _ _ hrd) (aq (by unfold aO;rw [List.length_map,List.length_take];exact tD hj rl8)) fun ep2=>?_
    rw [js1,dk _ _ hnew]
    have hrd4:=e4 _ _ hrd
    refine B.nil ⟨l1,l2,?_,(Ext.trans eH e4).upd _ frd,(af (aA (e4 _ _ hc) hrd4)).trans (e4 _ _ hc),(af hb3).trans (e4 _ _ hbl),ep2,ah ..⟩
    rw [← js2];rfl
   ·rintro⟨loc,Hs⟩ h1_;refine hW h1_ fun l1 l2 l3 eH hc hbl ep' hrd=>?_;clear h1_
    rw [ae,← spl,List.take_length]at l3 hrd
    exact B.nil ⟨l1,l2,l3,eH,hc,ep',hrd⟩
 ·rintro⟨loc,Hs⟩ h1_;refine n9 h1_ fun l1 l2 l3 eH hc ep' hrd=>?_;clear h1_
  dsimp only at l1 l2 l3 eH hc hrd
  have hgl1:=eH _ _ hgl
  have gl8:=o3 hg Od
  let I3:St→Prop:=fun σ=>σ.loc "roads" =some (.ref rdA)∧σ.loc "road" =some (.str (rd (aj g)) 0)∧Ext H σ.H∧ ∃ ep',σ.H rdA=some (.dict (aO (aj g++(an g order).reverse) (bt g (am g))) ep')
  refine W.foldL ?_
  intro l_ q_
  refine B.seq I3 ?_ ?_
  ·refine S.for_ (It.reversed hA'.hand (E.cell (v:= .ref gl) rfl hc ⟨gl,ag (an g order),rfl,hgl1,?_⟩) (fun P=>rfl) (by kernel_rfl))
   refine⟨fun k σ=>σ.loc "goes" =some (.ref d)∧σ.loc "roads" =some (.ref rdA)∧σ.loc "road" =some (.str (rd (aj g)) 0)∧Ext H σ.H∧ ∃ ep',σ.H rdA=some (.dict (aO (aj g++(an g order).reverse.take k) (bt g (am g))) ep'),?_,?_,?_,?_⟩
   ·exact⟨l1,l2,l3,eH,ep',by rw [List.take_zero,List.append_nil];exact hrd⟩
   ·rintro k σ h2_;refine aD h2_ fun _ _ _ h _=>?_;clear h2_
    exact Has.one (h _ _ hgl)
   ·rintro k ⟨loc,Hs⟩ hk h3_;refine lv h3_ fun l1 l2 l3 eH ep' hrd=>?_;clear h3_
    dsimp only at l1 l2 l3 eH hrd
    rw [ae]at hk
    show ∀ v,er v=(ag (an g order)).reverse.getD k .none→_
    intro v hv
    have hrv:(ag (an g order)).reverse=ag (an g order).reverse:=by unfold ag;rw [List.map_reverse]
    have hk':k<(an g order).reverse.length:=by rw [List.length_reverse];exact hk
    rw [hrv,ax hk']at hv
    have hm:(an g order).reverse.getD k default∈an g order:=List.mem_reverse.mp (aF hk')
    have hn:=iA hg Od hm
    have hnr:=(dv hg Od hn).mp hm
    have hnx:=on hg Od hk
    have hst:=mU hg hn hnr
    have htk:(an g order).reverse.take (k+1)=(an g order).reverse.take k++ [(an g order).reverse.getD k default]:=br hk'
    have hnew:(an g order).reverse.getD k default∉aj g++(an g order).reverse.take k:=by
     have nd:=gU hg Od
     have ht:=(List.take_append_drop k (an g order).reverse).symm
     rw [List.drop_eq_getElem_cons hk']at ht
     rw [ht,← List.append_assoc]at nd
     intro q
     refine(List.nodup_append.mp nd).2.2 _ q _ List.mem_cons_self ?_
     simp [List.getD,List.getElem?_eq_getElem hk']
    have lr:=bT (dU hg (hg _ hn)).1 (dU hg (hg _ hn)).2
    have hd1:=eH _ _ hd
    show W _ _ _ (PySem.assign _ _ v) (fun _ σ₂=>WB _ _ _ _ _ (nY (fun σ=>σ.loc "goes" =some (.ref d)∧σ.loc "roads" =some (.ref rdA)∧σ.loc "road" =some (.str (rd (aj g)) 0)∧Ext H σ.H∧ ∃ ep',σ.H rdA=some (.dict (aO (aj g++(an g order).reverse.take (k+1)) (bt g (am g))) ep')) _) σ₂) _
    rw [htk,← List.append_assoc]
    have hln:(aj g++(an g order).reverse.take k).length≤100:=by rw [List.length_append,List.length_take,List.length_reverse];exact tC spl gl8 rl8
    generalize (an g order).reverse.getD k default=n at hv hn hnr hnx hst hnew lr
    generalize aj g++(an g order).reverse.take k=ks at hrd hnx hnew hln
    refine W.assignLocal ?_
    rw [hv]
    refine W.foldL ?_
    intro l_ q_
    refine B.cons (S.assignSub (E.callFn (f:=115) (fun P=>rfl) (fun P=>rfl) (I.cons (E.info (E.local (v:= .ref rdA) l2 ⟨rdA,rfl,E.goes (E.local (v:= .ref d) l1 ⟨d,rfl,E.local (v:= .str n 0) rfl ⟨n,g,ep,rfl,hn,hd1,g n,ks,fun t=> .str (bt g (am g) t) 0,ep',rfl,hnx,hrd,I.cons (E.local (v:= .str n 0) rfl (I.nil ?_))⟩⟩)⟩)))))
    intro vs' hvs hLn
    have hLn:Hs L=none:=hLn
    refine eA hvs fun w1 ew1 w2 ew2=>?_
    refine Cd.val hLn (pf (hA'.mono (by decide)) ew1 ew2 (by show(rd _).length≤_;exact ii lr) (Nat.le_trans (eF _ hn) (by decide))) (fun H4 e4=>?_)
    rw [hst]
    refine E.local (v:= .ref rdA) l2 (E.local (v:= .str n 0) rfl ?_)
    intro v' ov' iv' e5 e6 e7
    have hrd4:=e4 _ _ hrd
    refine W.setDict e6 e7 e5 hrd4 (aq (by unfold aO;rw [List.length_map];exact qg hln)) fun ep2=>?_
    rw [dk _ _ hnew]
    exact B.nil ⟨l1,l2,l3,(Ext.trans eH e4).upd _ frd,ep2,ah ..⟩
   ·rintro⟨loc,Hs⟩ h1_;refine lv h1_ fun l1 l2 l3 eH ep' hrd=>?_;clear h1_
    rw [ae,← List.length_reverse,List.take_length]at hrd
    exact B.nil ⟨l2,l3,eH,ep',hrd⟩
  ·rintro⟨loc,Hs⟩ h1_;refine pQ h1_ fun l2 l3 eH ep' hrd=>?_;clear h1_
   dsimp only at l2 l3 eH hrd
   refine W.foldL ?_
   intro l_ q_
   refine B.cons (S.ret (E.tuple (I.cons (E.local (v:= .ref rdA) l2 (I.cons (E.local (v:= .str (rd (aj g)) 0) l3 (I.nil ⟨bZ,fun a ha=>?_⟩)))))))
   have ha:Hs a=none:=ha
   intro v' hv'
   exact⟨eH.trans (aa ha),a,rdA,ep',hv',az (fun b o e=>eH b o e) ha,frd,ah ..,aa ha _ _ hrd⟩
end
end Mine
end
section
open PySem PySem.W PyProof.Rows PySem.Calls PySem.SeqAt
namespace Mine
variable {D:Wd}{A:Around}{g:Str→Str}
noncomputable def dS(g:Str→Str)(qs:Nat→Int):List Str:=(List.range 8).map fun k=>bh (rd (rdl g (NM.getD k default))) (qs k)
theorem ip(hg:bK g):aj g≠ []:=fun e=>by
 have:=jO hg (x:=Str.ofString "N") (by decide+kernel)
 rw [e]at this;cases this
theorem InOrder.nil{L:Addr}{σ:St}{Q:St→Prop}(h:Q σ):InOrder D A L [] [] Q σ:=h
theorem bA(l:List Str):(List.range l.length).map (fun k=>l.getD k default)=l:=by
 refine List.ext_getElem? fun k=>?_
 simp only [List.getElem?_map]
 by_cases h:k<l.length
 ·simp [List.getElem?_range h,List.getD,List.getElem?_eq_getElem h]
 ·simp [h]
theorem cf{ks:List Str}{f:Str→Str}{es:List (Str×Value)}(h1:es.map (·.1)=(List.range ks.length).map fun k=>ks.getD k default)
 (h2:Paired (fun k v=>v=Value.str (f (ks.getD k default)) 0) (List.range ks.length) (es.map (·.2))):es=aO ks f:=by
 have e2:=bH (f:=fun k=>Value.str (f (ks.getD k default)) 0) h2
 rw [bA]at h1
 have e3:(List.range ks.length).map (fun k=>Value.str (f (ks.getD k default)) 0)=ks.map fun x=>Value.str (f x) 0:=by
  have:=congrArg (List.map fun x=>Value.str (f x) 0) (bA ks)
  rwa [List.map_map]at this
 rw [e3]at e2
 unfold aO
 have:es=(es.map (·.1)).zip (es.map (·.2)):=by
  clear h1 h2 e2
  induction es with
  | nil=>rfl
  | cons p r ih=>simp only [List.map_cons,List.zip_cons_cons];rw [← ih]
 rw [this,h1,e2]
 clear h1 h2 e2 e3 this
 induction ks with
 | nil=>rfl
 | cons x r ih=>simp only [List.map_cons,List.zip_cons_cons,ih]
theorem jJ{H:AH}{x y:Str}{v:Value}(hA:Ok A 5)(hv:er v= .str x 0)(hz:x.length≤1000000)(ht:cO x=y):Cd D A (.call (.ref 136) ⟨[v],[]⟩) (fun r H'=>Ext H H'∧r= .str y 0) H:=ht▸mx hA hv hz
theorem vG{H:AH}{x y:Str}{v:Value}(hA:Ok A 5)(hv:er v= .str x 0)(hz:x.length≤1000000)(ht:bI x=y):Cd D A (.call (.ref 143) ⟨[v],[]⟩) (fun r H'=>Ext H H'∧r= .str y 0) H:=ht▸nJ hA hv hz
noncomputable def lT(g:Str→Str):List Str:=am g++NM.filter fun x=>decide (x∉aj g)
set_option maxHeartbeats 4000000 in
theorem re{H:AH}{tl:Addr}{qs:Nat→Int}{qm:Int}{v u:Value}(hA:Ok A 16)(hv:er v= .ref tl)(hu:er u= .str (bh (rd (aj g)) qm) 0)(htl:H tl=some (.list (ag (dS g qs))))(hg:bK g):
 Cd D A (.call (.ref 368) ⟨[v,u],[]⟩) (fun r H'=>Ext H H'∧ ∃ a ga da ep1 ep2,r= .ref a∧H a=none∧H' a=some (.tuple [.ref ga,.ref da])∧H' ga=some (.dict (aO (lT g) g) ep1)∧H' da=some (.dict (aO NM (eJ g)) ep2)) H:=by
 obtain rfl:=al hv
 obtain⟨t,rfl⟩:=au hu
 refine Cd.fn (fun P=>rfl) rfl (fun P=>rfl) rfl hA (by decide) (locs rfl) (fun L hL hA'=>?_)
 have S8:=jf (g:=g)
 have sN:=fD hg
 have sG:=fun c hc=>bN c (sN c hc)
 refine WB.fold3 ?_
 intro A1_ env1_ Q1_
 refine W.foldL ?_
 intro lc2_ q2_
 refine B.cons (S.assignSwap hA'.hand (names:= ["top","spine"]) rfl (E.tuple (I.cons (E.call1 (f:=150) (fun P=>rfl) (fun P=>rfl) (E.local (v:= .str (bh (rd (aj g)) qm) 0) rfl ⟨.str (rd (aj g)) 0,fun v hv H _=>pe (hA'.mono (by decide)) hv sN (ip hg) (by exact qu S8),fun H1 e1=>?_⟩)))))
 refine I.cons (E.list (I.nil ⟨by decide,fun sp hsp=>?_⟩))
 refine I.nil ⟨bZ,fun tp htp=>?_⟩
 have htp:upd H1 sp (.list []) tp=none:=htp
 refine⟨tp,_,rfl,ah ..,rfl,?_⟩
 intro v1 hv1
 refine W.bindLocal ?_
 intro v2 hv2
 refine W.bindLocal ?_
 simp only [hv1,hv2]
 have e2:Ext H (upd (upd H1 sp (.list [])) tp (.tuple [.str (rd (aj g)) 0,.ref sp])):=e1.trans ((aa hsp).trans (aa htp))
 have hsp2:upd (upd H1 sp (.list [])) tp (.tuple [.str (rd (aj g)) 0,.ref sp]) sp=some (.list []):=(af fun e=>by rw [e,ah]at htp;cases htp).trans (ah ..)
 show WB _ _ _ _ _ _ ⟨_,upd (upd H1 sp (.list [])) tp (.tuple [.str (rd (aj g)) 0,.ref sp])⟩
 generalize upd (upd H1 sp (.list [])) tp (.tuple [.str (rd (aj g)) 0,.ref sp])=H2 at e2 hsp2
 refine W.foldL ?_
 intro lc3_ q3_
 refine B.cons (S.assign (E.local (v:= .str (rd (aj g)) 0) rfl ?_))
 let I4:St→Prop:=fun σ=>σ.loc "texts" =some (.ref tl)∧σ.loc "top" =some (.str (rd (aj g)) 0)∧Ext H σ.H∧ ∃ q,σ.loc "spine" =some (.ref q)∧σ.H q=some (.list (ag (aj g)))
 refine W.foldL ?_
 intro lc5_ q5_
 refine B.seq I4 ?_ ?_
 ·let I6:Nat→St→Prop:=fun k σ=>k≤(aj g).length∧σ.loc "texts" =some (.ref tl)∧σ.loc "top" =some (.str (rd (aj g)) 0)∧Ext H σ.H∧σ.loc "road" =some (.str (rd ((aj g).take k)) 0)∧ ∃ q,σ.loc "spine" =some (.ref q)∧σ.H q=some (.list (ag ((aj g).drop k)))
  refine S.while_ I6 (aj g).length
   ⟨Nat.le_refl _,rfl,rfl,e2,by rw [List.take_length];rfl,sp,rfl,by rw [List.drop_length];exact hsp2⟩ ?_
  rintro k ⟨loc,Hs⟩ h2_;refine mq h2_ fun hk l1 l2 eH l3 q l4 hq=>?_;clear h2_
  dsimp only at hk l1 l2 eH l3 l4 hq
  refine T.boolop (W.andCons (T.compare (E.local (v:= .str (rd ((aj g).take k)) 0) l3 (E.str (O.neSS ⟨_,rfl,?_⟩)))))
  by_cases h0:k=0
  ·subst h0
   rw [List.take_zero,gO,if_neg (by decide+kernel)]
   refine B.nil ⟨l1,l2,eH,q,l4,?_⟩
   rw [List.drop_zero]at hq;exact hq
  ·have hne:(aj g).take k≠ []:=by simp;exact⟨h0,ip hg⟩
   have hG:∀ c∈(aj g).take k,Good c:=fun c hc=>sG c (List.mem_of_mem_take hc)
   dsimp only;rw [if_pos (by rw [bne_iff_ne];exact fun e=>hne ((p8 hG).mp e))]
   have hdl:((aj g).drop k).length≤7:=by rw [List.length_drop];exact sH S8 h0
   refine W.andCons (T.compare (E.callB (id:= "len") (fun P=>rfl) (by kernel_rfl) (I.cons (E.local (v:= .ref q) l4 (I.nil (F.lenList hq (by rw [ae];exact sF hdl) (E.int (O.ltII ⟨_,rfl,?_⟩))))))))
   dsimp only;rw [ae,decide_eq_true (by exact sE hdl),if_pos rfl]
   refine W.andNil ?_
   dsimp only [bv];rw [if_pos rfl]
   obtain⟨j,rfl⟩:∃ j,k=j+1:=⟨k-1,by exact sD h0⟩
   have hj:j<(aj g).length:=by exact nU hk
   have tk:(aj g).take (j+1)=(aj g).take j++ [(aj g).getD j default]:=br hj
   have hm:(aj g).getD j default∈aj g:=aF hj
   have ex:rd ((aj g).take (j+1))=sl ((aj g).take j++ [(aj g).getD j default]):=by rw [tk];exact ff (by simp)
   have eh:bI (rd ((aj g).take (j+1)))=rd ((aj g).take j):=by rw [ex];exact nh (fun c hc=>sG c (List.mem_of_mem_take hc)) (sG _ hm).free
   have et:cO (rd ((aj g).take (j+1)))=(aj g).getD j default:=by rw [ex];exact io (sG _ hm).free
   have lr:=bT (C:=(aj g).take (j+1)) (fun c hc=>sN c (List.mem_of_mem_take hc)) (by rw [List.length_take];exact sC S8)
   refine W.foldL ?_
   intro lc7_ q7_
   refine B.cons (S.assignTup hA'.hand (E.callFn (f:=122) (fun P=>rfl) (fun P=>rfl) (I.cons (E.local (v:= .str (rd ((aj g).take (j+1))) 0) l3 (I.nil ?_)))))
   intro vs' hvs hLn
   refine d7 hvs fun w1 ew1=>?_
   refine Cd.new hLn (pU (hA'.mono (by decide)) ew1 (by exact ii lr)) (fun a H3 e3 ha hH3=>?_)
   rw [eh,et]at hH3
   refine⟨a,_,rfl,hH3,rfl,?_⟩
   intro v1 hv1
   refine W.assignLocal ?_
   intro v2 hv2
   refine W.assignLocal ?_
   simp only [hv1,hv2]
   have hq3:=e3 _ _ hq
   refine W.foldL ?_
   intro lc8_ q8_
   refine B.cons (S.assign (E.binop (E.list (I.cons (E.local (v:= .str ((aj g).getD j default) 0) rfl (I.nil ⟨eg,fun l hl=>?_⟩))))))
   have hl:H3 l=none:=hl
   have hll:upd H3 l (.list [.str ((aj g).getD j default) 0]) l=some (.list (ag [(aj g).getD j default])):=ah ..
   have e4:Ext H3 (upd H3 l (.list [.str ((aj g).getD j default) 0])):=aa hl
   show WE _ _ _ _ _ ⟨_,upd H3 l (.list [.str ((aj g).getD j default) 0])⟩
   generalize upd H3 l (.list [.str ((aj g).getD j default) 0])=H4 at hll e4
   refine E.local (v:= .ref q) l4 (O.addLists hll (e4 _ _ hq3) (by rw [ae,ae];show 1+_≤_;exact aq (by exact sB hdl)) fun q2 hq2=>?_)
   refine B.nil ?_
   refine⟨j,Nat.lt_succ_self j,by exact q8 hj,l1,l2,((eH.trans e3).trans e4).trans (aa hq2),rfl,q2,rfl,?_⟩
   show upd _ _ _ _=_
   rw [ah,bk]
   have:(aj g).drop j=(aj g).getD j default::(aj g).drop (j+1):=by
    rw [List.drop_eq_getElem_cons hj];simp [List.getD,List.getElem?_eq_getElem hj]
   rw [this];rfl
 ·rintro⟨loc,Hs⟩ h1_;refine iP h1_ fun l1 l2 eH q l4 hq=>?_;clear h1_
  dsimp only at l1 l2 eH l4 hq
  have RN:=bP hg
  have hr8:=dW (g:=g)
  have slen:(aj g).length=(am g).length:=by unfold aj;rw [List.length_map]
  refine W.foldL ?_
  intro lc9_ q9_
  refine B.cons (S.assignSwap hA'.hand (names:= ["goes","doors"]) rfl (E.tuple (I.cons (E.dictComp (cl:= []) rfl (It.zip hA'.hand (I.cons (E.callB (id:= "sorted") (fun P=>rfl) (by kernel_rfl) (I.cons (E.local (v:= .ref q) l4 (I.nil (F.sortedStrs hq (by exact sA slen hr8) fun ys hp hs rs hrs=>?_)))))) (fun P=>rfl) (by kernel_rfl))))))
  obtain rfl:=jQ hg hp hs
  have hrs:Hs rs=none:=hrs
  refine I.cons (E.local (v:= .ref q) l4 (I.nil ⟨rs,q,ag (am g),ag (aj g),rfl,ah ..,aa hrs _ _ hq,by rw [ae,ae,slen],?_⟩))
  have e1:Ext Hs (upd Hs rs (.list (ag (am g)))):=aa hrs
  show _≤_∧_
  rw [ae]
  refine⟨aq (by exact iY hr8),fun k=>(am g).getD k default,fun k v _=>v= .str (g ((am g).getD k default)) 0,fun k v H H' q _=>q,?_,?_,?_⟩
  ·rw [bA];exact dq
  ·intro C k m H' hk hC hext
   show ∀ a,H' a=none→_
   intro a ha
   have e2:(upd H' a (.tuple [(ag (am g)).getD k .none,(ag (aj g)).getD k .none])) a=some (.tuple [.str ((am g).getD k default) 0,.str (g ((am g).getD k default)) 0]):=by
    rw [ah,ax hk,ax (by exact qb hk slen)]
    have:(aj g).getD k default=g ((am g).getD k default):=by unfold aj;simp [List.getD,List.getElem?_eq_getElem hk]
    rw [this]
   have e3:Ext H' (upd H' a (.tuple [(ag (am g)).getD k .none,(ag (aj g)).getD k .none])):=aa ha
   show W _ _ _ _ _ ⟨_,upd H' a (.tuple [(ag (am g)).getD k .none,(ag (aj g)).getD k .none])⟩
   generalize upd H' a (.tuple [(ag (am g)).getD k .none,(ag (aj g)).getD k .none])=H'' at e2 e3
   refine assignTup (L:=C) hA'.hand e2 (by rfl) ?_
   intro v1 hv1
   refine W.assignLocal (L:=C) ?_
   intro v2 hv2
   refine W.assignLocal (L:=C) ?_
   simp only [hv1,hv2]
   refine InOrder.nil ?_
   show WE _ _ C _ _ _
   exact E.local (L:=C) (v:= .str ((am g).getD k default) 0) rfl ⟨rfl,E.local (L:=C) (v:= .str (g ((am g).getD k default)) 0) rfl ⟨e3,rfl⟩⟩
  intro ga H3 es ep0 e3 hga hH3 hks hvs
  have hes:es=aO (am g) g:=cf hks hvs
  subst hes
  refine I.cons (E.dictEmpty fun da hda=>?_)
  refine I.nil ⟨bZ,fun tp htp=>?_⟩
  have hda:H3 da=none:=hda
  have htp:upd H3 da (.dict [] 0) tp=none:=htp
  refine⟨tp,_,rfl,ah ..,rfl,?_⟩
  intro v1 hv1
  refine W.bindLocal ?_
  intro v2 hv2
  refine W.bindLocal ?_
  simp only [hv1,hv2]
  have eHH:Ext H H3:=(eH.trans e1).trans e3
  have fga:H ga=none:=az (fun a o e=>(eH.trans e1) a o e) hga
  have fda:H da=none:=az (fun a o e=>eHH a o e) hda
  have e4:Ext H3 (upd (upd H3 da (.dict [] 0)) tp (.tuple [.ref ga,.ref da])):=(aa hda).trans (aa htp)
  have hd1:upd (upd H3 da (.dict [] 0)) tp (.tuple [.ref ga,.ref da]) da=some (.dict [] 0):=(af fun e=>by rw [e,ah]at htp;cases htp).trans (ah ..)
  have nda:da≠ga:=fun e=>by rw [e,hH3]at hda;cases hda
  show WB _ _ _ _ _ _ ⟨_,upd (upd H3 da (.dict [] 0)) tp (.tuple [.ref ga,.ref da])⟩
  generalize upd (upd H3 da (.dict [] 0)) tp (.tuple [.ref ga,.ref da])=H4 at e4 hd1
  let I10:St→Prop:=fun σ=>σ.loc "goes" =some (.ref ga)∧σ.loc "doors" =some (.ref da)∧Ext H σ.H∧(∃ ep,σ.H ga=some (.dict (aO (lT g) g) ep))∧ ∃ ep,σ.H da=some (.dict (aO NM (eJ g)) ep)
  refine W.foldL ?_
  intro lc11_ q11_
  refine B.seq I10 ?_ ?_
  ·have hq4:=e4 _ _ (e3 _ _ (e1 _ _ hq))
   have hl8:(ag (dS g qs)).length=8:=by rw [ae];unfold dS;simp
   let I12:Nat→St→Prop:=fun k σ=>σ.loc "goes" =some (.ref ga)∧σ.loc "doors" =some (.ref da)∧σ.loc "top" =some (.str (rd (aj g)) 0)∧σ.loc "spine" =some (.ref q)∧Ext H σ.H∧σ.H q=some (.list (ag (aj g)))∧(∃ ep,σ.H ga=some (.dict (aO (am g++(NM.take k).filter fun x=>decide (x∉aj g)) g) ep))∧ ∃ ep,σ.H da=some (.dict (aO (NM.take k) (eJ g)) ep)
   refine S.forList tl (ag (dS g qs)) I12 hA'.hand
    (E.local (v:= .ref tl) l1 ⟨rfl,rfl,rfl,l2,l4,eHH.trans e4,hq4,⟨ep0,by rw [List.take_zero];show _=some (AO.dict (aO (am g++ []) g) ep0);rw [List.append_nil];exact e4 _ _ hH3⟩,0,hd1⟩) (fun k σ h=>h.2.2.2.2.1 _ _ htl) ?_ ?_
   ·rintro k ⟨loc,Hk⟩ v hk ⟨m1,m2,m3,m4,eK,hqk,⟨epg,hgk⟩,epd,hdk⟩ hv
    dsimp only at m1 m2 m3 m4 eK hqk hgk hdk
    rw [hl8]at hk
    have hx8:k<NM.length:=hk
    have hx:NM.getD k default∈NM:=aF hx8
    have htx:(ag (dS g qs)).getD k .none= .str (bh (rd (rdl g (NM.getD k default))) (qs k)) 0:=by
     rw [ax (by rw [← ae,hl8];exact hk)]
     unfold dS
     simp [List.getD,hk]
    rw [htx]at hv
    have hnew:NM.getD k default∉NM.take k:=by
     have hh:NM[k]∉NM.take k:=fun h=>by
      have nd:=NM_nodup
      rw [← List.take_append_drop k NM,List.drop_eq_getElem_cons hx8]at nd
      exact(List.nodup_append.mp nd).2.2 _ h _ List.mem_cons_self rfl
     simpa [List.getD,List.getElem?_eq_getElem hx8] using hh
    have htk:NM.take (k+1)=NM.take k++ [NM.getD k default]:=br hx8
    show W _ _ _ (PySem.assign _ _ v) (fun _ σ₂=>WB _ _ _ _ _ (nY (fun σ=>σ.loc "goes" =some (.ref ga)∧σ.loc "doors" =some (.ref da)∧σ.loc "top" =some (.str (rd (aj g)) 0)∧σ.loc "spine" =some (.ref q)∧Ext H σ.H∧σ.H q=some (.list (ag (aj g)))∧
     (∃ ep,σ.H ga=some (.dict (aO (am g++(NM.take (k+1)).filter fun x=>decide (x∉aj g)) g) ep))∧ ∃ ep,σ.H da=some (.dict (aO (NM.take (k+1)) (eJ g)) ep)) _) σ₂) _
    rw [htk]
    have hlk:(NM.take k).length≤8:=by rw [List.length_take];exact Nat.min_le_right ..
    generalize NM.take k=ks at hgk hdk hnew hlk
    generalize NM.getD k default=x at hx hv hnew
    refine ai (fG hg hx) fun C eC hC=>?_
    obtain⟨P,eP⟩:=oh hg hx
    have rm:=jS hg hx
    have rn:=qO hg hx
    have gx:=bN x hx
    have gt:=bN _ (sN _ (jO hg hx))
    have t1:cO (rd (rdl g x))=x:=by rw [eC,ff (by simp)];exact io gx.free
    have t2:cO (rd (lcp (rdl g x) (aj g)))=eJ g x:=by rw [eP,ff (by simp)];exact io gt.free
    have lr:=bT rm.1 rm.2
    have lt:=bT (C:=lcp (rdl g x) (aj g)) (fun c hc=>by rw [i8]at hc;exact rm.1 c (List.mem_of_mem_take hc)) (by have:=rm.2;rw [i8,List.length_take];exact q9 this)
    refine W.assignLocal ?_
    rw [hv]
    refine W.foldL ?_
    intro lc13_ q13_
    refine B.cons (S.assign (E.call1 (f:=150) (fun P=>rfl) (fun P=>rfl) (E.local (v:= .str (bh (rd (rdl g x)) (qs k)) 0) rfl ⟨.str (rd (rdl g x)) 0,fun v hv H _=>pe (hA'.mono (by decide)) hv rm.1 rn rm.2,fun H5 e5=>?_⟩)))
    refine W.foldL ?_
    intro lc14_ q14_
    refine B.cons (S.assignSub (E.call1 (f:=136) (fun P=>rfl) (fun P=>rfl) (E.call1 (f:=155) (fun P=>rfl) (fun P=>rfl) (E.list (I.cons (E.local (v:= .str (rd (rdl g x)) 0) rfl (I.cons (E.local (v:= .str (rd (aj g)) 0) m3 (I.nil ⟨bZ,fun l hl=>?_⟩)))))))))
    have hl:H5 l=none:=hl
    have hll:upd H5 l (.list [.str (rd (rdl g x)) 0,.str (rd (aj g)) 0]) l=some (.list (ag [rd (rdl g x),rd (aj g)])):=ah ..
    have e6:Ext H5 (upd H5 l (.list [.str (rd (rdl g x)) 0,.str (rd (aj g)) 0])):=aa hl
    refine⟨.str (rd (lcp (rdl g x) (aj g))) 0,fun v hv H e=>oM (hA'.mono (by decide)) hv (e _ _ hll) rm.1 sN rn (ip hg) rm.2 (by exact s9 slen hr8),fun H7 e7=>?_⟩
    refine⟨.str (eJ g x) 0,fun v hv H _=>jJ (hA'.mono (by decide)) hv (by exact ii lt) t2,fun H8 e8=>?_⟩
    refine E.local (v:= .ref da) m2 (E.call1 (f:=136) (fun P=>rfl) (fun P=>rfl) (E.local (v:= .str (rd (rdl g x)) 0) rfl ⟨.str x 0,fun v hv H _=>jJ (hA'.mono (by decide)) hv (by exact ii lr) t1,fun H9 e9=>?_⟩))
    intro v' ov' iv' f5 f6 f7
    have eK9:Ext Hk H9:=e5.trans (e6.trans (e7.trans (e8.trans e9)))
    have hd9:=eK9 _ _ hdk
    refine W.setDict f6 f7 f5 hd9 (aq (by unfold aO;rw [List.length_map];exact iY hlk)) fun epd2=>?_
    rw [dk _ _ hnew]
    have hq9:upd H9 da (.dict (aO (ks++ [x]) (eJ g)) epd2) q=some (.list (ag (aj g))):=(af (aA (eK9 _ _ hqk) hd9)).trans (eK9 _ _ hqk)
    have hg9:upd H9 da (.dict (aO (ks++ [x]) (eJ g)) epd2) ga=some (.dict (aO (am g++ks.filter fun x=>decide (x∉aj g)) g) epg):=(af nda.symm).trans (eK9 _ _ hgk)
    have hd10:upd H9 da (.dict (aO (ks++ [x]) (eJ g)) epd2) da=some (.dict (aO (ks++ [x]) (eJ g)) epd2):=ah ..
    have eH9:Ext H (upd H9 da (.dict (aO (ks++ [x]) (eJ g)) epd2)):=(eK.trans eK9).upd _ fda
    show WB _ _ _ _ _ _ ⟨_,upd H9 da (.dict (aO (ks++ [x]) (eJ g)) epd2)⟩
    generalize upd H9 da (.dict (aO (ks++ [x]) (eJ g)) epd2)=H10 at hq9 hg9 hd10 eH9
    refine W.foldL ?_
    intro lc15_ q15_
    refine B.cons (S.ite (T.compare (E.call1 (f:=136) (fun P=>rfl) (fun P=>rfl) (E.local (v:= .str (rd (rdl g x)) 0) rfl ⟨.str x 0,fun v hv H _=>jJ (hA'.mono (by decide)) hv (by exact ii lr) t1,fun H11 e11=>?_⟩))))
    refine E.local (v:= .ref q) m4 (O.notInStrs (e11 _ _ hq9) ⟨_,rfl,?_⟩)
    by_cases hin:x∈aj g
    ·rw [decide_eq_false (fun h=>h hin)]
     dsimp only [gV];rw [if_neg Bool.false_ne_true]
     refine B.nil (B.nil ⟨m1,m2,m3,m4,eH9.trans e11,e11 _ _ hq9,⟨epg,?_⟩,epd2,e11 _ _ hd10⟩)
     rw [List.filter_append,List.filter_cons_of_neg (by simpa using hin),List.filter_nil,List.append_nil]
     exact e11 _ _ hg9
    ·dsimp only [gV];rw [decide_eq_true hin,if_pos rfl]
     obtain rfl:=hC hin
     refine ai (fG hg (hg x hx)) fun C2 eC2 _=>?_
     have gm:=jS hg (hg x hx)
     have t3:bI (rd (rdl g x))=rd (rdl g (g x)):=by rw [eC,ff (by simp)];exact nh (fun c hc=>bN c (gm.1 c hc)) gx.free
     have t4:cO (rd (rdl g (g x)))=g x:=by rw [eC2,ff (by simp)];exact io (bN _ (hg x hx)).free
     have lg:=bT gm.1 gm.2
     refine W.foldL ?_
     intro lc16_ q16_
     refine B.cons (S.assignSub (E.call1 (f:=136) (fun P=>rfl) (fun P=>rfl) (E.call1 (f:=143) (fun P=>rfl) (fun P=>rfl) (E.local (v:= .str (rd (rdl g x)) 0) rfl ⟨.str (rd (rdl g (g x))) 0,fun v hv H _=>vG (hA'.mono (by decide)) hv (by exact ii lr) t3,fun H12 e12=>?_⟩))))
     refine⟨.str (g x) 0,fun v hv H _=>jJ (hA'.mono (by decide)) hv (by exact ii lg) t4,fun H13 e13=>?_⟩
     refine E.local (v:= .ref ga) m1 (E.call1 (f:=136) (fun P=>rfl) (fun P=>rfl) (E.local (v:= .str (rd (rdl g x)) 0) rfl ⟨.str x 0,fun v hv H _=>jJ (hA'.mono (by decide)) hv (by exact ii lr) t1,fun H14 e14=>?_⟩))
     intro v' ov' iv' f5 f6 f7
     have e15:Ext H10 H14:=e11.trans (e12.trans (e13.trans e14))
     have hg14:=e15 _ _ hg9
     refine W.setDict f6 f7 f5 hg14 (aq (by unfold aO;rw [List.length_map,List.length_append];have:=List.length_filter_le (fun x=>decide (x∉aj g)) ks;exact s8 hr8 this hlk)) fun epg2=>?_
     have hnew2:x∉am g++ks.filter fun x=>decide (x∉aj g):=fun h=>by
      rcases List.mem_append.mp h with z | z
      ·exact hin ((bG hg).mpr z)
      ·exact hnew ((List.mem_filter.mp z).1)
     rw [dk _ _ hnew2]
     refine B.nil (B.nil ⟨m1,m2,m3,m4,(eH9.trans e15).upd _ fga,?_,⟨epg2,?_⟩,epd2,?_⟩)
     ·exact(af (aA (e15 _ _ hq9) hg14)).trans (e15 _ _ hq9)
     ·rw [List.filter_append,List.filter_cons_of_pos (by simpa using hin),List.filter_nil,← List.append_assoc]
      exact ah ..
     ·exact(af nda).trans (e15 _ _ hd10)
   ·rintro⟨loc,Hk⟩ ⟨m1,m2,m3,m4,eK,hqk,⟨epg,hgk⟩,epd,hdk⟩
    have e8:NM.take (ag (dS g qs)).length=NM:=by rw [hl8];rfl
    rw [e8]at hgk hdk
    exact B.nil ⟨m1,m2,eK,⟨epg,hgk⟩,epd,hdk⟩
  ·rintro⟨loc,Hs⟩ ⟨l1,l2,eH,⟨ep1,h1⟩,ep2,h2⟩
   dsimp only at l1 l2 eH h1 h2
   refine W.foldL ?_
   intro lc17_ q17_
   refine B.cons (S.ret (E.tuple (I.cons (E.local (v:= .ref ga) l1 (I.cons (E.local (v:= .ref da) l2 (I.nil ⟨bZ,fun a ha=>?_⟩)))))))
   have ha:Hs a=none:=ha
   intro v' hv'
   exact⟨eH.trans (aa ha),a,ga,da,ep1,ep2,hv',az (fun b o e=>eH b o e) ha,ah ..,aa ha _ _ h1,aa ha _ _ h2⟩
end Mine
end
section
open PySem PySem.W PyProof.Rows PySem.Calls
namespace Mine
variable {D:Wd}{A:Around}
noncomputable def bM(ns:List Int):List Value:=ns.map fun n=> .int n 0
noncomputable def nR:List Int→Int→Int
 | [],a=>a
 | n::r,a=>nR r (a*16+n.fmod 8)
theorem mK(ns:List Int)(n a:Int):nR (ns++ [n]) a=nR ns a*16+n.fmod 8:=by
 induction ns generalizing a with
 | nil=>rfl
 | cons x r ih=>exact ih _
theorem oK{H:AH}{l:Addr}{ns:List Int}(hA:Ok A 3)(hl:H l=some (.list (bM ns)))(hn:ns.length≤8){v:Value}(hv:er v= .ref l):
 Cd D A (.call (.ref 303) ⟨[v],[]⟩) (fun r H'=>H'=H∧r= .int (nR ns 0) 0) H:=by
 obtain rfl:=al hv
 refine Cd.fn (fun P=>rfl) rfl (fun P=>rfl) rfl hA (by decide) (by intro x hx;simp at hx;subst hx;rfl) (fun L hL hA'=>?_)
 refine WB.fold3 ?_
 intro A1_ env1_ Q1_
 refine W.foldL ?_
 intro lc2_ q2_
 refine B.cons (S.assign (E.int ?_))
 let I3:Nat→St→Prop:=fun k σ=>σ.H=H∧σ.loc "number" =some (.int (nR (ns.take k) 0) 0)
 refine W.foldL ?_
 intro lc4_ q4_
 refine B.cons (S.forList l (bM ns) I3 hA'.hand (E.local (v:= .ref l) rfl ⟨rfl,rfl,rfl⟩) (fun k σ h=>by rw [h.1];exact hl) ?_ ?_)
 ·intro k σ v hk ⟨h1,h2⟩ hv
  simp only [bM,List.length_map]at hk
  have e:(bM ns).getD k .none= .int (ns[k]) 0:=by simp [bM,List.getD,hk]
  rw [e]at hv
  refine W.assignLocal ?_
  refine W.foldL ?_
  intro lc5_ q5_
  refine B.cons (S.assign ?_)
  refine E.binop (E.binop (E.local (v:= .int (nR (ns.take k) 0) 0) h2 (E.int ?_)))
  refine O.mulII (IntMulOk.of_right (by decide)) ?_
  refine E.binop (E.local (v:= .int (ns[k]) 0) (by rw [← hv];rfl) (E.int ?_))
  refine O.modII (by decide) ?_
  refine O.addII ?_
  refine B.nil ?_
  refine⟨h1,?_⟩
  show some _=some _
  rw [List.take_succ_eq_append_getElem hk,mK]
 ·intro σ ⟨h1,h2⟩
  refine B.nil ?_
  refine W.foldL ?_
  intro lc6_ q6_
  refine B.cons (S.ret (E.local (v:= .int (nR ns 0) 0) (by rw [h2];simp [bM]) ?_))
  intro v' hv'
  exact⟨h1,hv'⟩
end Mine
end
section
open PySem PySem.W PyProof.Rows PySem.Calls PySem.SeqAt
namespace Mine
section
variable {D:Wd}{A:Around}{L:Addr}{σ:St}{env:Env}{Φ:Frz}{s:Shared}
theorem F.sumInts{l:Addr}{vs:List Value}{Q:Value→St→Prop}(hh:A.handled=none)(hl:σ.H l=some (.list vs))(hi:∀ v∈vs,∃ n,v= .int n 0)
 (h:∀ n:Int,Q (.int n 0) σ):Cb D A L "sum" [.ref l] Q σ:=fun vs' e Φ s R=>by
 refine d7 e fun v1 e1=>?_;refine aV e1 ?_
 refine ai (R.listOf hl) fun its hL ei=>?_
 have all:AllInts its:=fun v hv=>by
  obtain⟨n,hn⟩:=hi (er v) (by rw [← ei];exact List.mem_map_of_mem (by simpa using hv))
  obtain⟨t,ht⟩:=aB hn
  exact⟨n,t,ht⟩
 obtain⟨xs,hx⟩:=all.items
 rw [hx]at hL
 exact sum_intListG hh hL fun h' tk t' hk=>⟨σ,R.ext hk,h _⟩
theorem F.sumBase{l:Addr}{its:Array Value}{Q:Value→St→Prop}(hh:A.handled=none)(hb:D.h₀.IsList l its)(all:AllInts its)
 (h:∀ n:Int,Q (.int n 0) σ):Cb D A L "sum" [.ref l] Q σ:=fun vs' e Φ s R=>by
 refine d7 e fun v1 e1=>?_;refine aV e1 ?_
 have hL:s.heap.IsList l its:=hb.at fun o e=>R.rel.keep _ _ e
 obtain⟨xs,hx⟩:=all.items
 rw [hx]at hL
 exact sum_intListG hh hL fun h' tk t' hk=>⟨σ,R.ext hk,h _⟩
theorem E.sliceBase{value lo st:Expr}{p pos:Pos}{Q:Value→St→Prop}
 (h:WE D A L (eval value env) (fun o σ₁=>WE D A L (eval lo env) (fun a σ₂=>WE D A L (eval st env) (fun c σ₃=> ∃ l its,∃ k m:Int,o= .ref l∧a= .int k 0∧c= .int m 0∧m≠0∧D.h₀.IsList l its∧AllInts its∧its.size≤sizeLine∧
  ∀ vs',(∀ v∈vs',∃ n,v= .int n 0)→New Q σ₃ (.list vs')) σ₂) σ₁) σ)
 (ht:∀ o r,letTemporaryGo value o r=Pure.pure ():=by intro _ _;rfl):WE D A L (eval (.Subscript value (.Slice (some lo) Option.none (some st) p) pos) env) Q σ:=fun Φ s R=>by
 refine wpAny_Subscript_Slice_step (T:= "list") list_getitem_lookup (wpAny_mono (h Φ s R) (fun o s₁=>ar fun σ₁ R₁ h₁=>wpAny_Slice ?_) fun _ _ e=>e.elim) ht
 rw [evalPart_some]
 refine wpAny_mono (h₁ Φ s₁ R₁) (fun va s₂=>ar fun σ₂ R₂ h₂=>?_) fun _ _ e=>e.elim
 rw [evalPart_none]
 refine wpAny_pure ?_
 rw [evalPart_some]
 refine wpAny_mono (h₂ Φ s₂ R₂) (fun vc s₃=>fi fun σ₃ R₃ l its k m eo ea ec hm hl all hsz q=>?_) fun _ _ x=>x
 rw [al eo]
 obtain⟨t1,rfl⟩:=aB ea
 obtain⟨t2,rfl⟩:=aB ec
 have hi:s₃.heap.IsList l its:=hl.at fun o e=>R₃.rel.keep _ _ e
 refine⟨(hi.push _).typeIs,wpAny_getItem_list_slice (hi.push _) (Heap.IsSliceOf.new ..) (.int _ _) .none (.int _ _) (by simpa using hm) ?_ hsz⟩
 have R₄:Rel D L _ σ₃ { s₃ with heap:=s₃.heap.push { cls:= .type "slice",data:= .fields #[.int k t1,.none,.int m t2]}}:=R₃.ext (t:=s₃.toks) fun _ _ e=>Heap.get?_push_of_some _ e
 have mem:∀ v∈(slicePick its (some k) Option.none (some m)).toList,v∈its:=fun v hv=>by
  unfold slicePick at hv
  rw [List.mem_filterMap]at hv
  refine ai hv fun i _ e=>?_;clear hv
  exact Array.mem_of_getElem? e
 have:=R₄.push (ao:= .list ((slicePick its (some k) Option.none (some m)).toList.map er)) { cls:= .type "list",data:= .seq (slicePick its (some k) Option.none (some m))} rfl ⟨_,_,rfl,rfl⟩
  (q _ (fun v hv=>by
   refine ai (List.mem_map.mp hv) fun w hw h2_=>?_;obtain rfl:=h2_
   refine jC (all w (mem w hw)) fun n t h2_=>?_;obtain rfl:=h2_
   exact⟨n,rfl⟩))
 exact this
theorem j4{A:Around}{s:Shared}{fs:List (Str×Value)}:∀ {es:List (Str×Value)},(∀ p∈es,∃ y,er p.2= .str y 0∧(valueAt fs p.1).map er=some (.str y 0))→KeqHits A s fs es true
 | [],_=> .nil
 | (k,v)::r,h=>by
  refine ai (h (k,v) (.head _)) fun y e1 e2=>?_
  obtain⟨t,rfl⟩:=au e1
  refine ai (aP e2) fun y' hy ey=>?_
  obtain⟨t',rfl⟩:=au ey
  have q:=EqAt.str_str (A:=A) (s:=s) y t y t'
  rw [beq_self_eq_true]at q
  exact KeqHits.hit (e:=true) (b:=true) hy q (j4 fun p hp=>h p (.tail _ hp))
noncomputable def SameRows(es fs:List (Str×Value)):Prop:=es.length=fs.length∧ ∀ p∈es,∃ y,p.2= .str y 0∧valueAt fs p.1=some (.str y 0)
theorem SameRows.hits{A:Around}{s:Shared}{ka kb:List (Str×Value)}(h:SameRows (ka.map fun p=>(p.1,er p.2)) (kb.map fun p=>(p.1,er p.2))):KeqHits A s kb ka true∧ka.length=kb.length:=by
 obtain⟨h1,h2⟩:=h
 simp only [List.length_map]at h1
 refine⟨j4 fun p hp=>?_,h1⟩
 refine ai (h2 _ (List.mem_map_of_mem hp)) fun y e1 e2=>?_
 dsimp only at e1 e2
 rw [dm]at e2
 exact⟨y,e1,e2⟩
theorem lj{d b:Addr}{es fs:List (Str×Value)}{ep ep':Nat}{Q:Value→Shared→Prop}(R:Rel D L Φ σ s)(hu:A.units<cLine)(hd:σ.H d=some (.dict es ep))(hb:σ.H b=some (.dict fs ep'))(h:SameRows es fs)(hq:Q (.bool true) s):
 wpAny (model PR D.w) A (compareOp .Eq (.ref d) (.ref b)) Q (fun _ _=>False) s:=by
 refine ai (R.dictAt hd) fun ka ha h2_=>?_;obtain rfl:=h2_
 refine ai (R.dictAt hb) fun kb hb' h2_=>?_;obtain rfl:=h2_
 obtain⟨hits,hl⟩:=h.hits (A:=A.in1) (s:=s)
 refine keq_eq (R.noMod hd) (R.noMod hb) ha.dictOf hb'.dictOf hu (fun _=>hits) ?_
 rw [hl,beq_self_eq_true];exact hq
theorem O.neDicts{d b:Addr}{es fs:List (Str×Value)}{ep ep':Nat}{Q:Value→St→Prop}(hu:A.units<cLine)(hd:σ.H d=some (.dict es ep))(hb:σ.H b=some (.dict fs ep'))(h:SameRows es fs)(hq:Q (.bool false) σ):
 W2 D A L (compareOp .NotEq) (.ref d) (.ref b) Q σ:=fun va vb ea eb Φ s R=>by
 rw [al ea,al eb]
 refine ai (R.dictAt hd) fun ka ha h2_=>?_;obtain rfl:=h2_
 refine ai (R.dictAt hb) fun kb hb' h2_=>?_;obtain rfl:=h2_
 obtain⟨hits,hl⟩:=h.hits (A:=A.in1) (s:=s)
 refine keq_ne (R.noMod hd) (R.noMod hb) ha.dictOf hb'.dictOf hu (fun _=>hits) ?_
 rw [hl,beq_self_eq_true]
 exact done R hq
theorem ij{prog:Program}{w:World}{A:Around}{s:Shared}{l b:Addr}{x1 x2 y1 y2:Value}{n n2:Nat}{Q:Value→Shared→Prop}{E:Value→Shared→Prop}
 (hl:s.heap.get? l=some { cls:= .type "tuple",dict:=Option.none,data:= .seq #[x1,x2] n,slots:= #[]}) (hb:s.heap.get? b=some { cls:= .type "tuple",dict:=Option.none,data:= .seq #[y1,y2] n2,slots:= #[]})
 (h1:∀ (Q:Bool→Shared→Prop) (E:Value→Shared→Prop),Q true s→wpAny (model prog w) A (eqBool x1 y1) Q E s) (h2:∀ (Q:Bool→Shared→Prop) (E:Value→Shared→Prop),Q true s→wpAny (model prog w) A (eqBool x2 y2) Q E s) (hq:Q (.bool true) s):
 wpAny (model prog w) A (Builtin.«tuple.__eq__» ⟨[.ref l,.ref b],[]⟩) (fun fin s'=> ∃ v,fin= .done (.ret v)∧Q v s') E s:=by
 obtain⟨hp,g,d,tk,os⟩:=s
 have f2:=AutoSeq1.sub_tuple_tuple
 have loop:∀ (rest:List (Value×Value)),(rest= [(x1,y1),(x2,y2)]∨rest= [(x2,y2)]∨rest= [])→ ∀ p r,rest=p::r→(∀ (Q:Bool→Shared→Prop) (E:Value→Shared→Prop),Q true ⟨hp,g,d,tk,os⟩→wpAny (model prog w) A (eqBool p.1 p.2) Q E ⟨hp,g,d,tk,os⟩)∧(r= [(x1,y1),(x2,y2)]∨r= [(x2,y2)]∨r= []):=by
  rintro rest (rfl | rfl | rfl) p r e
  ·cases e;exact⟨h1,.inr (.inl rfl)⟩
  ·cases e;exact⟨h2,.inr (.inr rfl)⟩
  ·cases e
 wp_walk using AutoSeq1.wpAny_loadPart' hl,AutoSeq1.wpAny_loadPart' hb,wpAny_forIn_list _ (fun rest c s'=>c.1=Option.none∧s'=(⟨hp,g,d,tk,os⟩:Shared)∧(rest= [(x1,y1),(x2,y2)]∨rest= [(x2,y2)]∨rest= [])) _
 case turn=>
  rintro p rest c s' h4_;refine aE h4_ fun hc h41_ hr=>?_;clear h4_;obtain rfl:=h41_
  obtain⟨q,hn⟩:=loop _ hr p rest rfl
  refine wpAny_bind (q _ _ ?_)
  wp_walk
  exact⟨rfl,rfl,hn⟩
 case fin=>
  rintro⟨c1,c2⟩ s' h2_;refine aE h2_ fun hc h21_ _=>?_;clear h2_;obtain rfl:=h21_
  simp only at hc
  subst hc
  wp_walk
  exact⟨_,rfl,hq⟩
 case h=>exact⟨rfl,rfl,.inl rfl⟩
theorem fR{prog:Program}{w:World}{A:Around}{s:Shared}{a b:Addr}{Q:Bool→Shared→Prop}{E:Value→Shared→Prop}(hq:Q true s)
 (h:∀ Q:Value→Shared→Prop,Q (.bool true) s→wpAny (model prog w) A (richCompare .Eq (.ref a) (.ref b)) Q E s):wpAny (model prog w) A (eqBool (.ref a) (.ref b)) Q E s:=by
 by_cases e:a=b
 ·subst e;exact EqAt.same _ _ _ _ _ hq
 ·unfold eqBool
  refine wpAny_holding ?_
  refine wpAny_ite_split (fun hab=>absurd (by have:=eq_of_beq hab;injection this) e) (fun _=>?_)
  exact wpAny_bind (h _ (wpAny_truthy_bool hq))
theorem O.eqPairs{l b d1 d2 b1 b2:Addr}{es1 es2 fs1 fs2:List (Str×Value)}{p1 p2 q1 q2:Nat}{Q:Value→St→Prop}(hu:A.units+8<cLine)(hl:σ.H l=some (.tuple [.ref d1,.ref d2]))(hb:σ.H b=some (.tuple [.ref b1,.ref b2]))
 (hd1:σ.H d1=some (.dict es1 p1)) (hd2:σ.H d2=some (.dict es2 p2)) (hb1:σ.H b1=some (.dict fs1 q1)) (hb2:σ.H b2=some (.dict fs2 q2)) (s1:SameRows es1 fs1) (s2:SameRows es2 fs2) (hq:Q (.bool true) σ):
 W2 D A L (compareOp .Eq) (.ref l) (.ref b) Q σ:=fun va vb ea eb Φ s R=>by
 rw [al ea,al eb]
 refine bz (R.obj hl) fun o1 ho1 i1 n1 h4_ k1=>?_;obtain rfl:=h4_
 refine bz (R.obj hb) fun o2 ho2 i2 n2 h4_ k2=>?_;obtain rfl:=h4_
 have pair:∀ {its:Array Value} {a b:Addr},its.toList.map er= [.ref a,.ref b]→its= #[.ref a,.ref b]:=by
  rintro⟨li⟩ a b e
  match li,e with
  | [x,y],e=>
   simp only [List.map_cons,List.map_nil,List.cons.injEq,and_true]at e
   rw [al e.1,al e.2]
  | [],e=>simp at e
  | [_],e=>simp at e
  | _::_::_::_,e=>simp at e
 obtain rfl:=pair k1
 obtain rfl:=pair k2
 have T1:s.TypeIs (.ref l) "tuple" :=⟨_,ho1,rfl⟩
 have T2:s.TypeIs (.ref b) "tuple" :=⟨_,ho2,rfl⟩
 have hin:A.in1.units<cLine:=by show A.units+1<cLine;exact wM hu
 have hu0:A.units<cLine:=by exact wL hu
 refine wpAny_richCompare_same_room (op:= .Eq) T1 T2 PySem.F.slot_tuple_eq (wpAny_call_entry PySem.F.slot_tuple_eq T1 PySem.F.entry_tuple_eq
  (ij ho1 ho2 (fun Q E hQ=>?_) (fun Q E hQ=>?_) ⟨(fun e=>nomatch e),done R hq⟩) (PySem.F.args_tuple_eq_2 _ _)) hu0
 ·exact fR hQ fun Q' hQ'=>wpAny_mono (lj R hin hd1 hb1 s1 hQ') (fun _ _ x=>x) fun _ _ x=>x.elim
 ·exact fR hQ fun Q' hQ'=>wpAny_mono (lj R hin hd2 hb2 s2 hQ') (fun _ _ x=>x) fun _ _ x=>x.elim
end
end Mine
end
section
open PySem PySem.W PyProof.Rows PySem.Calls PySem.SeqAt
namespace Mine
noncomputable def dA(ns:List Int):List Nat:=ns.map fun n=>(n.fmod 8).toNat
theorem iB(ns:List Int):∀ d∈dA ns,d<8:=fun d hd=>by
 refine ai (List.mem_map.mp hd) fun n _ h2_=>?_;obtain rfl:=h2_
 have h1:0≤n.fmod 8:=Int.fmod_nonneg_of_pos n (by decide)
 have h2:n.fmod 8<8:=Int.fmod_lt_of_pos n (by decide)
 exact pt h2
noncomputable def j6(ds:List Nat)(a:Nat):Nat:=ds.foldl (fun a d=>a*16+d) a
theorem jr:∀ (ns:List Int) (a:Nat),nR ns a=(j6 (dA ns) a:Int)
 | [],a=>rfl
 | n::r,a=>by
  have h1:0≤n.fmod 8:=Int.fmod_nonneg_of_pos n (by decide)
  have:(a:Int)*16+n.fmod 8=((a*16+(n.fmod 8).toNat:Nat):Int):=by exact uB h1
  rw [nR,this,jr r];rfl
theorem nv:∀ (ds:List Nat) (a k:Nat),(∀ d∈ds,d<16)→a<16 ^ k→j6 ds a<16 ^ (k+ds.length)
 | [],a,k,_,h=>by simpa [j6] using h
 | d::r,a,k,hd,h=>by
  have h1:=hd d (.head _)
  have:=nv r (a*16+d) (k+1) (fun x hx=>hd x (.tail _ hx)) (by rw [Nat.pow_succ];exact uA h h1)
  show j6 r (a*16+d)<_
  rw [List.length_cons]
  have e:k+(r.length+1)=k+1+r.length:=by exact u9
  rw [e];exact this
theorem nu(ds:List Nat)(d a:Nat):j6 (ds++ [d]) a=j6 ds a*16+d:=by unfold j6;rw [List.foldl_append];rfl
theorem ja:∀ (m:Nat) (ds:List Nat),ds.length=m→(∀ d∈ds,d<16)→List.replicate (m-(ap (j6 ds 0)).length) 65++(ap (j6 ds 0)).map UInt8.toNat=ds.map (65+ ·)
 | 0,ds,hm,_=>by
  obtain rfl:=List.length_eq_zero_iff.mp hm
  show List.replicate (0-(ap 0).length) 65++(ap 0).map UInt8.toNat= []
  rw [bX];rfl
 | m+1,ds,hm,hd=>by
  obtain⟨r,d,rfl⟩:∃ r d,ds=r++ [d]:=⟨ds.dropLast,ds.getLast (by intro e;rw [e]at hm;cases hm),(List.dropLast_concat_getLast _).symm⟩
  have hr:r.length=m:=by simpa using hm
  have hdd:=hd d (by simp)
  have ih:=ja m r hr fun x hx=>hd x (by simp [hx])
  rw [nu]
  by_cases h:j6 r 0*16+d=0
  ·have h0:j6 r 0=0:=by exact u8 h
   have hd0:d=0:=by exact u7 h
   rw [h,bX]
   rw [h0,bX]at ih
   subst hd0
   simp only [List.length_nil,Nat.sub_zero,List.map_nil,List.append_nil]at ih ⊢
   rw [List.map_append,← ih,List.replicate_succ'];rfl
  ·rw [fe h]
   have e1:(j6 r 0*16+d)/16=j6 r 0:=by exact u6 hdd
   have e2:(j6 r 0*16+d)%16=d:=by exact u5 e1
   rw [e1,e2,List.length_append,List.length_singleton,Nat.add_sub_add_right,List.map_append,← List.append_assoc,ih,List.map_append]
   congr 1
   simp only [List.map_cons,List.map_nil,List.cons.injEq,and_true]
   show(65+d)%2 ^ 8=65+d
   omega
noncomputable def jq(t:Nat):List Str:=NM.drop t++NM.take t
theorem p9:∀ t,t<8→Ordr (jq t):=by
 intro t ht
 have h1:(NM.drop t++NM.take t).Perm NM:=by
  have:=List.perm_append_comm (l₁:=NM.drop t) (l₂:=NM.take t)
  rwa [List.take_append_drop]at this
 exact⟨fun x=>h1.mem_iff,h1.nodup_iff.mpr NM_nodup⟩
noncomputable def gF(ns:List Int)(x:Str):Str:=NM.getD ((dA ns).getD (NM.idxOf x) 0) default
theorem pK(ns:List Int):bK (gF ns):=fun x hx=>by
 refine aF ?_
 show _<8
 rw [List.getD_eq_getElem?_getD]
 cases h:(dA ns)[NM.idxOf x]? with
 | none=>decide
 | some d=>exact iB ns d (List.mem_of_getElem? h)
theorem vC(ns:List Int){k:Nat}(hk:k<8):gF ns (NM.getD k default)=NM.getD ((dA ns).getD k 0) default:=by
 have hk':k<NM.length:=hk
 have:NM.idxOf (NM.getD k default)=k:=by
  have:=NM_nodup.idxOf_getElem k hk'
  simpa [List.getD,List.getElem?_eq_getElem hk'] using this
 unfold gF;rw [this]
end Mine
end
section
open PySem PySem.W PyProof.Rows PySem.Calls PySem.SeqAt
namespace Mine
section
variable {D:Wd}{A:Around}{L:Addr}{σ:St}{env:Env}
variable {H H':AH}{Sr SD N q:Addr}{adr:Str→Adr}{V:Vw}{R:List Str}{po nf:Int}{g:Str→Str}{Q:Value→St→Prop}{p1 p2 pos:Pos}
theorem E.active(hA:Ok A 10)(hloc:σ.loc "sorter" =some (.ref Sr))(X:SorR σ.H Sr SD N adr V q R po nf)(hz:R.length≤900)(k:∀ H',Ext σ.H H'→Q (.bool (decide (nf<po) || !R.isEmpty)) ⟨σ.loc,H'⟩)
 (hL:env.locals=L:=by rfl) (hk:env.scope.kind= .function:=by rfl) (hl:env.kindOf "sorter" =some .local:=by rfl) (hbase:attributeBase (.Name "sorter" p1) "is_active" env (eval (.Name "sorter" p1) env)=eval (.Name "sorter" p1) env:=by rfl) (hline:(p2.endLine==pos.line)=true:=by rfl):
 WE D A L (eval (.Call (.Attribute (.Name "sorter" p1) "is_active" p2) [] [] pos) env) Q σ:=by
 refine bp X.x.setReady fun m hm m1 m2 m3 m4 mw _=>?_
 refine E.methOwn (C:=271) (f:=240) (fun P=>rfl) (fun P=>rfl) (fun P=>rfl) (fun P=>rfl) (fun P=>rfl) (E.local (v:= .ref Sr) hloc ⟨Sr,SD,m,rfl,X.x.s,hm,bD mw (by decide),I.nil ?_⟩ hL hk hl) hbase rfl hline rfl
 intro vs' hvs hLn
 obtain rfl:=map_nil hvs
 exact Cd.val hLn ((oN (hA.mono (by decide)) rfl (X.mono (aa hLn)) hz).mono fun r H' x=>⟨x.2,x.1⟩) k
theorem E.cycle{k0:Str}{rest:List Str}(hA:Ok A 10)(hloc:σ.loc "sorter" =some (.ref Sr)){ready:Value}(X:Sor σ.H Sr SD N adr V ready po nf)(hks:V.ks=k0::rest)(hz:V.ks.length≤900)(hG:∀ n∈V.ks,n∈NM∧g n∈V.ks∧V.sc n= [g n])(hb:b9 g k0∈aQ g k0)
 (k:∀ a H',Ext σ.H H'→σ.H a=Option.none→H' a=some (.list (ag (fH g k0)))→Q (.ref a) ⟨σ.loc,H'⟩)
 (hL:env.locals=L:=by rfl) (hk:env.scope.kind= .function:=by rfl) (hl:env.kindOf "sorter" =some .local:=by rfl) (hbase:attributeBase (.Name "sorter" p1) "_find_cycle" env (eval (.Name "sorter" p1) env)=eval (.Name "sorter" p1) env:=by rfl) (hline:(p2.endLine==pos.line)=true:=by rfl):
 WE D A L (eval (.Call (.Attribute (.Name "sorter" p1) "_find_cycle" p2) [] [] pos) env) Q σ:=by
 refine bp X.setReady fun m hm m1 m2 m3 m4 mw _=>?_
 refine E.methOwn (C:=271) (f:=261) (fun P=>rfl) (fun P=>rfl) (fun P=>rfl) (fun P=>rfl) (fun P=>rfl) (E.local (v:= .ref Sr) hloc ⟨Sr,SD,m,rfl,X.s,hm,bD mw (by decide),I.nil ?_⟩ hL hk hl) hbase rfl hline rfl
 intro vs' hvs hLn
 obtain rfl:=map_nil hvs
 exact Cd.new hLn (nK (hA.mono (by decide)) rfl (X.mono (aa hLn)) hks hz hG hb) k
theorem E.ready(hA:Ok A 10)(hloc:σ.loc "sorter" =some (.ref Sr))(X:SorR σ.H Sr SD N adr V q R po nf)(hR:∀ t∈R,t∈V.ks)(hz:R.length≤900)
 (k:∀ a H',σ.H a=Option.none→H' a=some (.tuple (ag R))→SorR H' Sr SD N adr (V.outs R) q [] (po+R.length) nf→Grow σ.H H' (FootR SD N adr V q) (FootR SD N adr V q)→Q (.ref a) ⟨σ.loc,H'⟩)
 (hL:env.locals=L:=by rfl) (hk:env.scope.kind= .function:=by rfl) (hl:env.kindOf "sorter" =some .local:=by rfl) (hbase:attributeBase (.Name "sorter" p1) "get_ready" env (eval (.Name "sorter" p1) env)=eval (.Name "sorter" p1) env:=by rfl) (hline:(p2.endLine==pos.line)=true:=by rfl):
 WE D A L (eval (.Call (.Attribute (.Name "sorter" p1) "get_ready" p2) [] [] pos) env) Q σ:=by
 refine bp X.x.setReady fun m hm m1 m2 m3 m4 mw _=>?_
 refine E.methOwn (C:=271) (f:=233) (fun P=>rfl) (fun P=>rfl) (fun P=>rfl) (fun P=>rfl) (fun P=>rfl) (E.local (v:= .ref Sr) hloc ⟨Sr,SD,m,rfl,X.x.s,hm,bD mw (by decide),I.nil ?_⟩ hL hk hl) hbase rfl hline rfl
 intro vs' hvs hLn
 obtain rfl:=map_nil hvs
 have hLn:σ.H L=Option.none:=hLn
 refine Cd.back hLn (P:=FootR SD N adr V q) (P':=FootR SD N adr V q) (Z:=fun r H'=> ∃ a,r= .ref a∧upd σ.H L (.ns σ.loc) a=Option.none∧H' a=some (.tuple (ag R))∧SorR H' Sr SD N adr (V.outs R) q [] (po+R.length) nf) ((X.mono (aa hLn)).apart (m:=σ.loc) (ah ..)) ((pV (hA.mono (by decide)) rfl (X.mono (aa hLn)) hR hz).mono fun r H'=>ln fun a h1 h2 h3 h4 h5=>⟨⟨a,h1,h2,h3,h4⟩,h5⟩) ?_
 rintro r H' h2_;refine cI h2_ fun a h21_ h2 h3 h4=>?_;clear h2_;obtain rfl:=h21_;rintro hL1 gr
 have ne:a≠L:=fun q=>by rw [q,ah]at h2;cases h2
 exact k a _ ((af ne).symm.trans h2) ((ay ne).trans h3) (h4.off hL1) gr
end
section
variable {g:Str→Str}{order:List Str}
theorem mz(O:Ordr order):(aX g order).ks.filter (fun t=>decide ((aX g order).np t=0))=leaves g order:=by
 have sp:=c8 (g:=g) (order:=NM) (fun _ h=>h) order O.nd
 have e:(aX g order).ks.filter (fun t=>decide ((aX g order).np t=0))=(aX g order).ks.filter (fun t=>decide (t∉NM.map g)):=by
  refine List.filter_congr fun t _=>?_
  rw [sp.1,Bool.eq_iff_iff,decide_eq_true_iff,decide_eq_true_iff,Int.natCast_eq_zero,List.length_eq_zero_iff,List.filter_eq_nil_iff]
  simp only [decide_eq_true_eq,List.mem_map,not_exists,not_and]
  exact⟨fun h y hy=>h y ((O.mem y).mpr hy),fun h y hy=>h y ((O.mem y).mp hy)⟩
 rw [e]
 exact kG O.nd _ (fun x hx=>by simp only [decide_eq_false_iff_not,Classical.not_not,List.mem_map];exact⟨x,(O.mem x).mp hx,rfl⟩) order (List.prefix_refl _)
theorem pY(O:Ordr order):KV g order [] (aX g order):=fun x hx=>by
 rw [(c8 (g:=g) (order:=NM) (fun _ h=>h) order O.nd).1,if_neg (by simp)]
 unfold cnt
 simp
end
end Mine
end
section
open PySem PySem.W PyProof.Rows PySem.Calls PySem.SeqAt
namespace Mine
variable {D:Wd}{A:Around}
section
variable {H:AH}{g:Str→Str}{order:List Str}{outer:List Env}
theorem Foot.some{Hs:AH}{Sr SD N b:Addr}{adr:Str→Adr}{V:Vw}{ready:Value}{po nf:Int}(X:Sor Hs Sr SD N adr V ready po nf)(h:Foot SD N adr V b):Hs b≠none:=by
 rcases h with rfl | rfl | ⟨t,ht,rfl | rfl⟩
 ·refine ai X.f fun m hm _=>?_;rw [hm];simp
 ·obtain⟨ep,hN⟩:=X.n;rw [hN];simp
 ·rw [(X.i t ht).1];simp
 ·rw [(X.i t ht).2.2];simp
theorem FootR.some{Hs:AH}{Sr SD N q b:Addr}{adr:Str→Adr}{V:Vw}{R:List Str}{po nf:Int}(X:SorR Hs Sr SD N adr V q R po nf)(h:FootR SD N adr V q b):Hs b≠none:=by
 rcases h with h | rfl
 ·exact Foot.some X.x h
 ·rw [X.hq];simp
theorem l9(hg:bK g)(O:Ordr order){Hs:AH}{Sr SD N:Addr}{adr:Str→Adr}{ready:Value}{po nf:Int}{l:List Str}(hl:∀ x∈l,x∈NM)(hd:l.Nodup)(X:Sor Hs Sr SD N adr (aX g l) ready po nf):(aX g l).ks.length≤8:=by
 have:=cR X.nd (m:=NM) fun x hx=>by
  rcases((c8 (order:=NM) (fun _ h=>h) l hd).2.2 x).mp hx with h | h
  ·exact hl x h
  ·refine ai (List.mem_map.mp h) fun y hy h2_=>?_;obtain rfl:=h2_
   exact hg y (hl y hy)
 rw [ie]at this;exact this
theorem kI:∀ x∈NM,PyData.strOk x=true:=by decide+kernel
theorem mG(hg:bK g){one:Str}(ho:one∈NM):∀ x∈fH g one,x∈NM:=fun x hx=>by
 have w:=fA hg 8 [one] (by simp) (fun y hy=>by rw [List.mem_singleton.mp hy];exact ho)
 unfold fH at hx
 rcases List.mem_append.mp hx with h | h
 ·exact w x (List.mem_of_mem_drop h)
 ·rw [List.mem_singleton.mp h];exact hg _ (eO hg ho)
theorem jo{α β:Type}{P:α→β→Prop}:∀ {l:List α} {m:List β},Paired P l m→ ∀ (j:Nat) (a:α) (b:β),j<l.length→P (l.getD j a) (m.getD j b)
 | _,_,.cons h r,0,a,b,_=>h
 | _,_,.cons h r,j+1,a,b,hj=>by simpa using jo r j a b (by simpa using hj)
theorem lM:∀ n∈NM,(Str.ofString "node '" ++n++Str.ofString "' " ++Str.ofString "was already marked done")=cQ n (-2)∧(Str.ofString "node '" ++n++Str.ofString "' " ++Str.ofString "was not passed out (still not ready)")=cQ n 0∧(reprText n).length≤100:=by decide+kernel
structure PLoc (loc:Str→Option Value) (d l rl Sr gv:Addr):Prop where
 goes:loc "goes" =some (.ref d)
 order:loc "order" =some (.ref l)
 ringed:loc "ringed" =some (.ref rl)
 sorter:loc "sorter" =some (.ref Sr)
 given:loc "given" =some (.ref gv)
theorem oJ{d l rl:Addr}{ep:Nat}{o0:Str}{rest:List Str}{v u w:Value}(hA:Ok A 17)(hv:er v= .ref d)(hu:er u= .ref l)(hw:er w= .ref rl)(hd:H d=some (.dict (d9 g) ep))(hl:H l=some (.list (ag order)))(hr:H rl=some (.list (ag (am g))))(hg:bK g)
 (Od:Ordr order) (ho:order=o0::rest) (hfr:A.frames=some outer) (hon:FrOn H outer):
 Cd D A (.call (.ref 358) ⟨[v,u,w],[]⟩) (fun r H'=>Ext H H'∧ ∃ a,r= .ref a∧H a=none∧H' a=some (.list (ag (an g order)))) H:=by
 obtain rfl:=al hv
 obtain rfl:=al hu
 obtain rfl:=al hw
 have hon8:order.length≤8:=by have:=cR Od.nd (m:=NM) fun x hx=>(Od.mem x).mp hx;rw [ie]at this;exact this
 have ho0:o0∈NM:=(Od.mem o0).mp (by rw [ho];simp)
 refine Cd.fn (fun P=>rfl) rfl (fun P=>rfl) rfl hA (by decide) (locs rfl) (fun L hL hA'=>?_)
 have hLn:H L=none:=hL _ (Nat.le_refl _)
 refine WB.fold3 ?_
 intro A1_ env1_ Q1_
 refine W.foldL ?_
 intro lc2_ q2_
 refine B.cons (S.assignSwap hA'.hand (names:= ["sorter","given"]) rfl (E.tuple (I.cons (E.callFn (f:=271) (fun P=>rfl) (fun P=>rfl) (I.nil ?_)))))
 intro vs' hvs hLn'
 obtain rfl:=map_nil hvs
 refine Cd.mono (kD (hA'.mono (by decide))) ?_
 rintro r H' h2_;refine gd h2_ fun ext Sr SD N h24_ s0 sd0 n0 X0=>?_;clear h2_;obtain rfl:=h24_
 have hLs:=ext _ _ (ah ..)
 refine⟨hLs,?_⟩
 have e1:Ext H (del H' L):=Ext.del (fun a o q=>ext a o (aa hLn _ _ q)) hLn
 have frL:∀ {b:Addr} {m:Str→Option Value},upd H L (.ns m) b=none→H b=none:=fun {b m} h=>az (fun a o e=>aa (o:=AO.ns m) hLn a o e) h
 have X1:∀ adr,Sor (del H' L) Sr SD N adr V0 .none 0 0:=fun adr=>(X0 adr).off hLs
 have f1:=frL sd0
 have f2:=frL n0
 generalize del H' L=H1 at e1 X1
 refine I.cons (E.list (I.nil ⟨Nat.zero_le _,fun gv hgv=>?_⟩))
 have hgv:H1 gv=none:=hgv
 have hgv0:H gv=none:=az (fun a o e=>e1 a o e) hgv
 refine I.nil ⟨bZ,fun tp htp=>?_⟩
 have htp:upd H1 gv (.list []) tp=none:=htp
 refine⟨tp,_,rfl,ah ..,rfl,?_⟩
 intro v1 hv1
 refine W.bindLocal ?_
 intro v2 hv2
 refine W.bindLocal ?_
 simp only [hv1,hv2]
 let I3:St→Prop:=fun σ=> ∃ adr,PLoc σ.loc d l rl Sr gv∧Sor σ.H Sr SD N adr (aX g order) .none 0 0∧Grow H σ.H (fun _=>False) (Foot SD N adr (aX g order))∧σ.H gv=some (.list [])∧ ¬ Foot SD N adr (aX g order) gv
 refine W.foldL ?_
 intro lc4_ q4_
 refine B.seq I3 ?_ ?_
 ·have e2:Ext H1 (upd (upd H1 gv (.list [])) tp (.tuple [.ref Sr,.ref gv])):=(aa hgv).trans (aa htp)
  have hl1:=(e1.trans e2) _ _ hl
  have X2:∀ adr,Sor (upd (upd H1 gv (.list [])) tp (.tuple [.ref Sr,.ref gv])) Sr SD N adr V0 .none 0 0:=fun adr=>(X1 adr).mono e2
  have hgv2:upd (upd H1 gv (.list [])) tp (.tuple [.ref Sr,.ref gv]) gv=some (.list []):=(af (fun e=>by rw [e,ah]at htp;cases htp)).trans (ah ..)
  have nf:¬ Foot SD N (fun _=>⟨0,0,0⟩) V0 gv:=fun q=>Foot.some (X1 _) q hgv
  have gr:Grow H (upd (upd H1 gv (.list [])) tp (.tuple [.ref Sr,.ref gv])) (fun _=>False) (Foot SD N (fun _=>⟨0,0,0⟩) V0):=⟨fun b o q _=>(e1.trans e2) b o q,fun b hb=>by
   rcases hb with rfl | rfl | ⟨t,ht,_⟩
   ·exact .inr f1
   ·exact .inr f2
   ·nomatch ht⟩
  show WS _ _ _ _ _ _ ⟨_,upd (upd H1 gv (.list [])) tp (.tuple [.ref Sr,.ref gv])⟩
  generalize upd (upd H1 gv (.list [])) tp (.tuple [.ref Sr,.ref gv])=H2 at e2 hl1 X2 hgv2 gr
  refine S.forList l (ag order) (fun j σ=> ∃ adr,PLoc σ.loc d l rl Sr gv∧Sor σ.H Sr SD N adr (aX g (order.take j)) .none 0 0∧Grow H σ.H (fun _=>False) (Foot SD N adr (aX g (order.take j)))∧σ.H gv=some (.list [])∧ ¬ Foot SD N adr (aX g (order.take j)) gv) hA'.hand
   (E.local (v:= .ref l) rfl ⟨rfl,fun _=>⟨0,0,0⟩,⟨rfl,rfl,rfl,rfl,rfl⟩,X2 _,gr,hgv2,nf⟩) (fun k σ=>pL fun adr a b c _=>c.keep _ _ hl fun h=>h) ?_ ?_
  ·rintro j ⟨loc,Hs⟩ v hj h4_;refine d6 h4_ fun adr pl X gr hgv nf=>?_;clear h4_;rintro hv
   dsimp only at pl X gr hgv
   rw [ae]at hj
   rw [ax hj]at hv
   have hn:=(Od.mem _).mp (aF hj)
   have hsn:=eE (g:=g) (order.take j) (order.getD j default)
   rw [← br hj]at hsn
   have hdj:(order.take (j+1)).Nodup:=Od.nd.sublist (List.take_sublist _ _)
   rw [br hj]at hdj
   have hj0:order.getD j default∉order.take j:=fun q=>(List.nodup_append.mp hdj).2.2 _ q _ (by simp) rfl
   have sp:=c8 (g:=g) (order:=NM) (fun _ h=>h) (order.take j) (List.nodup_append.mp hdj).1
   have len:=l9 hg Od (fun x hx=>(Od.mem x).mp (List.mem_of_mem_take hx)) (List.nodup_append.mp hdj).1 X
   have hsc:((aX g (order.take j)).sc (order.getD j default)).length≤900:=by rw [sp.2.1,if_neg hj0];exact Nat.zero_le _
   rw [hsn]
   generalize aX g (order.take j)=V at X gr nf len hsc
   generalize order.getD j default=n at hv hn hsc
   refine W.assignLocal ?_
   rw [hv]
   refine bp X.setReady fun m hm m1 m2 m3 m4 mw _=>?_
   have hd1:=gr.keep _ _ hd fun h=>h
   refine W.foldL ?_
   intro lc5_ q5_
   refine B.cons (S.expr (E.methOwn (C:=271) (f:=221) (fun P=>rfl) (fun P=>rfl) (fun P=>rfl) (fun P=>rfl) (fun P=>rfl) (E.local (v:= .ref Sr) pl.sorter ⟨Sr,SD,m,rfl,X.s,hm,bD mw (by decide),I.cons (E.goes (E.local (v:= .ref d) pl.goes ⟨d,rfl,E.local (v:= .str n 0) rfl ⟨n,g,ep,rfl,hn,hd1,I.cons (E.local (v:= .str n 0) rfl (I.nil ?_))⟩⟩))⟩)))
   intro vs' hvs hLn
   have hLn:Hs L=none:=hLn
   refine eA hvs fun w1 ew1 w2 ew2=>?_
   refine Cd.sor (P:=fun r _ _=>r= .none) hLn X (vH (hA'.mono (by decide)) rfl ew1 ew2 (X.mono (aa hLn)) (by exact nV len) hsc) ?_
   intro r adr' H1' hr0 hL1 X' gr'
   refine B.nil ⟨adr',⟨pl.goes,pl.order,pl.ringed,pl.sorter,pl.given⟩,X',gr.trans gr',gr'.keep _ _ hgv nf,fun q=>?_⟩
   rcases gr'.foot _ q with h | h
   ·exact nf h
   ·exact nomatch hgv.symm.trans h
  ·rintro⟨loc,Hs⟩ h1_;refine d6 h1_ fun adr pl X gr hgv nf=>?_;clear h1_
   rw [ae,List.take_length]at X gr nf
   exact B.nil ⟨adr,pl,X,gr,hgv,nf⟩
 ·rintro⟨loc,Hs⟩ h1_;refine d6 h1_ fun adr pl X gr hgv nf=>?_;clear h1_
  dsimp only at pl X gr hgv
  have sp:=c8 (g:=g) (order:=NM) (fun _ h=>h) order Od.nd
  have len:=l9 hg Od (fun x hx=>(Od.mem x).mp hx) Od.nd X
  obtain⟨krest,hkr⟩:=nN (g:=g) order ho
  have hd1:=gr.keep _ _ hd fun h=>h
  have hl1:=gr.keep _ _ hl fun h=>h
  have hk0:g o0∈NM:=hg _ ho0
  have hbk:=oO hg hk0
  have hG:∀ n∈(aX g order).ks,n∈NM∧g n∈(aX g order).ks∧(aX g order).sc n= [g n]:=by
   intro n hn
   have hn':n∈NM:=by
    rcases(sp.2.2 n).mp hn with h | h
    ·exact(Od.mem n).mp h
    ·refine ai (List.mem_map.mp h) fun y hy h2_=>?_;obtain rfl:=h2_
     exact hg y ((Od.mem y).mp hy)
   refine⟨hn',(sp.2.2 _).mpr (.inl ((Od.mem _).mpr (hg n hn'))),?_⟩
   rw [sp.2.1,if_pos ((Od.mem n).mpr hn')]
  refine W.foldL ?_
  intro lc6_ q6_
  refine B.cons (S.assign (E.callFn (f:=332) (fun P=>rfl) (fun P=>rfl) (I.cons (E.local (v:= .ref d) pl.goes (I.cons (E.goes (E.local (v:= .ref d) pl.goes ⟨d,rfl,?_⟩)))))))
  refine E.sub (T:= "list") (id:= "list.__getitem__") (by rw [typeLookup_type,builtinLookup_eq_fast];kernel_rfl) (E.local (v:= .ref l) pl.order (E.int ⟨⟨_,hl1,rfl⟩,O.itemList (k:=0) hl1 (by rw [ae,ho];simp) (by decide) ?_⟩))
  refine⟨o0,g,ep,by rw [ho];rfl,ho0,hd1,I.nil ?_⟩
  intro vs' hvs hLn
  have hLn:Hs L=none:=hLn
  refine eA hvs fun w1 ew1 w2 ew2=>?_
  refine Cd.new hLn (rc (hA'.mono (by decide)) ew1 ew2 (aa hLn _ _ hd1) hg hk0 hbk) (fun rr H3 e3 hrr hH3=>?_)
  have nrr:¬ Foot SD N adr (aX g order) rr:=fun q=>Foot.some X q hrr
  have X3:=X.mono e3
  have hgv3:=e3 _ _ hgv
  have gr3:Grow H H3 (fun _=>False) (Foot SD N adr (aX g order)):=gr.trans (Grow.ext e3)
  have ok1:∀ x∈fH g (g o0),PyData.strOk x=true:=fun x hx=>kI x (mG hg hk0 x hx)
  have hu64:∀ e:Env,(A.deeper e).units+64<cLine:=fun e=>Nat.lt_of_lt_of_le (by have:=hA.units;show A.units+3+64<9000;exact sT this) (by decide)
  refine W.foldL ?_
  intro lc7_ q7_
  refine B.cons (S.iteF (T.boolop (W.orF (T.compare (E.cycle (hA'.mono (by decide)) pl.sorter X3 hkr (by exact nV len) hG hbk (fun a H4 e4 ha hH4=>E.local (v:= .ref rr) rfl (O.neStrs ok1 ok1 (hu64 _) hH4 (e4 _ _ hH3) ⟨_,rfl,by simp,?_⟩)))))))
  have X4:=X3.mono e4
  have hH34:=e4 _ _ hH3
  have hgv4:=e4 _ _ hgv3
  have gr4:Grow H H4 (fun _=>False) (Foot SD N adr (aX g order)):=gr3.trans (Grow.ext e4)
  refine W.orF (T.compare (E.callFn (f:=344) (fun P=>rfl) (fun P=>rfl) (I.cons (E.local (v:= .ref Sr) pl.sorter (I.nil ?_)))))
  intro vs' hvs hLn
  have hLn:H4 L=none:=hLn
  refine d7 hvs fun w1 ew1=>?_
  refine(mt (hA'.mono (by decide)) ew1 (X4.mono (aa hLn)) hkr (by exact nV len) hG hbk (Around.frames_deeper hfr) ?_).mono ?_
  ·refine FrOn.push (fun env he=>?_) hLn rfl (by show ScopeKind.function≠ScopeKind.module;decide)
   refine cq (hon env he) fun a L' m b c=>?_
   exact⟨a,L',m,b,gr4.keep _ _ c fun h=>h⟩
  rintro r H' h2_;refine iO h2_ fun h20_ q hq X5 gr'=>?_;clear h2_;obtain rfl:=h20_
  have SL:∀ mm,Sor (upd H4 L (.ns mm)) Sr SD N adr (aX g order) .none 0 0:=fun mm=>X4.mono (aa hLn)
  have hL5:=gr'.keep _ _ (ah ..) ((SL fun _=>none).apart (m:=fun _=>none) (ah ..))
  refine⟨hL5,E.str (O.neSS ⟨_,rfl,by decide,W.orNil ⟨rfl,B.nil ?_⟩⟩)⟩
  have X5:=X5.off hL5
  have gr5:=gr'.off hLn
  rw [mz Od]at X5
  have hr5:=gr5.keep _ _ hH34 nrr
  have hgv5:=gr5.keep _ _ hgv4 nf
  have qL:q≠L:=fun e=>by rw [e,ah]at hq;cases hq
  have hq4:H4 q=none:=(af qL).symm.trans hq
  have nrr5:¬ FootR SD N adr (aX g order) q rr:=fun h=>h.elim nrr fun e=>by rw [← e,hH34]at hq4;cases hq4
  have nf5:¬ FootR SD N adr (aX g order) q gv:=fun h=>h.elim nf fun e=>by rw [← e,hgv4]at hq4;cases hq4
  have gr5:Grow H (del H' L) (fun _=>False) (FootR SD N adr (aX g order) q):=gr4.trans gr5
  clear gr' hq hL5 hq4
  show WB _ _ _ _ _ _ ⟨_,del H' L⟩
  generalize del H' L=H5 at X5 hr5 hgv5 gr5
  have hd5:=gr5.keep _ _ hd fun h=>h
  have hl5:=gr5.keep _ _ hl fun h=>h
  obtain⟨kend,kstop⟩:=dw hg Od
  let I8:St→Prop:=fun σ=> ∃ V gv,PLoc σ.loc d l rl Sr gv∧σ.loc "ring" =some (.ref rr)∧SorR σ.H Sr SD N adr V q [] ((an g order).length:Int) ((an g order).length:Int)∧V.ks=(aX g order).ks∧V.sc=(aX g order).sc∧KV g order (an g order) V∧Grow H5 σ.H (FootR SD N adr (aX g order) q) (FootR SD N adr (aX g order) q)∧σ.H gv=some (.list (ag (an g order)))∧(¬ FootR SD N adr (aX g order) q gv)∧H gv=none
  refine W.foldL ?_
  intro lc9_ q9_
  refine B.seq I8 ?_ ?_
  ·refine S.for_ (It.list hA'.hand (E.callFn (f:=337) (fun P=>rfl) (fun P=>rfl) (I.cons (E.local (v:= .ref d) pl.goes (I.cons (E.local (v:= .ref l) pl.order (I.nil ?_)))))))
   intro vs' hvs hLn
   have hLn:H5 L=none:=hLn
   refine eA hvs fun w1 ew1 w2 ew2=>?_
   refine(oH (hA'.mono (by decide)) ew1 ew2 (aa hLn _ _ hd5) (aa hLn _ _ hl5) hg (fun x hx=>(Od.mem x).mp hx) hon8 kstop).mono ?_
   rintro r H' h2_;refine df h2_ fun e6 a gs h23_ ha hH6 hp=>?_;clear h2_;obtain rfl:=h23_
   have hL6:=e6 _ _ (ah ..)
   refine⟨hL6,?_⟩
   have e6':Ext H5 (del H' L):=Ext.del (fun b o q=>e6 b o (aa hLn _ _ q)) hLn
   have frL5:∀ {b:Addr} {m:Str→Option Value},upd H5 L (.ns m) b=none→H5 b=none∧b≠L:=fun {b m} h=>⟨az (fun a o e=>aa (o:=AO.ns m) hLn a o e) h,fun e=>by rw [e,ah]at h;cases h⟩
   have hH6':del H' L a=some (.list (gs.map Value.ref)):=(ay (frL5 ha).2).trans hH6
   have hp':Paired (fun q' G=>del H' L q'=some (.list (ag G))∧H5 q'=none) gs (aC g order):=PySem.Paired.mono (fun b G h=>⟨(ay (frL5 h.2).2).trans h.1,(frL5 h.2).1⟩) hp
   have na5:H5 a=none:=(frL5 ha).1
   clear hH6 hp ha e6 hL6
   show ∃ l' vs,Value.ref a= .ref l'∧del H' L l'=some (.list vs)∧_
   generalize del H' L=H6 at e6' hH6' hp'
   have nP:∀ b,H5 b=none→ ¬ FootR SD N adr (aX g order) q b:=fun b h q=>FootR.some X5 q h
   have hlen:gs.length=(aC g order).length:=hp'.length
   have keepH:∀ {Hx:AH},Grow H6 Hx (FootR SD N adr (aX g order) q) (FootR SD N adr (aX g order) q)→Ext H Hx:=fun gx b o hb=>
    gx.keep _ _ (e6' _ _ (gr5.keep _ _ hb fun h=>h)) fun h=>(gr5.foot _ h).elim (fun h=>h) fun h=>by rw [hb]at h;cases h
   refine⟨a,gs.map Value.ref,rfl,hH6',?_⟩
   refine⟨fun j σ=> ∃ V gv,PLoc σ.loc d l rl Sr gv∧σ.loc "ring" =some (.ref rr)∧SorR σ.H Sr SD N adr V q ((aC g order).getD j []) (((aC g order).take j).flatten.length:Int) (((aC g order).take j).flatten.length:Int)∧V.ks=(aX g order).ks∧V.sc=(aX g order).sc∧KV g order ((aC g order).take j).flatten V∧Grow H6 σ.H (FootR SD N adr (aX g order) q) (FootR SD N adr (aX g order) q)∧σ.H gv=some (.list (ag ((aC g order).take j).flatten))∧(¬ FootR SD N adr (aX g order) q gv)∧H gv=none,?_,?_,?_,?_⟩
   ·refine⟨aX g order,gv,⟨pl.goes,pl.order,pl.ringed,pl.sorter,pl.given⟩,rfl,?_,rfl,rfl,pY Od,Grow.refl,e6' _ _ hgv5,nf5,hgv0⟩
    rw [kg hg Od];exact X5.mono e6'
   ·rintro k σ h2_;refine eZ h2_ fun V gv _ _ _ _ _ _ gr _=>?_;clear h2_
    exact Has.one (gr.keep _ _ hH6' (nP _ na5))
   ·rintro j ⟨loc,Hs⟩ hj h3_;refine cp h3_ fun V gv pl hring X hks hsc hKV gr hgv nf hgv0=>?_;clear h3_
    dsimp only at pl hring X gr hgv
    rw [List.length_map]at hj
    obtain⟨K,hK⟩:=lJ hg Od (j:=j) (by exact sS hj hlen)
    obtain⟨hne,hnext⟩:=hK (by exact iZ hj hlen)
    have rd:=lK hg Od K hKV
    have kl:=K.len
    have hfl:((aC g order).take (j+1)).flatten=((aC g order).take j).flatten++(aC g order).getD j []:=by
     rw [FinIter.take_succ_getD _ _ [] (by exact iZ hj hlen)];simp
    obtain⟨hqj,hqj0⟩:=jo hp' j 0 [] hj
    show ∀ v,er v=(gs.map Value.ref).getD j .none→_
    intro v hv
    have hv:er v= .ref (gs.getD j 0):=by rw [hv];simp [List.getD,List.getElem?_eq_getElem hj]
    have nqj:=nP _ hqj0
    generalize gs.getD j 0=qj at hqj hv nqj
    generalize hGe:(aC g order).getD j []=G at K hne hnext rd kl hfl hqj X
    generalize hgo:((aC g order).take j).flatten=gone at K hnext hKV rd kl hfl hgv X
    refine W.assignLocal ?_
    rw [hv]
    have hP:∀ {V':Vw},V'.ks=(aX g order).ks→FootR SD N adr V' q=FootR SD N adr (aX g order) q:=fun h=>kf h
    have okG:∀ x∈G,PyData.strOk x=true:=fun x hx=>kI x (K.sub x (List.mem_append_right _ hx))
    have hGk:∀ x∈G,x∈V.ks:=fun x hx=>by rw [hks];exact(sp.2.2 x).mpr (.inl ((Od.mem x).mpr (K.sub x (List.mem_append_right _ hx))))
    have hGe':G.isEmpty=false:=by cases G with | nil=>exact absurd rfl hne | cons=>rfl
    have hGl:0<G.length:=List.length_pos_iff.mpr hne
    refine W.foldL ?_
    intro lc10_ q10_
    refine B.cons (S.iteF (T.boolop (W.orF (T.compare (E.active (hA'.mono (by decide)) pl.sorter X (by exact pj kl) (fun Ha ea=>E.bool (O.isNotBool ⟨_,rfl,by rw [hGe'];simp,?_⟩)))))))
    have Xa:=X.mono ea
    refine W.orF (T.compare (E.ready (hA'.mono (by decide)) pl.sorter Xa hGk (by exact pj kl) (fun t1 Hb ht1 hHt1 Xb grb=>?_)))
    rw [hP hks]at grb
    have gb:=(Grow.ext ea).trans grb
    have nt1:¬ FootR SD N adr (aX g order) q t1:=fun h=>by rw [← hP hks]at h;exact FootR.some Xa h ht1
    have hqb:=gb.keep _ _ (gr.keep _ _ hqj nqj) nqj
    refine E.callT (T:= "tuple") (fun P=>rfl) (by kernel_rfl) (I.cons (E.local (v:= .ref qj) rfl (I.nil (F.tupleOfList hqb (aq (by rw [ae];exact qo kl)) (fun t2 ht2=>?_)))))
    refine O.neTups okG okG (hu64 _) (aa ht2 _ _ hHt1) (ah ..) ⟨_,rfl,by simp,?_⟩
    have Xc:=Xb.mono (aa (o:= .tuple (ag G)) ht2)
    have gc:=gb.trans (Grow.ext (aa (o:= .tuple (ag G)) ht2))
    generalize upd Hb t2 (.tuple (ag G))=Hc at Xc gc
    refine W.orF (T.compare (E.ready (hA'.mono (by decide)) pl.sorter Xc (fun t h=>nomatch h) (Nat.zero_le _) (fun t3 Hd ht3 hHt3 Xd grd=>E.tuple (I.nil ⟨Nat.zero_le _,fun t4 ht4=>?_⟩))))
    refine O.neTups (xs:= []) (ys:= []) (fun x h=>nomatch h) (fun x h=>nomatch h) (hu64 _) (aa ht4 _ _ hHt3) (ah ..) ⟨_,rfl,by simp,W.orNil ⟨rfl,B.nil ?_⟩⟩
    rw [Vw.outs_nil]at Xd
    rw [hP (V':=V.outs G) hks]at grd
    have Xe:=Xd.mono (aa (o:= .tuple []) ht4)
    have ge:=(gc.trans grd).trans (Grow.ext (aa (o:= .tuple []) ht4))
    clear Xd grd Xc gc Xb grb gb Xa ea hqb
    show WB _ _ _ _ _ _ ⟨_,upd Hd t4 (.tuple [])⟩
    generalize upd Hd t4 (.tuple [])=He at Xe ge
    refine W.foldL ?_
    intro lc11_ q11_
    refine B.cons (S.iteF (T.boolop (W.orF (T.compare (E.active (hA'.mono (by decide)) pl.sorter Xe (Nat.zero_le _) (fun Hf ef=>E.bool (O.isNotBool ⟨_,rfl,?_,?_⟩)))))))
    ·have:(decide ((gone.length:Int)<(gone.length:Int)+(G.length:Int)+(([]:List Str).length:Int)))=true:=by simp;exact sR hGl
     rw [this];rfl
    have Xf:=Xe.mono ef
    have gf:=ge.trans (Grow.ext ef)
    refine bp Xf.x.setReady fun m hm m1 m2 m3 m4 mw _=>?_
    refine W.orF (T.compare (E.methOwnStar (C:=271) (f:=254) (fun P=>rfl) (fun P=>rfl) (fun P=>rfl) (fun P=>rfl) (fun P=>rfl) (fun P=>rfl) (by decide+kernel) (fun P=>rfl) (E.local (v:= .ref Sr) pl.sorter ⟨Sr,SD,m,rfl,Xf.x.s,hm,bD mw (by decide),fun mo hmo=>?_⟩)))
    have hqf:=aa (o:= .raw (methodObj (.ref 254) (.ref Sr))) hmo _ _ (gf.keep _ _ (gr.keep _ _ hqj nqj) nqj)
    have Xg:=Xf.mono (aa (o:= .raw (methodObj (.ref 254) (.ref Sr))) hmo)
    have gg:=gf.trans (Grow.ext (aa (o:= .raw (methodObj (.ref 254) (.ref Sr))) hmo))
    have hmo':upd Hf mo (.raw (methodObj (.ref 254) (.ref Sr))) mo=some (.raw (methodObj (.ref 254) (.ref Sr))):=ah ..
    show WE _ _ _ _ _ ⟨_,upd Hf mo (.raw (methodObj (.ref 254) (.ref Sr)))⟩
    generalize upd Hf mo (.raw (methodObj (.ref 254) (.ref Sr)))=Hg at hqf Xg gg hmo'
    refine E.local (v:= .ref qj) rfl ⟨qj,ag G,rfl,hqf,hmo',aq (by rw [ae];exact qo kl),?_⟩
    intro vs' hvs hLn
    have hLn:Hg L=none:=hLn
    have hGG:∀ n∈G,n∈(V.outs G).ks∧g n∈(V.outs G).ks∧(V.outs G).sc n= [g n]:=fun n hn=>by
     refine aE (hG n (by rw [← hks];exact hGk n hn)) fun a1 a2 a3=>?_
     exact⟨by show n∈V.ks;exact hGk n hn,by show g n∈V.ks;rw [hks];exact a2,by show V.sc n=_;rw [hsc];exact a3⟩
    refine Cd.back hLn (P:=FootR SD N adr (aX g order) q) (P':=FootR SD N adr (aX g order) q) (Z:=fun r H'=>r= .none∧SorR H' Sr SD N adr (eQ g (V.outs G,[]) G).1 q (eQ g (V.outs G,[]) G).2 (gone.length+G.length+([]:List Str).length) (gone.length+G.length)) ?_ ?_ ?_
    ·exact fun h=>FootR.some Xg (by rw [hP (V':=V.outs G) hks];exact h) hLn
    ·refine(rh (hA'.mono (by decide)) rfl hvs (Xg.mono (aa hLn)) hGG (by simp;exact pj kl) rd.2.2).mono fun r H'=>pN fun h1 h2 h3=>⟨⟨h1,h2⟩,?_⟩
     rw [hP (V':=V.outs G) hks]at h3;exact h3
    ·rintro r H' ⟨rfl,Xh⟩ hL1 gh
     have Xh:=Xh.off hL1
     have gh:=gg.trans gh
     refine E.none (O.isNotNone ⟨_,rfl,by simp,W.orNil ⟨rfl,B.nil ?_⟩⟩)
     show WB _ _ _ _ _ _ ⟨_,del H' L⟩
     generalize del H' L=Hh at Xh gh
     have hgvh:=gh.keep _ _ hgv nf
     have hqh:=gh.keep _ _ (gr.keep _ _ hqj nqj) nqj
     refine W.foldL ?_
     intro lc12_ q12_
     refine B.cons (S.assign (E.binop (E.local (v:= .ref gv) pl.given (E.local (v:= .ref qj) rfl (O.addLists hgvh hqh (aq (by rw [ae,ae];exact sQ kl)) (fun g2 hg2=>?_))))))
     have hg2:Hh g2=none:=hg2
     have ext2:=aa (o:= .list (ag gone++ag G)) hg2
     have np2:¬ FootR SD N adr (aX g order) q g2:=fun h=>FootR.some Xh (by rw [hP (by rw [kh];exact hks)];exact h) hg2
     have gall:=gr.trans (gh.trans (Grow.ext ext2))
     refine B.nil ⟨(eQ g (V.outs G,[]) G).1,g2,⟨pl.goes,pl.order,pl.ringed,pl.sorter,rfl⟩,hring,?_,?_,?_,?_,gall,?_,np2,?_⟩
     ·have:=Xh.mono ext2
      rw [hnext,hfl,← rd.2.1,List.length_append]
      simpa using this
     ·rw [kh];exact hks
     ·rw [nr];exact hsc
     ·rw [hfl];exact rd.1
     ·rw [hfl,← bk];exact ah ..
     ·exact az (fun b o e=>keepH (gr.trans gh) b o e) hg2
   ·rintro⟨loc,Hs⟩ h1_;refine cp h1_ fun V gv pl hring X hks hsc hKV gr hgv nf hgv0=>?_;clear h1_
    have hll:(gs.map Value.ref).length=(aC g order).length:=by rw [List.length_map,hlen]
    rw [hll]at X hKV hgv
    have e1:(aC g order).getD (aC g order).length []= []:=by simp [List.getD]
    rw [List.take_length]at X hKV hgv
    rw [e1]at X
    exact B.nil ⟨V,gv,pl,hring,X,hks,hsc,hKV,(Grow.ext e6').trans gr,hgv,nf,hgv0⟩
  ·rintro⟨loc,Hs⟩ h1_;refine cp h1_ fun V gv pl hring X hks hsc hKV gr hgv nf hgv0=>?_;clear h1_
   dsimp only at pl hring X gr hgv
   have eH:Ext H Hs:=fun b o hb=>gr.keep _ _ (gr5.keep _ _ hb fun h=>h) fun h=>(gr5.foot _ h).elim (fun h=>h) fun h=>by rw [hb]at h;cases h
   have hrr:Hs rr=some (.list (ag (fH g (g o0)))):=gr.keep _ _ hr5 nrr5
   let I13:St→Prop:=fun σ=>PLoc σ.loc d l rl Sr gv∧σ.loc "ring" =some (.ref rr)∧Ext Hs σ.H
   refine W.foldL ?_
   intro lc14_ q14_
   refine B.seq I13 ?_ ?_
   ·let I15:Nat→St→Prop:=fun j σ=>PLoc σ.loc d l rl Sr gv∧σ.loc "ring" =some (.ref rr)∧Ext Hs σ.H
    refine S.forList l (ag order) I15 hA'.hand (E.local (v:= .ref l) pl.order ⟨rfl,pl,hring,Ext.refl _⟩) (fun k σ=>pN fun _ _ e=>e _ _ (eH _ _ hl)) ?_ ?_
    ·rintro j ⟨loc',Hi⟩ v hj h4_;refine aE h4_ fun pl hring ei=>?_;clear h4_;rintro hv
     dsimp only at pl hring ei
     rw [ae]at hj
     rw [ax hj]at hv
     have hn:=(Od.mem _).mp (aF hj)
     generalize order.getD j default=n at hv hn
     refine W.assignLocal ?_
     rw [hv]
     have hri:=ei _ _ (eH _ _ hr)
     have Xi:=X.mono ei
     have hnp:=hKV n hn
     have hgi:=dv hg Od hn
     have nmk:=lM n hn
     have hc:V.np n= -2∨0≤V.np n:=by
      rw [hnp]
      first | split | (dsimp only [gV,bv];split)
      ·exact .inl rfl
      ·exact .inr (by exact m6)
     let I16:St→Prop:=fun σ=>PLoc σ.loc d l rl Sr gv∧σ.loc "ring" =some (.ref rr)∧σ.loc "one" =some (.str n 0)∧σ.H=Hi∧ ∃ why,σ.loc "why" =some (.str why 0)∧(Str.ofString "node '" ++n++Str.ofString "' " ++why)=cQ n (V.np n)∧why.length≤100
     refine W.foldL ?_
     intro lc17_ q17_
     refine B.seq I16 ?_ ?_
     ·refine S.assign (E.ifexp (T.compare (E.local (v:= .str n 0) rfl (E.local (v:= .ref rl) pl.ringed (O.inStrs hri ⟨_,rfl,?_⟩)))))
      first | split | (dsimp only [gV,bv];split)
      ·rename_i h
       have h:=of_decide_eq_true h
       refine E.str ⟨⟨pl.goes,pl.order,pl.ringed,pl.sorter,pl.given⟩,hring,rfl,rfl,_,rfl,?_,by decide⟩
       rw [nmk.2.1,hnp,if_neg fun q=>hgi.mp q h]
       unfold cQ
       rw [if_neg (by decide),if_neg (by exact sP)]
      ·rename_i h
       have h:n∉am g:=fun q=>h (decide_eq_true q)
       refine E.str ⟨⟨pl.goes,pl.order,pl.ringed,pl.sorter,pl.given⟩,hring,rfl,rfl,_,rfl,?_,by decide⟩
       rw [nmk.1,hnp,if_pos (hgi.mpr h)]
     ·rintro⟨loc2,Hi2⟩ h1_;refine mn h1_ fun pl hring hone e0 why hwhy heq hwl=>?_;clear h1_
      obtain rfl:Hi2=Hi:=e0
      dsimp only at pl hring hone hwhy
      have hnl:n.length≤3:=eF n hn
      have k0:(Str.ofString "node '").length=6:=by decide
      have k01:(Str.ofString "' ").length=2:=by decide
      have k1:(Str.ofString "node '" ++n).length≤20:=by rw [Str.length_append];exact sO k0 hnl
      have k2:(Str.ofString "node '" ++n++Str.ofString "' ").length≤30:=by rw [Str.length_append];exact sM k1 k01
      refine W.foldL ?_
      intro lc18_ q18_
      refine B.cons (S.iteF (T.compare (E.callFn (f:=351) (fun P=>rfl) (fun P=>rfl) (I.cons (E.local (v:= .ref Sr) pl.sorter (I.cons (E.local (v:= .str n 0) hone (I.nil ?_))))))))
      intro vs' hvs hLn
      have hLn:Hi2 L=none:=hLn
      refine eA hvs fun w1 ew1 w2 ew2=>?_
      refine Cd.val hLn ((nH (hA'.mono (by decide)) ew1 ew2 (Xi.mono (aa hLn)) (by rw [hks];exact(sp.2.2 n).mpr (.inl ((Od.mem n).mpr hn))) hc nmk.2.2 (Around.frames_deeper hfr) ?_).mono fun r H' x=>⟨x.2,x.1⟩) (fun Hj ej=>?_)
      ·refine FrOn.push (fun env he=>?_) hLn rfl (by show ScopeKind.function≠ScopeKind.module;decide)
       refine cq (hon env he) fun a L' m b c=>?_
       exact⟨a,L',m,b,ei _ _ (eH _ _ c)⟩
      refine E.binop (E.binop (E.binop (E.str (E.local (v:= .str n 0) hone (O.addSS (aq (by rw [Str.length_append]at k1;exact sL k1)) (E.str (O.addSS (aq (by rw [Str.length_append]at k2;exact sK k2)) (E.local (v:= .str why 0) hwhy (O.addSS (aq (by exact sJ k2 hwl)) (O.neSS ⟨_,rfl,?_⟩))))))))))
      rw [heq]
      refine⟨by simp,B.nil (B.nil ⟨pl,hring,ei.trans ej⟩)⟩
    ·rintro σ h1_;refine aE h1_ fun pl hring e=>?_;clear h1_
     exact B.nil ⟨pl,hring,e⟩
   ·rintro⟨loc',Hi⟩ h1_;refine aE h1_ fun pl hring ei=>?_;clear h1_
    dsimp only at pl hring ei
    have Xi:=X.mono ei
    refine W.foldL ?_
    intro lc19_ q19_
    refine B.cons (S.iteF (T.boolop (W.orF (T.compare (E.active (hA'.mono (by decide)) pl.sorter Xi (Nat.zero_le _) (fun Ha ea=>E.bool (O.isNotBool ⟨_,rfl,?_,?_⟩)))))))
    ·have:(decide (((an g order).length:Int)<((an g order).length:Int)))=false:=by simp
     rw [this];rfl
    have Xa:=Xi.mono ea
    refine W.orF (T.compare (E.ready (hA'.mono (by decide)) pl.sorter Xa (fun t h=>nomatch h) (Nat.zero_le _) (fun t3 Hd ht3 hHt3 Xd grd=>E.tuple (I.nil ⟨Nat.zero_le _,fun t4 ht4=>?_⟩))))
    refine O.neTups (xs:= []) (ys:= []) (fun x h=>nomatch h) (fun x h=>nomatch h) (hu64 _) (aa ht4 _ _ hHt3) (ah ..) ⟨_,rfl,by simp,?_⟩
    rw [Vw.outs_nil]at Xd
    rw [kf hks]at grd
    have Xe:=Xd.mono (aa (o:= .tuple []) ht4)
    have ge:=((Grow.ext (ei.trans ea)).trans grd).trans (Grow.ext (aa (o:= .tuple []) ht4))
    clear Xd grd
    show W _ _ _ _ _ ⟨_,upd Hd t4 (.tuple [])⟩
    generalize upd Hd t4 (.tuple [])=He at Xe ge
    refine W.orF (T.compare (E.cycle (hA'.mono (by decide)) pl.sorter Xe.x (hks.trans hkr) (by rw [hks];exact nV len) (by rw [hks,hsc];exact hG) hbk (fun a Hf ef ha hHf=>E.local (v:= .ref rr) hring (O.neStrs ok1 ok1 (hu64 _) hHf (ef _ _ (ge.keep _ _ hrr nrr5)) ⟨_,rfl,by simp,W.orNil ⟨rfl,B.nil ?_⟩⟩))))
    refine W.foldL ?_
    intro lc20_ q20_
    refine B.cons (S.ret (E.local (v:= .ref gv) pl.given ?_))
    intro v' hv'
    refine⟨fun b o hb=>ef _ _ (ge.keep _ _ (eH _ _ hb) fun h=>(gr5.foot _ h).elim (fun h=>h) fun h=>by rw [hb]at h;cases h),gv,hv',hgv0,ef _ _ (ge.keep _ _ hgv nf)⟩
end
end Mine
end
section
open PySem PySem.W PyProof.Rows PySem.Calls PySem.SeqAt
namespace Mine
section
variable {D:Wd}{A:Around}{L:Addr}{σ:St}{env:Env}
theorem WE.hl{t:Sem Value}{Q:Value→St→Prop}(h:σ.H L=Option.none→WE D A L t Q σ):WE D A L t Q σ:=W.hl h
noncomputable def setN(m:Nat→Option Value)(i:Nat)(v:Option Value):Nat→Option Value:=fun j=>if j=i then v else m j
structure S9 (H0:AH) (L:Addr) (m:Nat→Option Value) (objs:List (Addr×AO)) (H:AH):Prop where
 ext:Ext H0 H
 fr:∀ i,i<9→H0 (L+(i+1))=none
 cl:∀ i,i<9→H (L+(i+1))=some (.cell (m i))
 ob:∀ p∈objs,H p.1=some p.2
 nc:∀ p∈objs,∀ v,p.2≠ .cell v
variable {H0 H H':AH}{m:Nat→Option Value}{objs:List (Addr×AO)}
theorem S9.mono(X:S9 H0 L m objs H)(e:Ext H H'):S9 H0 L m objs H':=⟨X.ext.trans e,X.fr,fun i hi=>e _ _ (X.cl i hi),fun p hp=>e _ _ (X.ob p hp),X.nc⟩
theorem S9.set(X:S9 H0 L m objs H)(i:Nat)(hi:i<9)(v:Option Value):S9 H0 L (setN m i v) objs (upd H (L+(i+1)) (.cell v)) where
 ext:=X.ext.upd _ (X.fr i hi)
 fr:=X.fr
 cl:=fun j hj=>by
  by_cases e:j=i
  ·subst e;rw [ah];unfold setN;rw [if_pos rfl]
  ·rw [af (aT L fun q=>e (Nat.succ.inj q)),X.cl j hj];unfold setN;rw [if_neg e]
 ob:=fun p hp=>by rw [af (be (X.ob p hp) (X.cl i hi) (X.nc p hp _))];exact X.ob p hp
 nc:=X.nc
theorem S9.add(X:S9 H0 L m objs H){a:Addr}{ao:AO}(h:H a=some ao)(hn:∀ v,ao≠ .cell v):S9 H0 L m ((a,ao)::objs) H:=⟨X.ext,X.fr,X.cl,fun p hp=>by
 rcases List.mem_cons.mp hp with q | q
 ·rw [q];exact h
 ·exact X.ob p q,fun p hp=>by
 rcases List.mem_cons.mp hp with q | q
 ·rw [q];exact hn
 ·exact X.nc p q⟩
theorem S9.gen(X:S9 H0 L m objs H){p:Prop}(k:let m:=m;let o:=objs;S9 H0 L m o H→p):p:=k X
theorem S9.head{a:Addr}{ao:AO}(X:S9 H0 L m ((a,ao)::objs) H):H a=some ao:=X.ob _ (.head _)
theorem S9.tail{p:Addr×AO}(X:S9 H0 L m (p::objs) H):S9 H0 L m objs H:=⟨X.ext,X.fr,X.cl,fun q hq=>X.ob q (.tail _ hq),fun q hq=>X.nc q (.tail _ hq)⟩
end
theorem jn{ys:List Value}(h:Paired (fun k v=> ∃ n:Int,v= .int n 0) (iy 8 fun _=>true) ys):∃ ns:List Int,ns.length=8∧ys=bM ns:=by
 have e:(iy 8 fun _=>true).length=8:=by decide
 revert e
 generalize (iy 8 fun _=>true)=l at h
 intro e
 have:∃ ns:List Int,ns.length=l.length∧ys=bM ns:=by
  clear e
  induction h with
  | nil=>exact⟨[],rfl,rfl⟩
  | cons a _ ih=>
   obtain⟨n,rfl⟩:=a
   refine ai ih fun ns h1 h2_=>?_;clear ih;obtain rfl:=h2_
   exact⟨n::ns,by simp [h1],rfl⟩
 rwa [e]at this
theorem pF{ds:List Nat}(h:ds.length=8):(List.range 8).map (fun k=>Value.str ⟨#[65+ds.getD k 0]⟩ 0)=ag (ds.map fun d=>⟨#[65+d]⟩):=by
 unfold ag
 rw [List.map_map]
 refine List.ext_getElem? fun k=>?_
 simp only [List.getElem?_map,Function.comp_def]
 by_cases hk:k<8
 ·simp [List.getElem?_range hk,List.getD,List.getElem?_eq_getElem (show k<ds.length by exact ig hk h)]
 ·simp [hk,List.getElem?_eq_none (show ds.length≤k by exact t9 h hk)]
theorem oB(xs:List Str)(t:Nat):cut (ag xs) (some t) none=ag (xs.drop t):=by
 show((ag xs).take (ag xs).length).drop t=_
 rw [List.take_length];unfold ag;rw [List.map_drop]
theorem oA(xs:List Str)(t:Nat):cut (ag xs) none (some t)=ag (xs.take t):=by
 show((ag xs).take t).drop 0=_
 rw [List.drop_zero];unfold ag;rw [List.map_take]
theorem mE{f:Nat→Str}{P:Str→Addr→Prop}:∀ {l:List Nat} {es:List (Str×Value)},es.map (·.1)=l.map f→Paired (fun k v=> ∃ a,v=Value.ref a∧P (f k) a) l (es.map (·.2))→ ∀ x∈l.map f,∃ a,valueAt es x=some (.ref a)∧P x a
 | [],_,_,_,x,hx=>by cases hx
 | i::l,[],h,_,_,_=>by simp at h
 | i::l,(k,v)::r,h,hp,x,hx=>by
  simp only [List.map_cons,List.cons.injEq]at h
  obtain⟨h1,h2⟩:=h
  cases hp with
  | cons ha hr=>
   refine ai ha fun a ea pa=>?_;clear ha
   dsimp only at ea
   by_cases e:k=x
   ·refine⟨a,?_,by rw [← e,h1];exact pa⟩
    unfold valueAt
    rw [List.find?_cons_of_pos (by simpa using e),Option.map_some,ea]
   ·have hx':x∈l.map f:=by
     rcases List.mem_cons.mp hx with q | q
     ·exact absurd (h1.trans q.symm) e
     ·exact q
    refine ai (mE h2 hr x hx') fun b hb pb=>?_
    refine⟨b,?_,pb⟩
    unfold valueAt at hb ⊢
    rw [List.find?_cons_of_neg (by simpa using e)]
    exact hb
theorem fF{ks ls:List Str}{f:Str→Str}(hl:ks.length=ls.length)(hm:∀ x∈ks,x∈ls):SameRows (aO ks f) (aO ls f):=by
 refine⟨by unfold aO;rw [List.length_map,List.length_map,hl],fun p hp=>?_⟩
 refine ai (List.mem_map.mp hp) fun x hx h2_=>?_;obtain rfl:=h2_
 exact⟨f x,rfl,dF (fun t=> .str (f t) 0) ls (hm x hx)⟩
theorem qX{ks:List Str}(hn:ks.Nodup)(h1:∀ x∈ks,x∈NM)(h2:∀ x∈NM,x∈ks):ks.length=8:=
 ((List.perm_ext_iff_of_nodup hn NM_nodup).mpr fun x=>⟨h1 x,h2 x⟩).length_eq
theorem xg{P:Nat→Prop}(h0:P 0)(h1:P 1)(h2:P 2)(h3:P 3)(h4:P 4)(h5:P 5)(h6:P 6)(h7:P 7)(h8:P 8):∀ k,k<9→P k:=fun k hk=>by
 rcases k with _ | _ | _ | _ | _ | _ | _ | _ | _ | k
 ·exact h0
 ·exact h1
 ·exact h2
 ·exact h3
 ·exact h4
 ·exact h5
 ·exact h6
 ·exact h7
 ·exact h8
 ·exact(t6 hk).elim
noncomputable def FX:List Int:= [75,148,9,256,307,41,118,190]
variable {D:Wd}{A:Around}
set_option maxHeartbeats 8000000 in
theorem vE{H:AH}{sl:Addr}{its:Array Value}{v:Value}{outer:List Env}(hA:Ok A 19)(hv:er v= .ref sl)(hsl:D.h₀.IsList sl its)(hi:AllInts its)(hvs:its.size≤1000)(hnb:NoneBooked D.h₀)(hfr:A.frames=some outer)(hon:FrOn H outer):
 Cd D A (.call (.ref 373) ⟨[v],[]⟩) (fun r H'=>Ext H H'∧r= .bool true) H:=by
 obtain rfl:=al hv
 refine Cd.fnC (fun P=>rfl) rfl (fun P=>rfl) rfl hA rfl (fun k x hx=>?_) (by decide) (fun L hL hA'=>?_)
 ·simp at hx;subst hx;exact .inr ⟨rfl,rfl⟩
 show W _ _ _ _ _ ⟨_,upd (upd (upd (upd (upd (upd (upd (upd (upd H (L+1) (.cell (some (.ref sl)))) (L+2) (.cell none)) (L+3) (.cell none)) (L+4) (.cell none)) (L+5) (.cell none)) (L+6) (.cell none)) (L+7) (.cell none)) (L+8) (.cell none)) (L+9) (.cell none)⟩
 have X:S9 H L (setN (fun _=>none) 0 (some (.ref sl))) [] (upd (upd (upd (upd (upd (upd (upd (upd (upd H (L+1) (.cell (some (.ref sl)))) (L+2) (.cell none)) (L+3) (.cell none)) (L+4) (.cell none)) (L+5) (.cell none)) (L+6) (.cell none)) (L+7) (.cell none)) (L+8) (.cell none)) (L+9) (.cell none)):=by
  have hn:∀ i:Nat,H (L+i)=none:=fun i=>hL _ (Nat.le_add_right ..)
  have x:Ext H (upd (upd (upd (upd (upd (upd (upd (upd (upd H (L+1) (.cell (some (.ref sl)))) (L+2) (.cell none)) (L+3) (.cell none)) (L+4) (.cell none)) (L+5) (.cell none)) (L+6) (.cell none)) (L+7) (.cell none)) (L+8) (.cell none)) (L+9) (.cell none)):=by
   repeat (first | exact Ext.refl _ | refine Ext.upd ?_ _ (hn _))
  refine⟨x,fun i _=>hn _,fun i hi=>?_,(fun p hp=>nomatch hp),(fun p hp=>nomatch hp)⟩
  refine xg (P:=fun i=>(upd (upd (upd (upd (upd (upd (upd (upd (upd H (L+1) (.cell (some (.ref sl)))) (L+2) (.cell none)) (L+3) (.cell none)) (L+4) (.cell none)) (L+5) (.cell none)) (L+6) (.cell none)) (L+7) (.cell none)) (L+8) (.cell none)) (L+9) (.cell none)) (L+(i+1))=some (.cell (setN (fun _=>none) 0 (some (.ref sl)) i))) ?_ ?_ ?_ ?_ ?_ ?_ ?_ ?_ ?_ i hi
  all_goals (repeat (first | exact ah .. | rw [af (aT L (by decide))]))
 generalize upd (upd (upd (upd (upd (upd (upd (upd (upd H (L+1) (.cell (some (.ref sl)))) (L+2) (.cell none)) (L+3) (.cell none)) (L+4) (.cell none)) (L+5) (.cell none)) (L+6) (.cell none)) (L+7) (.cell none)) (L+8) (.cell none)) (L+9) (.cell none)=H1 at X
 refine WB.fold3 ?_
 intro A1_ env1_ Q1_
 refine W.foldL ?_
 intro lc2_ q2_
 refine B.cons ?_
 refine S.assignTup hA'.hand ?_
 refine E.tuple ?_
 refine I.cons ?_
 refine E.list ?_
 refine I.cons (E.int ?_)
 refine I.cons (E.int ?_)
 refine I.cons (E.int ?_)
 refine I.cons (E.int ?_)
 refine I.cons (E.int ?_)
 refine I.cons (E.int ?_)
 refine I.cons (E.int ?_)
 refine I.cons (E.int ?_)
 refine I.nil ?_
 refine⟨by show 8≤sizeLine;decide,fun fx hfx=>?_⟩
 have hfx:H1 fx=none:=hfx
 have X2:=(X.mono (aa (o:= .list (bM FX)) hfx)).add (a:=fx) (ao:= .list (bM FX)) (ah ..) (nc rfl)
 show WI _ _ _ _ _ _ _ ⟨_,upd H1 fx (.list (bM FX))⟩
 generalize upd H1 fx (.list (bM FX))=H2 at X2
 refine I.cons (E.callB (id:= "sum") (fun P=>rfl) (by kernel_rfl) (I.cons (E.cell (v:= .ref sl) rfl (X2.cl 0 (by decide)) (I.nil (F.sumBase hA'.hand hsl hi fun turn=>?_)))))
 refine I.nil ⟨bZ,fun tp htp=>?_⟩
 have htp:H2 tp=none:=htp
 refine⟨tp,_,rfl,ah ..,rfl,?_⟩
 intro v1 hv1
 have X3:=X2.mono (aa (o:= .tuple [.ref fx,.int turn 0]) htp)
 refine W.assignCell (c:=L+2) rfl (X3.cl 1 (by decide)) ?_
 rw [hv1]
 have X4:=X3.set 1 (by decide) (some (.ref fx))
 show InOrder _ _ _ _ _ _ ⟨_,upd (upd H2 tp (.tuple [.ref fx,.int turn 0])) (L+(1+1)) (.cell (some (.ref fx)))⟩
 generalize upd (upd H2 tp (.tuple [.ref fx,.int turn 0])) (L+(1+1)) (.cell (some (.ref fx)))=H4 at X4
 intro v2 hv2
 refine W.assignLocal ?_
 simp only [hv2]
 clear X X2 X3
 refine W.hl fun hLn=>?_
 dsimp only at hLn
 refine W.foldL ?_
 intro lc3_ q3_
 refine B.cons (S.assignCell (c:=L+3) rfl (E.listComp (cl:= [("script",L+1),("fixed",L+2)]) rfl (It.range hA'.hand (E.int ⟨8,rfl,by decide,?_⟩) (fun P=>rfl) (by kernel_rfl))))
 refine⟨by decide,fun _=>true,fun k v _=> ∃ n:Int,v= .int n 0,fun k v H H' q _=>q,?_,?_⟩
 ·intro C k mm H' hk hC hext
  show ∀ v,er v= .int k 0→_
  intro v hv
  have Y:=X4.mono ((aa (o:= .ns _) hLn).trans hext)
  refine W.assignLocal (L:=C) ?_
  rw [hv]
  refine W.testsNil ⟨rfl,?_⟩
  rw [if_pos rfl]
  have hfx:=Y.ob (fx,.list (bM FX)) (.head _)
  have hk8:k<(bM FX).length:=hk
  have hkv:(bM FX).getD k .none= .int (FX.getD k 0) 0:=by unfold bM;simp [List.getD,show k<FX.length from hk]
  refine E.binop ?_
  refine E.sub (T:= "list") (id:= "list.__getitem__") (by kernel_rfl) (E.cell (v:= .ref fx) rfl (Y.cl 1 (by decide)) (E.local (L:=C) (v:= .int k 0) rfl ⟨⟨_,hfx,rfl⟩,O.itemList hfx hk8 (by exact m5 hk) ?_⟩)) (by intro _ _;rfl)
  rw [hkv]
  refine E.callB (id:= "sum") (fun P=>rfl) (by kernel_rfl) (I.cons ?_)
  refine E.sliceBase (E.cell (v:= .ref sl) rfl (Y.cl 0 (by decide)) (E.local (L:=C) (v:= .int k 0) rfl (E.int ⟨sl,its,k,8,rfl,rfl,rfl,by decide,hsl,hi,bQ (by exact t5 hvs),fun vs' hm a ha=>?_⟩)))
  refine I.nil (F.sumInts (l:=a) (vs:=vs') hA'.hand (ah ..) hm fun n=>?_)
  refine O.addII ?_
  exact⟨aa ha,_,rfl⟩
 intro na H5 ys e5 hna hH5 hys
 refine ai (jn hys) fun ns hns h2_=>?_;obtain rfl:=h2_
 have X5:=(X4.mono e5).add hH5 (nc rfl)
 clear X4
 refine⟨_,X5.cl 2 (by decide),?_⟩
 have X6:=X5.set 2 (by decide) (some (.ref na))
 show WB _ _ _ _ _ _ ⟨_,upd H5 (L+(2+1)) (.cell (some (.ref na)))⟩
 generalize upd H5 (L+(2+1)) (.cell (some (.ref na)))=H6 at X6
 clear X5
 have l8:(dA ns).length=8:=by unfold dA;rw [List.length_map,hns]
 have hnum:nR ns 0=(j6 (dA ns) 0:Int):=jr ns 0
 have hlt:j6 (dA ns) 0<16 ^ 8:=by
  have:=nv (dA ns) 0 0 (fun d hd=>Nat.lt_trans (iB ns d hd) (by decide)) (by decide)
  rwa [l8]at this
 have hword:nW (j6 (dA ns) 0)=⟨((dA ns).map (65+ ·)).toArray⟩:=by
  unfold nW
  rw [ja 8 (dA ns) l8 fun d hd=>Nat.lt_trans (iB ns d hd) (by decide)]
 refine W.foldL ?_
 intro lc4_ q4_
 refine B.cons (S.assignCell (c:=L+4) rfl (E.callFn (f:=308) (fun P=>rfl) (fun P=>rfl) (I.cons (E.callFn (f:=303) (fun P=>rfl) (fun P=>rfl) (I.cons (E.cell (v:= .ref na) rfl (X6.cl 2 (by decide)) (I.nil ?_)))))))
 intro vs' hvs' hLn6
 refine d7 hvs' fun w1 ew1=>?_
 refine Cd.val hLn6 ((oK (hA'.mono (by decide)) ((aa hLn6) _ _ X6.head) (by exact tz hns) ew1).mono fun r H'=>gD fun e q=>⟨e▸Ext.refl _,q⟩) (fun H7 e7=>?_)
 have X7:=X6.mono e7
 clear X6
 rw [hnum]
 refine I.nil ?_
 intro vs' hvs' hLn7
 refine d7 hvs' fun w1 ew1=>?_
 refine Cd.val hLn7 (qY (hA'.mono (by decide)) ew1 hlt) (fun H8 e8=>?_)
 have X8:=X7.mono e8
 clear X7
 rw [hword]
 refine⟨_,X8.cl 3 (by decide),?_⟩
 have X9:=X8.set 3 (by decide) (some (.str ⟨((dA ns).map (65+ ·)).toArray⟩ 0))
 show WB _ _ _ _ _ _ ⟨_,upd H8 (L+(3+1)) (.cell (some (.str ⟨((dA ns).map (65+ ·)).toArray⟩ 0)))⟩
 generalize upd H8 (L+(3+1)) (.cell (some (.str ⟨((dA ns).map (65+ ·)).toArray⟩ 0)))=H9 at X9
 clear X8
 refine W.foldL ?_
 intro lc5_ q5_
 refine B.cons (S.iteF (T.compare (E.cell (v:= .str ⟨((dA ns).map (65+ ·)).toArray⟩ 0) rfl (X9.cl 3 (by decide)) ?_)))
 refine E.meth (T:= "str") (id:= "str.join") F.plainAttrs_str F.slot_str_join (by kernel_rfl) (E.str ⟨rfl,I.cons (E.compIdx (cl:= []) rfl (It.list hA'.hand (E.cell (v:= .ref na) rfl (X9.cl 2 (by decide)) ⟨na,_,rfl,X9.head,?_⟩)))⟩)
 have il:(bM ns).length=8:=by unfold bM;rw [List.length_map,hns]
 refine⟨by rw [il];decide,fun k=>(bM ns).getD k .none,fun k=> .str ⟨#[65+(dA ns).getD k 0]⟩ 0,fun k=>rfl,?_,?_⟩
 ·intro C k mm H' hk hC hext
  rw [il]at hk
  have hkn:(bM ns).getD k .none= .int (ns.getD k 0) 0:=by unfold bM;simp [List.getD,show k<ns.length by exact ig hk hns]
  have hfk:(dA ns).getD k 0=((ns.getD k 0).fmod 8).toNat:=by unfold dA;simp [List.getD,show k<ns.length by exact ig hk hns]
  simp only [hkn,hfk]
  generalize ns.getD k 0=n
  have h1:0≤n.fmod 8:=Int.fmod_nonneg_of_pos n (by decide)
  have h2:n.fmod 8<8:=Int.fmod_lt_of_pos n (by decide)
  have e8:n.fmod 8=((n.fmod 8).toNat:Int):=by exact qx h1
  have h3:(n.fmod 8).toNat<8:=by exact pt h2
  generalize (n.fmod 8).toNat=d at e8 h3
  have hc:(Str.ofString "ABCDEFGH").cps[d]?=some (65+d):=by
   have:∀ d,d<8→(Str.ofString "ABCDEFGH").cps[d]?=some (65+d):=by decide+kernel
   exact this d h3
  refine E.sub (T:= "str") (id:= "str.__getitem__") (by kernel_rfl) (E.str (E.binop (E.local (L:=C) (v:= .int n 0) rfl (E.int (O.modII (by decide) ?_))))) (by intro _ _;rfl)
  rw [e8]
  exact⟨rfl,O.itemStr hc (by exact qw h3) ⟨rfl,Ext.refl _⟩⟩
 intro jl H10 e10 hjl hH10
 rw [il]at hH10
 have hjs:(List.range 8).map (fun k=>Value.str ⟨#[65+(dA ns).getD k 0]⟩ 0)=ag ((dA ns).map fun d=>⟨#[65+d]⟩):=pF l8
 rw [hjs]at hH10
 have X10:=X9.mono e10
 clear X9
 have hjoin:Txt.join (Str.ofString "") ((dA ns).map fun d=>⟨#[65+d]⟩)=⟨((dA ns).map (65+ ·)).toArray⟩:=bb (by
  rw [iR,k9,List.flatMap_map]
  generalize dA ns=l
  induction l with
  | nil=>rfl
  | cons d r ih=>rw [List.flatMap_cons,ih];rfl)
 refine I.nil (M.join hH10 ?_ ?_)
 ·exact du (by decide) (fun x hx=>by refine ai (List.mem_map.mp hx) fun d _ h2_=>?_;obtain rfl:=h2_;show 1≤1000;decide) (by rw [List.length_map,l8];decide)
 rw [hjoin]
 refine O.neSS ⟨_,rfl,by rw [bne_self_eq_false],B.nil ?_⟩
 refine W.foldL ?_
 intro lc6_ q6_
 refine B.cons (S.assignCell (c:=L+5) rfl (E.callFn (f:=289) (fun P=>rfl) (fun P=>rfl) (I.nil ?_)))
 intro vs' hvs' hLn10
 obtain rfl:=map_nil hvs'
 refine Cd.new hLn10 (kE (hA'.mono (by decide))) (fun nm H11 e11 hnm hH11=>?_)
 have X11:=(X10.mono e11).add hH11 (nc rfl)
 clear X10
 refine⟨_,X11.cl 4 (by decide),?_⟩
 have X12:=X11.set 4 (by decide) (some (.ref nm))
 show WB _ _ _ _ _ _ ⟨_,upd H11 (L+(4+1)) (.cell (some (.ref nm)))⟩
 generalize upd H11 (L+(4+1)) (.cell (some (.ref nm)))=H12 at X12
 clear X11
 refine W.hl fun hLn12=>?_
 dsimp only at hLn12
 refine W.foldL ?_
 intro lc7_ q7_
 refine B.cons (S.assignCell (c:=L+6) rfl (E.dictComp (cl:= [("word",L+4),("names",L+5)]) rfl (It.range hA'.hand (E.int ⟨8,rfl,by decide,?_⟩) (fun P=>rfl) (by kernel_rfl))))
 refine⟨by decide,fun k=>NM.getD k default,fun k v _=>v= .str (gF ns (NM.getD k default)) 0,fun k v H H' q _=>q,by decide+kernel,?_,?_⟩
 ·intro C k mm H' hk hC hext
  show ∀ v,er v= .int k 0→_
  intro v hv
  have Y:=X12.mono ((aa (o:= .ns _) hLn12).trans hext)
  refine W.assignLocal (L:=C) ?_
  rw [hv]
  have hk':k<NM.length:=hk
  refine E.sub (T:= "list") (id:= "list.__getitem__") (by kernel_rfl) (E.cell (v:= .ref nm) rfl (Y.cl 4 (by decide)) (E.local (L:=C) (v:= .int k 0) rfl ⟨⟨_,Y.head,rfl⟩,O.itemList Y.head (by rw [ae];exact hk') (by exact m5 hk) ?_⟩)) (by intro _ _;rfl)
  rw [ax hk']
  refine⟨rfl,?_⟩
  have hd:(dA ns).getD k 0<8:=iB ns _ (by simp [List.getD,show k<(dA ns).length by exact ig hk l8])
  have hc:(⟨((dA ns).map (65+ ·)).toArray⟩:Str).cps[k]?=some (65+(dA ns).getD k 0):=by simp [List.getD,show k<(dA ns).length by exact ig hk l8]
  have egf:NM.getD ((dA ns).getD k 0) default=gF ns (NM.getD k default):=(vC ns hk).symm
  generalize (dA ns).getD k 0=d at hd hc egf
  have hd':d<NM.length:=hd
  have ho:Builtin.Str.occurrences (Str.ofString "ABCDEFGH") ⟨#[65+d]⟩ 0 (Str.ofString "ABCDEFGH").length 1= [d]:=by
   have:∀ d,d<8→Builtin.Str.occurrences (Str.ofString "ABCDEFGH") ⟨#[65+d]⟩ 0 (Str.ofString "ABCDEFGH").length 1= [d]:=by decide+kernel
   exact this d hd
  refine E.sub (T:= "list") (id:= "list.__getitem__") (by kernel_rfl) (E.cell (v:= .ref nm) rfl (Y.cl 4 (by decide)) ?_) (by intro _ _;rfl)
  refine E.meth (T:= "str") (id:= "str.index") F.plainAttrs_str F.slot_str_index (by kernel_rfl) (E.str ⟨rfl,I.cons (E.sub (T:= "str") (id:= "str.__getitem__") (by kernel_rfl) (E.cell (v:= .str ⟨((dA ns).map (65+ ·)).toArray⟩ 0) rfl (Y.cl 3 (by decide)) (E.local (L:=C) (v:= .int k 0) rfl ⟨rfl,O.itemStr hc (by exact qw hk) (I.nil (M.index ho ⟨⟨_,Y.head,rfl⟩,O.itemList Y.head (by rw [ae];exact hd') (by exact m5 hd) ?_⟩))⟩)) (by intro _ _;rfl))⟩)
  rw [ax hd',egf]
  exact⟨Ext.refl _,rfl⟩
 intro ga H13 es epg e13 hga hH13 hks hvs2
 have hes:es=d9 (gF ns):=cf (ks:=NM) (f:=gF ns) hks hvs2
 subst hes
 have X13:=(X12.mono e13).add hH13 (nc rfl)
 clear X12
 refine⟨_,X13.cl 5 (by decide),?_⟩
 have X14:=X13.set 5 (by decide) (some (.ref ga))
 show WB _ _ _ _ _ _ ⟨_,upd H13 (L+(5+1)) (.cell (some (.ref ga)))⟩
 generalize upd H13 (L+(5+1)) (.cell (some (.ref ga)))=H14 at X14
 clear X13
 have hg:=pK ns
 generalize gF ns=g at X14 hg
 have t0:0≤turn.fmod 8:=Int.fmod_nonneg_of_pos turn (by decide)
 have t8:turn.fmod 8<8:=Int.fmod_lt_of_pos turn (by decide)
 have et:turn.fmod 8=((turn.fmod 8).toNat:Int):=by exact qx t0
 have tl8:(turn.fmod 8).toNat<8:=by exact pt t8
 have hnm14:=X14.tail.head
 refine W.foldL ?_
 intro lc8_ q8_
 refine B.cons (S.assign (E.binop (E.sliceList (E.cell (v:= .ref nm) rfl (X14.cl 4 (by decide)) (.some (E.binop (E.local (v:= .int turn 0) rfl (E.int (O.modII (by decide) ⟨(turn.fmod 8).toNat,by rw [← et],.none ⟨nm,ag NM,rfl,hnm14,by decide,?_,?_,?_,?_⟩⟩)))))))))
 ·show(turn.fmod 8).toNat≤8;exact qv tl8
 ·exact Nat.le_refl _
 ·show(turn.fmod 8).toNat≤8;exact qv tl8
 generalize (turn.fmod 8).toNat=tn at et tl8
 intro c1 hc1
 have hc1:H14 c1=none:=hc1
 have X15:=(X14.mono (aa (o:= .list (cut (ag NM) (some tn) none)) hc1)).add (a:=c1) (ao:= .list (ag (NM.drop tn))) (by rw [ah,oB]) (nc rfl)
 show WE _ _ _ _ _ ⟨_,upd H14 c1 (.list (cut (ag NM) (some tn) none))⟩
 generalize upd H14 c1 (.list (cut (ag NM) (some tn) none))=H15 at X15
 clear X14
 refine E.sliceList (E.cell (v:= .ref nm) rfl (X15.cl 4 (by decide)) (.none (.some (E.binop (E.local (v:= .int turn 0) rfl (E.int (O.modII (by decide) ⟨tn,by rw [et],nm,ag NM,rfl,X15.tail.tail.head,by decide,?_,?_,?_,?_⟩)))))))
 ·exact Nat.zero_le _
 ·show tn≤8;exact ty tl8
 ·exact Nat.zero_le _
 intro c2 hc2
 have hc2:H15 c2=none:=hc2
 have X16:=(X15.mono (aa (o:= .list (cut (ag NM) none (some tn))) hc2)).add (a:=c2) (ao:= .list (ag (NM.take tn))) (by rw [ah,oA]) (nc rfl)
 show W2 _ _ _ _ _ _ _ ⟨_,upd H15 c2 (.list (cut (ag NM) none (some tn)))⟩
 generalize upd H15 c2 (.list (cut (ag NM) none (some tn)))=H16 at X16
 clear X15
 refine O.addLists X16.tail.head X16.head ?_ fun od hod=>?_
 ·rw [ae,ae,List.length_drop,List.length_take]
  show 8-tn+min tn 8≤sizeLine
  exact aq (by exact tw)
 have hod:H16 od=none:=hod
 have X17:=(X16.mono (aa (o:= .list (ag (NM.drop tn)++ag (NM.take tn))) hod)).add (a:=od) (ao:= .list (ag (jq tn))) (by rw [ah,bk];rfl) (nc rfl)
 show WB _ _ _ _ _ _ ⟨_,upd H16 od (.list (ag (NM.drop tn)++ag (NM.take tn)))⟩
 generalize upd H16 od (.list (ag (NM.drop tn)++ag (NM.take tn)))=H17 at X17
 clear X16
 have Od:=p9 tn tl8
 have ol8:(jq tn).length=8:=by unfold jq;rw [List.length_append,List.length_drop,List.length_take];show 8-tn+min tn 8=8;exact tq
 generalize jq tn=order at X17 Od ol8
 refine S9.gen X17 ?_;clear X17;intro m_ o_ X17
 refine W.foldL ?_
 intro lc9_ q9_
 refine B.cons (S.assignCell (c:=L+7) rfl (E.callFn (f:=320) (fun P=>rfl) (fun P=>rfl) (I.cons (E.cell (v:= .ref ga) rfl (X17.cl 5 (by decide)) (I.nil ?_)))))
 intro vs' hvs' hLn17
 refine d7 hvs' fun w1 ew1=>?_
 refine Cd.new hLn17 (oI (hA'.mono (by decide)) ew1 ((aa hLn17) _ _ X17.tail.tail.tail.head) hg) (fun rg H18 e18 hrg hH18=>?_)
 have X18:=(X17.mono e18).add hH18 (nc rfl)
 clear X17
 refine S9.gen X18 ?_;clear X18;intro m_ o_ X18
 refine⟨_,X18.cl 6 (by decide),?_⟩
 have X19:=X18.set 6 (by decide) (some (.ref rg))
 show WB _ _ _ _ _ _ ⟨_,upd H18 (L+(6+1)) (.cell (some (.ref rg)))⟩
 generalize upd H18 (L+(6+1)) (.cell (some (.ref rg)))=H19 at X19
 clear X18
 refine S9.gen X19 ?_;clear X19;intro m_ o_ X19
 obtain⟨o0,rest,ho⟩:∃ o0 rest,order=o0::rest:=by
  cases order with
  | nil=>cases ol8
  | cons a r=>exact⟨a,r,rfl⟩
 refine W.foldL ?_
 intro lc10_ q10_
 refine B.cons (S.assign (E.callFn (f:=358) (fun P=>rfl) (fun P=>rfl) (I.cons (E.cell (v:= .ref ga) rfl (X19.cl 5 (by decide)) (I.cons (E.local (v:= .ref od) rfl (I.cons (E.cell (v:= .ref rg) rfl (X19.cl 6 (by decide)) (I.nil ?_)))))))))
 intro vs' hvs' hLn19
 refine vX hvs' fun w1 ew1 w2 ew2 w3 ew3=>?_
 refine Cd.new hLn19 (oJ (hA'.mono (by decide)) ew1 ew2 ew3 ((aa hLn19) _ _ X19.tail.tail.tail.tail.head) ((aa hLn19) _ _ X19.tail.head) ((aa hLn19) _ _ X19.head) hg Od ho (Around.frames_deeper hfr) ?_) (fun gv H20 e20 hgv hH20=>?_)
 ·refine FrOn.push (fun env he=>?_) hLn19 rfl (by show ScopeKind.function≠ScopeKind.module;decide)
  refine cq (hon env he) fun a L' m b c=>?_
  exact⟨a,L',m,b,X19.ext _ _ c⟩
 have X20:=(X19.mono e20).add hH20 (nc rfl)
 clear X19
 refine S9.gen X20 ?_;clear X20;intro m_ o_ X20
 refine W.foldL ?_
 intro lc11_ q11_
 refine B.cons (S.iteF (T.compare (E.local (v:= .ref gv) rfl (E.none (O.isNone ⟨_,rfl,by simp,B.nil ?_⟩)))))
 refine W.foldL ?_
 intro lc12_ q12_
 refine B.cons ?_
 refine S.assignTup hA'.hand ?_
 refine E.callFn (f:=363) (fun P=>rfl) (fun P=>rfl) (I.cons (E.cell (v:= .ref ga) rfl (X20.cl 5 (by decide)) (I.cons (E.local (v:= .ref gv) rfl (I.nil ?_)))))
 intro vs' hvs' hLn20
 refine eA hvs' fun w1 ew1 w2 ew2=>?_
 refine(rf (hA'.mono (by decide)) ew1 ew2 ((aa hLn20) _ _ X20.tail.tail.tail.tail.tail.head) ((aa hLn20) _ _ X20.head) hg Od).mono ?_
 rintro r H21 h2_;refine gd h2_ fun e21 tp rd0 epr h24_ htp hrd0 hHtp hHrd=>?_;clear h2_;obtain rfl:=h24_
 have hL21:=e21 _ _ (ah ..)
 have nL:∀ {a:Addr} {o:AO},upd H20 L o a=none→a≠L:=fun h e=>by rw [e,ah]at h;cases h
 have ntp:tp≠L:=nL htp
 have nrd:rd0≠L:=nL hrd0
 have e22:Ext H20 (del H21 L):=((aa hLn20).trans e21).del hLn20
 have hH22:(del H21 L) rd0=_:=(ay nrd).trans hHrd
 have X22:=(X20.mono e22).add hH22 (nc rfl)
 have ht22:(del H21 L) tp=_:=(ay ntp).trans hHtp
 clear X20
 refine S9.gen X22 ?_;clear X22;intro m_ o_ X22
 refine⟨hL21,tp,_,rfl,ht22,rfl,?_⟩
 intro v1 hv1
 refine W.assignCell (c:=L+8) rfl (X22.cl 7 (by decide)) ?_
 rw [hv1]
 have X23:=X22.set 7 (by decide) (some (.ref rd0))
 show InOrder _ _ _ _ _ _ ⟨_,upd (del H21 L) (L+(7+1)) (.cell (some (.ref rd0)))⟩
 generalize upd (del H21 L) (L+(7+1)) (.cell (some (.ref rd0)))=H23 at X23
 clear X22
 refine S9.gen X23 ?_;clear X23;intro m_ o_ X23
 intro v2 hv2
 refine W.assignLocal ?_
 simp only [hv2]
 refine W.hl fun hLn23=>?_
 dsimp only at hLn23
 refine W.foldL ?_
 intro lc13_ q13_
 refine B.cons (S.assignCell (c:=L+9) rfl (E.dictComp (cl:= [("ringed",L+7),("goes",L+6)]) rfl (It.list hA'.hand (E.local (v:= .ref od) rfl ⟨od,_,rfl,X23.tail.tail.tail.head,?_⟩))))
 rw [ae,ol8]
 refine⟨by decide,fun k=>order.getD k default,fun k v H=> ∃ a,v= .ref a∧H a=some (.tuple [.str (bt g (am g) (order.getD k default)) 0,.str (eJ g (order.getD k default)) 0]),fun k v H H'=>ar fun a e q x=>⟨a,e,x _ _ q⟩,?_,?_,?_⟩
 ·rw [← ol8,bA];exact Od.nd
 ·intro C k mm H' hk hC hext
  show ∀ v,er v=(ag order).getD k .none→_
  intro v hv
  have hk':k<order.length:=by exact ig hk ol8
  rw [ax hk']at hv
  have Y:=X23.mono ((aa (o:= .ns _) hLn23).trans hext)
  refine W.assignLocal (L:=C) ?_
  rw [hv]
  refine E.local (L:=C) (v:= .str (order.getD k default) 0) rfl ⟨rfl,?_⟩
  have hx:order.getD k default∈NM:=(Od.mem _).mp (aF hk')
  refine E.callFn (L:=C) (f:=325) (fun P=>rfl) (fun P=>rfl) (I.cons (E.cell (v:= .ref ga) rfl (Y.cl 5 (by decide)) (I.cons (E.cell (v:= .ref rg) rfl (Y.cl 6 (by decide)) (I.cons (E.local (L:=C) (v:= .str (order.getD k default) 0) rfl (I.nil ?_)))))))
  intro vs' hvs' hLc
  refine vX hvs' fun w1 ew1 w2 ew2 w3 ew3=>?_
  refine Cd.new hLc (qZ (hA'.mono (by decide)) ew1 ew2 ew3 ((aa hLc) _ _ Y.tail.tail.tail.tail.tail.tail.head) ((aa hLc) _ _ Y.tail.tail.head) hg (bP hg) dW hx (gj hg hx) ((cw hg).mpr (gj hg hx))) (fun a H'' e ha hHa=>?_)
  have na:a≠L:=fun q=>by subst q;exact nomatch ha.symm.trans (hext _ _ (ah ..))
  exact⟨e,a,rfl,by rw [ay na];exact hHa⟩
 intro td H24 es eptd e24 htd hH24 hks hvs24
 have told:∀ x∈order,∃ a,valueAt es x=some (.ref a)∧H24 a=some (.tuple [.str (bt g (am g) x) 0,.str (eJ g x) 0]):=by
  have:=mE (f:=fun k=>order.getD k default) (P:=fun x a=>H24 a=some (.tuple [.str (bt g (am g) x) 0,.str (eJ g x) 0])) hks hvs24
  rw [← ol8,bA]at this
  exact this
 have X24:=(X23.mono e24).add hH24 (nc rfl)
 clear X23 hks hvs24
 refine⟨_,X24.cl 8 (by decide),?_⟩
 have X25:=X24.set 8 (by decide) (some (.ref td))
 have told:∀ x∈order,∃ a,valueAt es x=some (.ref a)∧(upd H24 (L+(8+1)) (.cell (some (.ref td)))) a=some (.tuple [.str (bt g (am g) x) 0,.str (eJ g x) 0]):=fun x hx=>by
  refine ai (told x hx) fun a h1 h2=>?_
  exact⟨a,h1,(af (aA h2 (X24.cl 8 (by decide)))).trans h2⟩
 show WB _ _ _ _ _ _ ⟨_,upd H24 (L+(8+1)) (.cell (some (.ref td)))⟩
 generalize upd H24 (L+(8+1)) (.cell (some (.ref td)))=H25 at X25 told
 clear X24
 refine S9.gen X25 ?_;clear X25;intro m_ o_ X25
 refine W.hl fun hLn25=>?_
 dsimp only at hLn25
 refine W.foldL ?_
 intro lc14_ q14_
 refine B.cons (S.iteF (T.compare (E.cell (v:= .ref rd0) rfl (X25.cl 7 (by decide)) ?_)))
 refine E.dictComp (cl:= [("told",L+9)]) rfl (It.list hA'.hand (E.local (v:= .ref od) rfl ⟨od,_,rfl,X25.tail.tail.tail.tail.head,?_⟩))
 rw [ae,ol8]
 refine⟨by decide,fun k=>order.getD k default,fun k v H=>v= .str (bt g (am g) (order.getD k default)) 0,fun k v H H' q _=>q,?_,?_,?_⟩
 ·rw [← ol8,bA];exact Od.nd
 ·intro C k mm H' hk hC hext
  show ∀ v,er v=(ag order).getD k .none→_
  intro v hv
  have hk':k<order.length:=by exact ig hk ol8
  rw [ax hk']at hv
  have e':=(aa (o:= .ns _) hLn25).trans hext
  have Y:=X25.mono e'
  refine ai (told _ (aF hk')) fun a va ha=>?_
  have ha:=e' _ _ ha
  refine W.assignLocal (L:=C) ?_
  rw [hv]
  refine E.local (L:=C) (v:= .str (order.getD k default) 0) rfl ⟨rfl,?_⟩
  refine E.sub (T:= "tuple") (id:= "tuple.__getitem__") (by kernel_rfl) (E.sub (T:= "dict") (id:= "dict.__getitem__") (by kernel_rfl) (E.cell (v:= .ref td) rfl (Y.cl 8 (by decide)) (E.local (L:=C) (v:= .str (order.getD k default) 0) rfl ⟨⟨_,Y.head,rfl⟩,O.itemDict Y.head va (E.int ⟨⟨_,ha,rfl⟩,O.itemTuple (k:=0) ha (by show 0<2;decide) (by decide) ⟨Ext.refl _,rfl⟩⟩)⟩)) (by intro _ _;rfl)) (by intro _ _;rfl)
 intro rb H26 fs epf e26 hrb hH26 hks hvs26
 have hfs:fs=aO order (bt g (am g)):=cf (ks:=order) (f:=bt g (am g)) (by rw [ol8];exact hks) (by rw [ol8];exact hvs26)
 subst hfs
 clear hks hvs26
 have X26:=X25.mono e26
 clear X25
 have told:∀ x∈order,∃ a,valueAt es x=some (.ref a)∧H26 a=some (.tuple [.str (bt g (am g) x) 0,.str (eJ g x) 0]):=fun x hx=>by
  refine ai (told x hx) fun a h1 h2=>?_
  exact⟨a,h1,e26 _ _ h2⟩
 have kN:∀ x∈aj g++(an g order).reverse,x∈NM:=fun x hx=>by
  rcases List.mem_append.mp hx with q | q
  ·exact fD hg x q
  ·exact iA hg Od (List.mem_reverse.mp q)
 have k8:(aj g++(an g order).reverse).length=8:=qX (gU hg Od) kN fun x hx=>kW hg Od hx
 have hu:A.units+3+8<cLine:=by have:=hA.units;have:(9000:Nat)≤cLine:=by decide
                               omega
 refine O.neDicts (show A.units+3<cLine by exact to hu) X26.tail.head hH26 (fF (by rw [k8,ol8]) fun x hx=>(Od.mem x).mpr (kN x hx)) ⟨_,rfl,rfl,B.nil ?_⟩
 refine W.hl fun hLn26=>?_
 dsimp only at hLn26
 refine W.foldL ?_
 intro lc15_ q15_
 refine B.cons (S.assignListComp (cl:= [("roads",L+8),("numbers",L+3),("names",L+5)]) rfl (It.range hA'.hand (E.int ⟨8,rfl,by decide,?_⟩) (fun P=>rfl) (by kernel_rfl)))
 refine⟨by decide,fun _=>true,fun k v _=>v= .str (bh (rd (rdl g (NM.getD k default))) ((ns.getD k 0).fdiv 8)) 0,fun k v H H' q _=>q,?_,?_⟩
 ·intro C k mm H' hk hC hext
  show ∀ v,er v= .int k 0→_
  intro v hv
  have Y:=X26.mono ((aa (o:= .ns _) hLn26).trans hext)
  have hk':k<NM.length:=hk
  have hkn:k<ns.length:=by exact ig hk hns
  have hx:NM.getD k default∈NM:=aF hk'
  have hnv:(bM ns).getD k .none= .int (ns.getD k 0) 0:=by unfold bM;simp [List.getD,hkn]
  have hrv:valueAt (aO (aj g++(an g order).reverse) (bt g (am g))) (NM.getD k default)=some (.str (bt g (am g) (NM.getD k default)) 0):=dF (fun t=> .str (bt g (am g) t) 0) _ (kW hg Od hx)
  have hnm:=Y.ob (nm,.list (ag NM)) (by repeat' first | exact .head _ | refine .tail _ ?_)
  have hna:=Y.ob (na,.list (bM ns)) (by repeat' first | exact .head _ | refine .tail _ ?_)
  refine W.assignLocal (L:=C) ?_
  rw [hv]
  refine W.testsNil ⟨rfl,?_⟩
  rw [if_pos rfl]
  refine E.callFn (L:=C) (f:=296) (fun P=>rfl) (fun P=>rfl) (I.cons ?_)
  refine E.sub (T:= "dict") (id:= "dict.__getitem__") (by kernel_rfl) (E.cell (v:= .ref rd0) rfl (Y.cl 7 (by decide)) ?_) (by intro _ _;rfl)
  refine E.sub (T:= "list") (id:= "list.__getitem__") (by kernel_rfl) (E.cell (v:= .ref nm) rfl (Y.cl 4 (by decide)) (E.local (L:=C) (v:= .int k 0) rfl ⟨⟨_,hnm,rfl⟩,O.itemList hnm (by rw [ae];exact hk') (by exact m5 hk) ?_⟩)) (by intro _ _;rfl)
  rw [ax hk']
  refine⟨⟨_,Y.tail.head,rfl⟩,O.itemDict Y.tail.head hrv ?_⟩
  refine I.cons (E.binop (E.sub (T:= "list") (id:= "list.__getitem__") (by kernel_rfl) (E.cell (v:= .ref na) rfl (Y.cl 2 (by decide)) (E.local (L:=C) (v:= .int k 0) rfl ⟨⟨_,hna,rfl⟩,O.itemList hna (by unfold bM;rw [List.length_map];exact hkn) (by exact m5 hk) ?_⟩)) (by intro _ _;rfl)))
  rw [hnv]
  refine E.int (O.divII (by decide) (I.nil ?_) (PyProof.noPylong_small (by exact tm)))
  intro vs' hvs' hLc
  refine eA hvs' fun w1 ew1 w2 ew2=>?_
  have rm:=jS hg hx
  have lr:=bT rm.1 rm.2
  refine Cd.val hLc (jH (hA'.mono (by decide)) ew1 ew2 (by show(rd (rdl g (NM.getD k default))).length≤1000;exact qg lr) hnb) (fun H'' e=>⟨e,rfl⟩)
 intro tx H27 ys e27 htx hH27 hys
 have hys:=bH (f:=fun k=>Value.str (bh (rd (rdl g (NM.getD k default))) ((ns.getD k 0).fdiv 8)) 0) hys
 have htl:H27 tx=some (.list (ag (dS g fun k=>(ns.getD k 0).fdiv 8))):=by
  rw [hH27,hys]
  unfold dS ag
  rw [List.map_map];rfl
 clear hys hH27
 have X27:=(X26.mono e27).add htl (nc rfl)
 clear X26
 have told:∀ x∈order,∃ a,valueAt es x=some (.ref a)∧H27 a=some (.tuple [.str (bt g (am g) x) 0,.str (eJ g x) 0]):=fun x hx=>by
  refine ai (told x hx) fun a h1 h2=>?_
  exact⟨a,h1,e27 _ _ h2⟩
 refine W.foldL ?_
 intro lc16_ q16_
 refine B.cons (S.ret (E.compare ?_))
 refine E.callFn (f:=368) (fun P=>rfl) (fun P=>rfl) (I.cons (E.local (v:= .ref tx) rfl (I.cons ?_)))
 refine E.callFn (f:=296) (fun P=>rfl) (fun P=>rfl) (I.cons (E.local (v:= .str (rd (aj g)) 0) rfl (I.cons (E.local (v:= .int turn 0) rfl (I.nil ?_)))))
 intro vs' hvs' hLn27
 refine eA hvs' fun w1 ew1 w2 ew2=>?_
 have lsp:=bT (fD hg) (by have:=jf (g:=g);exact qu this)
 refine Cd.val hLn27 (jH (hA'.mono (by decide)) ew1 ew2 (by exact qg lsp) hnb) (fun H28 e28=>?_)
 have X28:=X27.mono e28
 clear X27
 refine I.nil ?_
 intro vs' hvs' hLn28
 refine eA hvs' fun w1 ew1 w2 ew2=>?_
 refine(re (hA'.mono (by decide)) ew1 ew2 ((aa hLn28) _ _ X28.head) hg).mono ?_
 rintro r H29 h2_;refine iM h2_ fun e29 ra ga2 da2 ep1 ep2 h26_ hra hHa hHg hHd=>?_;clear h2_;obtain rfl:=h26_
 have hL29:=e29 _ _ (ah ..)
 have na:ra≠L:=aA hHa hL29
 have ng:ga2≠L:=aA hHg hL29
 have nd:da2≠L:=aA hHd hL29
 refine⟨hL29,?_⟩
 have e30:Ext H28 (del H29 L):=((aa hLn28).trans e29).del hLn28
 have X30:=(((X28.mono e30).add ((ay na).trans hHa) (nc rfl)).add ((ay ng).trans hHg) (nc rfl)).add ((ay nd).trans hHd) (nc rfl)
 clear X28
 have told:∀ x∈order,∃ a,valueAt es x=some (.ref a)∧del H29 L a=some (.tuple [.str (bt g (am g) x) 0,.str (eJ g x) 0]):=fun x hx=>by
  refine ai (told x hx) fun a h1 h2=>?_
  exact⟨a,h1,e30 _ _ (e28 _ _ h2)⟩
 show WE _ _ _ _ _ ⟨_,del H29 L⟩
 generalize del H29 L=H30 at X30 told
 refine WE.hl fun hLn30=>?_
 dsimp only at hLn30
 refine E.tuple (I.cons (E.cell (v:= .ref ga) rfl (X30.cl 5 (by decide)) (I.cons ?_)))
 refine E.dictComp (cl:= [("told",L+9)]) rfl (It.list hA'.hand (E.local (v:= .ref od) rfl ⟨od,_,rfl,X30.ob (od,.list (ag order)) (by repeat' first | exact .head _ | refine .tail _ ?_),?_⟩))
 rw [ae,ol8]
 refine⟨by decide,fun k=>order.getD k default,fun k v H=>v= .str (eJ g (order.getD k default)) 0,fun k v H H' q _=>q,?_,?_,?_⟩
 ·rw [← ol8,bA];exact Od.nd
 ·intro C k mm H' hk hC hext
  show ∀ v,er v=(ag order).getD k .none→_
  intro v hv
  have hk':k<order.length:=by exact ig hk ol8
  rw [ax hk']at hv
  have e':=(aa (o:= .ns _) hLn30).trans hext
  have Y:=X30.mono e'
  have htd:=Y.ob (td,.dict es eptd) (by repeat' first | exact .head _ | refine .tail _ ?_)
  refine ai (told _ (aF hk')) fun a va ha=>?_
  have ha:=e' _ _ ha
  refine W.assignLocal (L:=C) ?_
  rw [hv]
  refine E.local (L:=C) (v:= .str (order.getD k default) 0) rfl ⟨rfl,?_⟩
  refine E.sub (T:= "tuple") (id:= "tuple.__getitem__") (by kernel_rfl) (E.sub (T:= "dict") (id:= "dict.__getitem__") (by kernel_rfl) (E.cell (v:= .ref td) rfl (Y.cl 8 (by decide)) (E.local (L:=C) (v:= .str (order.getD k default) 0) rfl ⟨⟨_,htd,rfl⟩,O.itemDict htd va (E.int ⟨⟨_,ha,rfl⟩,O.itemTuple (k:=1) ha (by show 1<2;decide) (by decide) ⟨Ext.refl _,rfl⟩⟩)⟩)) (by intro _ _;rfl)) (by intro _ _;rfl)
 intro db H31 fs epf e31 hdb hH31 hks hvs31
 have hfs:fs=aO order (eJ g):=cf (ks:=order) (f:=eJ g) (by rw [ol8];exact hks) (by rw [ol8];exact hvs31)
 subst hfs
 have X31:=X30.mono e31
 clear X30
 refine I.nil ⟨bZ,fun tp htp=>?_⟩
 have htp:H31 tp=none:=htp
 have e32:=aa (o:= .tuple [.ref ga,.ref db]) htp
 have X32:=(X31.mono e32).add (a:=tp) (ao:= .tuple [.ref ga,.ref db]) (ah ..) (nc rfl)
 have hdb32:=e32 _ _ hH31
 have hga:=X32.ob (ga,.dict (d9 g) epg) (by repeat' first | exact .head _ | refine .tail _ ?_)
 have kRn:(lT g).Nodup:=by
  unfold lT
  rw [List.nodup_append]
  exact⟨dq,NM_nodup.filter _,fun a ha b hb e=>by
   subst e
   have:=(List.mem_filter.mp hb).2
   simp only [decide_eq_true_eq]at this
   exact this ((bG hg).mpr ha)⟩
 have kRm:∀ x∈lT g,x∈NM:=fun x hx=>by
  rcases List.mem_append.mp hx with q | q
  ·exact bP hg x q
  ·exact(List.mem_filter.mp q).1
 have kR8:(lT g).length=8:=qX kRn kRm fun x hx=>by
  by_cases q:x∈aj g
  ·exact List.mem_append_left _ ((bG hg).mp q)
  ·exact List.mem_append_right _ (List.mem_filter.mpr ⟨hx,by simpa using q⟩)
 refine O.eqPairs (show A.units+3+8<cLine from hu) X32.tail.tail.tail.head X32.head X32.tail.tail.head X32.tail.head hga hdb32 ?_ ?_ ?_
 ·exact fF (ls:=NM) (f:=g) (by rw [kR8];rfl) kRm
 ·exact fF (by rw [ol8];rfl) fun x hx=>(Od.mem x).mpr hx
 ·intro v' hv'
  exact⟨X32.ext,hv'⟩
end Mine
end
section
open PySem PySem.W PyProof.Rows PySem.Calls PySem.SeqAt
namespace Mine
theorem my:∀ {vs:List Value} {ns:List Int},IntsAre vs ns→AllInts vs.toArray:=fun h=>h.allInts
theorem ou{w:World}{s₁:Shared}{sl:Addr}{its:Array Value}(S:Sta w s₁.heap)(hnb:NoneBooked s₁.heap)(hg:s₁.gens= #[])(hsl:s₁.heap.IsList sl its)(hi:AllInts its)(hn:its.size≤1000){E:Value→Shared→Prop}{Q:Value→Shared→Prop}
 (hq:∀ s',(∀ b o,s₁.heap.get? b=some o→s'.heap.get? b=some o)→s'.os=s₁.os→s'.gens= #[]→Q (.bool true) s'):
 wpAny (model PR w) callerA (call (.ref 373) [.ref sl]) Q E s₁:=by
 have R:Rel0 ⟨w,s₁.heap,s₁.os,S⟩ s₁.heap.get? (fun _=>none) s₁:=⟨fun _ _ e=>e,fun _ _ e=>e,fun _ _ e=>(nomatch e),rfl,hg,fun _ _ e=>(nomatch e)⟩
 have c:=vE (D:=⟨w,s₁.heap,s₁.os,S⟩) (A:=callerA) (H:=fun _=>none) (v:= .ref sl) (outer:= []) (ok_caller.mono (by decide)) rfl hsl hi hn hnb rfl (fun _ h=>nomatch h)
 refine wpAny_call (codeAny_mono (c _ _ R) fun r s'=>cG fun v H' e R' hx hv=>?_)
 subst e
 obtain rfl:=eR hv
 exact hq s' (fun b o e=>R'.frz _ _ e) R'.os R'.gens
theorem ri{w:World}{h:Heap}(K:(K0 w.params).In h)(n:∃ mc,h.Ns cStatics mc∧mc "sys.int_max_str_digits" =none)(e:∀ P,nsIn (K0 P) cStatics sharingNotToldKey=some none):NoneBooked h:=
 let⟨mc,h1,_⟩:=n;⟨mc,h1,ns_none_of K h1 (e _)⟩
namespace holds
theorem tw9552653394762517495:True:=⟨⟩
theorem tw389112392063156285:True:=⟨⟩
theorem tw13153363017490239224:True:=⟨⟩
theorem tw325598021589482433:True:=⟨⟩
theorem tw13173306291159398833:True:=⟨⟩
theorem tw7876405875691745619:True:=⟨⟩
theorem tw1710408800991569193:True:=⟨⟩
theorem tw4058053667012250377:True:=⟨⟩
theorem tw4567859567575816983:True:=⟨⟩
theorem tw4016813890401511103:True:=⟨⟩
theorem tw251209375202695290:True:=⟨⟩
theorem tw15516435843664858892:True:=⟨⟩
theorem tw16055276123995595159:True:=⟨⟩
theorem tw2615367622897502577:True:=⟨⟩
theorem tw685634667276709000:True:=⟨⟩
theorem tw8217837808669207805:True:=⟨⟩
theorem tw17094759248423572775:True:=⟨⟩
theorem tw12160635655254385198:True:=⟨⟩
theorem tw3864012138097595758:True:=⟨⟩
theorem tw1392175048253411870:True:=⟨⟩
theorem tw4772410448533662562:True:=⟨⟩
theorem tw13651502964188933756:True:=⟨⟩
theorem tw12306811582311103309:True:=⟨⟩
theorem tw15296638952792297585:True:=⟨⟩
theorem tw151567797773009622:True:=⟨⟩
theorem tw3083665863380995925:True:=⟨⟩
theorem tw6278366128872770721:True:=⟨⟩
theorem tw4021013208564600997:True:=⟨⟩
theorem tw13200177327426563521:True:=⟨⟩
theorem tw9855210162650666830:True:=⟨⟩
theorem tw10240100896771907615:True:=⟨⟩
theorem tw244668840739839672:True:=⟨⟩
theorem tw18173914834931495973:True:=⟨⟩
theorem tw13208604148985916543:True:=⟨⟩
theorem tw2667925813562934949:True:=⟨⟩
theorem tw5099458221760260784:True:=⟨⟩
theorem tw16880556292197207165:True:=⟨⟩
theorem tw4043779546988386903:True:=⟨⟩
theorem tw2929439407932294337:True:=⟨⟩
theorem tw15663057623668237757:True:=⟨⟩
theorem tw1092734292537931370:True:=⟨⟩
theorem tw6606875086121380550:True:=⟨⟩
theorem tw15464432741802594518:True:=⟨⟩
theorem tw4753448620645791293:True:=⟨⟩
theorem tw14404905868111484630:True:=⟨⟩
theorem tw11117366508609330709:True:=⟨⟩
theorem tw5619803957841784048:True:=⟨⟩
theorem tw17148229171239856432:True:=⟨⟩
theorem tw5225467491883748592:True:=⟨⟩
theorem tw17294395744611713098:True:=⟨⟩
theorem tw14062913937729191461:True:=⟨⟩
theorem tw6396523623945614605:True:=⟨⟩
theorem tw10705761992013847755:True:=⟨⟩
theorem tw16451975095625300501:True:=⟨⟩
theorem tw7942442253511216057:True:=⟨⟩
theorem tw14341210406198164329:True:=⟨⟩
theorem tw9647410926604887880:True:=⟨⟩
theorem tw12135579543755162760:True:=⟨⟩
theorem tw6674158366018852832:True:=⟨⟩
theorem tw5747684920607356772:True:=⟨⟩
theorem tw14786868411472786527:True:=⟨⟩
theorem tw4475622257904601326:True:=⟨⟩
theorem tw1446027475299390936:True:=⟨⟩
theorem tw2972900019843275892:True:=⟨⟩
theorem tw13860560629476652642:True:=⟨⟩
theorem tw11569915684508697678:True:=⟨⟩
theorem tw4532548537324856634:True:=⟨⟩
theorem tw10684964147190113176:True:=⟨⟩
theorem tw7944191787301449481:True:=⟨⟩
theorem tw12158838097934144204:True:=⟨⟩
theorem tw13373784697917265674:True:=⟨⟩
theorem tw4079574721724423606:True:=⟨⟩
theorem tw1438057683635843531:True:=⟨⟩
theorem tw5082999880386992228:True:=⟨⟩
theorem tw13602253286356535353:True:=⟨⟩
theorem tw9160933379109621080:True:=⟨⟩
theorem tw4046193847619289583:True:=⟨⟩
theorem tw5498966250228494579:True:=⟨⟩
theorem tw7516632072315021061:True:=⟨⟩
theorem tw15493915963290111440:True:=⟨⟩
theorem tw16239030619513480838:True:=⟨⟩
theorem tw945861476033566700:True:=⟨⟩
theorem tw9284948610034456067:True:=⟨⟩
theorem tw14432740918813763817:True:=⟨⟩
theorem tw12528141070781557109:True:=⟨⟩
theorem tw5878047611234877577:True:=⟨⟩
theorem tw1316056555746827224:True:=⟨⟩
theorem tw1357463484097335404:True:=⟨⟩
theorem tw2936799095737714382:True:=⟨⟩
theorem tw18145382148040430673:True:=⟨⟩
theorem tw10576265454180977796:True:=⟨⟩
theorem tw13334661261001831826:True:=⟨⟩
theorem tw10853043219271619230:True:=⟨⟩
theorem tw7129523546110730894:True:=⟨⟩
theorem tw1882270145967814011:True:=⟨⟩
theorem tw3339025504875072537:True:=⟨⟩
theorem tw17036864793530912301:True:=⟨⟩
theorem tw150268843892594924:True:=⟨⟩
theorem tw7400771686186127474:True:=⟨⟩
theorem tw14205006904943715905:True:=⟨⟩
theorem tw14456359579513077766:True:=⟨⟩
theorem tw6099975724469302500:True:=⟨⟩
theorem tw5857794014393010482:True:=⟨⟩
theorem tw14054693376921006050:True:=⟨⟩
theorem tw154871700347349385:True:=⟨⟩
theorem tw10828986214106111531:True:=⟨⟩
theorem tw9766128667603022514:True:=⟨⟩
theorem tw5959074840488112208:True:=⟨⟩
theorem tw6460966521098074893:True:=⟨⟩
theorem tw8868445881999480663:True:=⟨⟩
theorem tw9250495785965993271:True:=⟨⟩
theorem tw1508545211966159021:True:=⟨⟩
theorem tw6735552807121987811:True:=⟨⟩
theorem tw6654929391614583909:True:=⟨⟩
theorem tw2277698456845511444:True:=⟨⟩
theorem tw3210078786618844196:True:=⟨⟩
theorem tw14438757958421221462:True:=⟨⟩
theorem tw4399152324972305773:True:=⟨⟩
theorem tw4949047195023096438:True:=⟨⟩
theorem tw13980644296350529377:True:=⟨⟩
theorem tw1095465085569150570:True:=⟨⟩
theorem tw1639197193820686003:True:=⟨⟩
theorem tw16887932952891968693:True:=⟨⟩
theorem tw8115153917610635543:True:=⟨⟩
theorem tw16315053957116525436:True:=⟨⟩
theorem tw8571184235532366510:True:=⟨⟩
theorem tw11379536335273661636:True:=⟨⟩
theorem tw4659233104850659043:True:=⟨⟩
theorem tw15785218014132313688:True:=⟨⟩
theorem tw9441326970708011783:True:=⟨⟩
theorem tw12056596633878991817:True:=⟨⟩
theorem tw7399101569421298396:True:=⟨⟩
theorem tw6545324650690627985:True:=⟨⟩
theorem tw5915465848944024539:True:=⟨⟩
theorem tw7442186320969616419:True:=⟨⟩
theorem tw1466284255255076664:True:=⟨⟩
theorem tw16908686848171061149:True:=⟨⟩
theorem tw3280128972450656526:True:=⟨⟩
theorem tw4952593789767209597:True:=⟨⟩
theorem tw142377125942736700:True:=⟨⟩
theorem tw11723004889028688699:True:=⟨⟩
theorem tw12461706298059298081:True:=⟨⟩
theorem tw14642846902033847964:True:=⟨⟩
theorem tw3589964763223657672:True:=⟨⟩
theorem tw1032644102275906610:True:=⟨⟩
theorem tw10894570999934473159:True:=⟨⟩
theorem tw9458989268892848673:True:=⟨⟩
theorem tw12698916279152862973:True:=⟨⟩
theorem tw8102643725754146565:True:=⟨⟩
theorem tw4381757428849502282:True:=⟨⟩
theorem tw7896837427191650641:True:=⟨⟩
end holds
noncomputable def hk:Hook:=kHook K0 as0 (fun _=>by kernel_rfl)
set_option Elab.async true in
theorem holds:PySem.Challenge.rw_il0097_01.Holds:=by
 w_on;o_law;o_head hk;(case hw=>w_witness2)
 intro w s₀ s₁ mg mb G Y fa o pm cd doc dV kV ho hdd hcd hD hmg hg args vals as hpre hlay hrd hwl hlo
 have KX:(K0 w.params).In _:=Y
 have T:=G.T
 have hfa:=mg_of (n:= "law") (v:= .ref 373) KX T.g rfl
 have hfa:fa=373:=by
  have:=hmg.symm.trans hfa
  injection this with q
  injection q
 subst hfa
 have S:Sta w s₁.heap:=⟨KX,⟨_,T.g⟩,⟨_,T.b,T.builtins⟩,T.nolimit⟩
 have NB:=ri KX T.nodigits (fun P=>rfl)
 wrow_args hpre hlay hrd hwl hlo
 rename_i ns hs hlay0 hL1 hr1 hl2 as4 as3 sl vs as0 hL ra ww r0 hI hr hc hc2
 have hlen:vs.length=ns.length:=hI.length
 refine ou S NB hg hL (my hI) ?_ fun s' hk hos hgs=>?_
 ·simp only [List.size_toArray];omega
 ·refine⟨.inl ⟨.bool true,_,_,rfl,?_,.bool true,?_,?_⟩,.of_keep hk,hos,?_⟩
  ·intro cls;rfl
  ·first | exact postW_of (by wrow_shape) (by wtm_val) (by str_meet;first | done | w_fin) | wrow_post
  ·exact fun _=>⟨List.nodup_nil,fun _ h=>nomatch h⟩
  ·exact .of_eq hgs
end Mine
end
theorem PySem.Challenge.cw_il0097_01_holds : PySem.Challenge.rw_il0097_01.Holds :=
  Mine.holds
