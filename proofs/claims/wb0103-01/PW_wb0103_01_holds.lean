import PyProof.Rows.All
import Wide.All
import OpenK.AllK
import Wide.FinOn
import Lean
import PySem.Challenge.RW_wb0103_01
set_option Elab.async false
set_option linter.all false
set_option compiler.extract_closed false
set_option genSizeOf false
set_option maxRecDepth 100000
namespace Lw
open Bool (and_eq_true eq_false_iff false_eq_true not_eq_true' or_eq_true)
open PySem.Float64 (add cmp cmpInt div divmod isFinite isInf isZero mul nearestOf ofInt)
open PySem.Heap (fnAt_spec get?_none_of_le get?_push_of_some get?_push_size lt_size size_push)
open Int (add_mul add_nonneg add_zero fdiv_eq_ediv_of_nonneg fmod_lt_of_pos fmod_nonneg_of_pos le_antisymm le_of_lt mul_assoc mul_comm mul_nonneg mul_one natAbs_natCast natAbs_neg natAbs_pow natCast_add natCast_mul natCast_nonneg not_le not_lt ofNat_le one_mul pow_pos toNat_natCast toNat_of_nonneg)
open List (all_append any_eq_true append_assoc append_nil cons_append count_cons drop_drop drop_eq_getElem_cons drop_zero eq_nil_of_length_eq_zero filter_cons filter_map flatten_append flatten_cons flatten_nil foldl_append foldl_cons foldl_nil forIn_cons getD_eq_getElem?_getD getElem?_eq_getElem getElem?_map getElem?_range getElem?_toArray getElem_mem length length_append length_cons length_drop length_filter_le length_map length_nil length_range length_replicate length_reverse length_set length_take lookup_append lookup_cons map map_append map_congr_left map_cons map_drop map_fst_zip map_id map_map map_nil map_reverse map_set map_take mem_append mem_append_left mem_cons mem_cons_of_mem mem_filter mem_filterMap mem_map mem_map_of_mem mem_of_getElem? mem_of_mem_drop mem_of_mem_take mem_range mem_singleton nil_append nodup_append nodup_cons not_mem_nil of_mem_zip range range' replicate replicate_succ size_toArray sum_cons take take_add_one take_append_drop take_of_length_le take_take toArray zipWith zip_cons_cons)
open Nat (add_assoc add_comm add_le_add add_le_add_left beq ble ble_eq_true_of_le blt div_add_mod div_le_self le_add_left le_add_right le_of_ble_eq_true le_of_eq le_or_ge le_refl le_succ le_total le_trans log2_lt lt_irrefl lt_of_le_of_lt lt_of_lt_of_le lt_or_ge lt_succ_self lt_trans min_eq_left min_eq_right min_le_left min_self mod_lt mul_add mul_le_mul mul_le_mul_left mul_zero ne_of_gt ne_of_lt pow_add pow_le_pow_right pow_succ zero_add zero_le)
open Option (bind_eq_some_iff elim getD_none getD_some map_some)
open PySem.Builtin.Int (intBits)
theorem d7{α:Type}{a:α}{s t:List α}(h:a∈s):a∈s++t:=mem_append.mpr (.inl h)
theorem cv{α:Type}{a:α}{s t:List α}(h:a∈t):a∈s++t:=mem_append.mpr (.inr h)
theorem de{α:Type}{a:α}{s t:List α}(h:a∈s++t):a∈s\/a∈t:=mem_append.mp h
theorem dg{α:Type}{a b:α}{s:List α}(h:a∈b::s):a=b\/a∈s:=mem_cons.mp h
theorem et{α z:Type}{f:α->z}{l:List α}{b:z}(h:b∈l.map f):∃a,a∈l/\f a=b:=mem_map.mp h
theorem gj{α:Type}{a b:α}(h:a∈[b]):a=b:=mem_singleton.mp h
theorem gB{α:Type}{p:α->Bool}{l:List α}(h:l.all p=true):∀x∈l,p x=true:=List.all_eq_true.mp h
theorem mA{α z:Type}{f:α->z}{o:Option α}{b:z}(h:o.map f=some b):∃a,o=some a/\f a=b:=Option.map_eq_some_iff.mp h
theorem oS{α:Type}{p:α->Bool}{l:List α}(h:∀a∈l,p a=true):l.filter p=l:=List.filter_eq_self.mpr h
theorem Hc{a b:Bool}(h:(a&&b)=true):a=true/\b=true:=(and_eq_true _ _).mp h
theorem bg{α:Type}{a b:α}(h:some a=some b):a=b:=Option.some.inj h
set_option genSizeOf false in
set_option genInjectivity false in
inductive LT where
 |v(n:Nat)
 |k(n:Nat)
 |a(x y:LT)
 |m(n:Nat)(x:LT)
 |r(x:LT)(n:Nat)
 |p(b e:Nat)
 |s(x y:LT)
 |c(x:LT)
 |g(x:LT)
noncomputable def lK(n:Nat):Nat:=n/16%16^(n%16)
noncomputable def lS(n:Nat):Nat:=n/16/16^(n%16)
noncomputable def fM:Nat->Nat->LT×Nat
 |0,n=>(.v 0,n)
 |f+1,n=>
  bif ble 10 (n%16)then(.v (n%16-10),n/16)else
  bif beq (n%16) 1 then(.a (fM f (n/16)).1 (fM f (fM f (n/16)).2).1,(fM f (fM f (n/16)).2).2)else
  bif beq (n%16) 2 then(.k (lK (n/16)),lS (n/16))else
  bif beq (n%16) 3 then(.m (lK (n/16)) (fM f (lS (n/16))).1,(fM f (lS (n/16))).2)else
  bif beq (n%16) 4 then(.r (fM f (lS (n/16))).1 (lK (n/16)),(fM f (lS (n/16))).2)else
  bif beq (n%16) 5 then(.p (lK (n/16)) (lK (lS (n/16))),lS (lS (n/16)))else
  bif beq (n%16) 6 then(.s (fM f (n/16)).1 (fM f (fM f (n/16)).2).1,(fM f (fM f (n/16)).2).2)else
  bif beq (n%16) 7 then(.c (fM f (n/16)).1,(fM f (n/16)).2)else
  (.g (fM f (n/16)).1,(fM f (n/16)).2)
noncomputable def lN(c:List Nat)(t:LT):Nat:=t.rec (λn=>c.getD n 0) (λn=>n) (λ_ _ x y=>x+y) (λn _ x=>n*x) (λ_ n x=>x*n) (λb e=>b^e) (λ_ _ _ _=>0) (λ_ _=>0) λ_ _=>0
noncomputable def lI(c:List Nat)(d:List Int)(t:LT):Int:=
 t.rec (λn=>d.getD n 0) (λn=>(n:Int)) (λ_ _ x y=>x+y) (λn _ x=>(n:Int)*x) (λ_ n x=>x*(n:Int)) (λb e=>(b:Int)^e) (λ_ _ x y=>x-y) (λx _=>(lN c x:Int)) λ_ x=> -x
noncomputable def pA:List Int->List Int->List Int
 |[],q=>q
 |a::p,q=>(a+q.headD 0)::pA p q.tail
noncomputable def pS(k:Int)(p:List Int):List Int:=p.map (k* ·)
noncomputable def pU:Nat->List Int
 |0=>[1]
 |n+1=>0::pU n
noncomputable def pE(f:Nat->Int):Nat->List Int->Int
 |_,[]=>0
 |i,a::p=>a*f i+pE f (i+1) p
theorem sG{f}{p q:List Int}{i}:pE f i (pA p q)=pE f i p+pE f i q:=by
 induction p generalizing q i with
 |nil=>exact(Int.zero_add _).symm
 |cons a p z=>
  show(a+q.headD 0)*f i+pE f (i+1) (pA p q.tail)=a*f i+pE f (i+1) p+pE f i q;have h:pE f i q=q.headD 0*f i+pE f (i+1) q.tail:=by
   cases q with
   |nil=>show(0:Int)=0*f i+0;rw[Int.zero_mul];rfl
   |cons b q=>rfl
  rw[z,add_mul,h];ac_rfl
theorem nh{f k}{p:List Int}{i}:pE f i (pS k p)=k*pE f i p:=by
 induction p generalizing i with
 |nil=>exact(Int.mul_zero _).symm
 |cons a p z=>exact(congrArg (k*a*f i+ ·) z).trans ((congrArg (· +(_:Int)) (mul_assoc _ _ _)).trans (Int.mul_add _ _ _).symm)
theorem Ih{f}{n i:Nat}:pE f i (pU n)=f (i+n):=by
 induction n generalizing i with
 |zero=>exact(add_zero _).trans (one_mul _)
 |succ n z=>exact(congrArg (0*f i+ ·) z).trans ((congrArg (· +(_:Int)) (Int.zero_mul _)).trans ((Int.zero_add _).trans (congrArg f (Nat.add_right_comm i 1 n))))
noncomputable def pN(t:LT):List Int:=t.rec (λn=>pU (2*n+1)) (λn=>[(n:Int)]) (λ_ _ x y=>pA x y) (λn _ x=>pS n x) (λ_ n x=>pS n x) (λb e=>[((b^e:Nat):Int)]) (λ_ _ _ _=>[]) (λ_ _=>[]) λ_ _=>[]
noncomputable def pZ(t:LT):List Int:=t.rec (λn=>pU (2*n+2)) (λn=>[(n:Int)]) (λ_ _ x y=>pA x y) (λn _ x=>pS n x) (λ_ n x=>pS n x) (λb e=>[((b^e:Nat):Int)]) (λ_ _ x y=>pA x (pS (-1) y)) (λx _=>pN x) λ_ x=>pS (-1) x
noncomputable def lF(c:List Nat)(d:List Int):Nat->Int
 |0=>1
 |i+1=>bif beq (i%2) 0 then(c.getD (i/2) 0:Nat)else d.getD (i/2) 0
theorem LA{c d n}:lF c d (0+(2*n+1))=(c.getD n 0:Nat):=by rw[zero_add];simp only[lF,Nat.mul_mod_right,Nat.beq_refl,cond_true,Nat.mul_div_cancel_left n Nat.two_pos]
theorem Lz{c d n}:lF c d (0+(2*n+2))=d.getD n 0:=by rw[zero_add];simp only[lF,Nat.mul_add_mod,Nat.mul_add_div Nat.two_pos];rfl
theorem pk{f:Nat->Int}{x:Int}(h:f 0=1):pE f 0 [x]=x:=by show x*f 0+0=x;rw[h,mul_one,add_zero]
theorem D5{c d}(t:LT):pE (lF c d) 0 (pN t)=(lN c t:Nat):=by
 induction t with
 |v n=>exact Ih.trans LA
 |k n=>exact pk rfl
 |a x y D z=>exact sG.trans ((congr (congrArg _ D) z).trans (natCast_add _ _).symm)
 |m n x h=>exact nh.trans ((congrArg _ h).trans (natCast_mul _ _).symm)
 |r x n h=>exact nh.trans ((congrArg _ h).trans ((mul_comm _ _).trans (natCast_mul _ _).symm))
 |p b e=>exact pk rfl
 |_=>rfl
theorem zk{x:Int}: -1*x= -x:=Int.neg_one_mul x
theorem Ig{c d}(t:LT):pE (lF c d) 0 (pZ t)=lI c d t:=by
 induction t with
 |v n=>exact Ih.trans Lz
 |k n=>exact pk rfl
 |a x y D z=>exact sG.trans (congr (congrArg _ D) z)
 |m n x h=>exact nh.trans (congrArg _ h)
 |r x n h=>exact nh.trans ((congrArg _ h).trans (mul_comm _ _))
 |p b e=>exact(pk rfl).trans (Int.natCast_pow _ _)
 |s x y D z=>exact sG.trans ((congr (congrArg _ D) (nh.trans ((congrArg _ z).trans zk))).trans Int.sub_eq_add_neg.symm)
 |c x h=>exact D5 x
 |g x h=>exact nh.trans ((congrArg _ h).trans zk)
noncomputable def iZ(n:Nat):Bool:=ble 8 (n%16)
noncomputable def iM(n:Nat):Nat:=bif iZ n then n%16-7 else n%16+1
noncomputable def iX(n:Nat):LT:=(fM 40 (n/16)).1
noncomputable def iY(n:Nat):LT:=(fM 40 (fM 40 (n/16)).2).1
noncomputable def iR(n:Nat):Nat:=(fM 40 (fM 40 (n/16)).2).2
def lP(c:List Nat)(d:List Int)(n:Nat):Prop:=bif iZ n then lI c d (iX n)<=lI c d (iY n)else lN c (iX n)<=lN c (iY n)
noncomputable def dF(n:Nat):List Int:=bif iZ n then pA (pZ (iY n)) (pS (-1) (pZ (iX n)))else pA (pN (iY n)) (pS (-1) (pN (iX n)))
theorem Ew{c d n}:0<=pE (lF c d) 0 (dF n)↔lP c d n:=by
 unfold dF lP;cases iZ n with
 |true=>simp only[cond_true,sG,nh,Ig,zk];exact⟨Int.le_of_sub_nonneg,Int.sub_nonneg_of_le⟩
 |false=>simp only[cond_false,sG,nh,D5,zk];exact⟨λh=>ofNat_le.mp (Int.le_of_sub_nonneg h),λh=>Int.sub_nonneg_of_le (ofNat_le.mpr h)⟩
noncomputable def hF(n:Nat):List Int:=pS (iM n:Nat) (dF n)
noncomputable def gF(n:Nat):List Int:=pS (iM n:Nat) (pA [-1] (pS (-1) (dF n)))
noncomputable def cl:Nat->List Int->Bool
 |_,[]=>true
 |i,a::p=>(bif beq (i%2) 0 then decide (a<=0)else decide (a=0))&&cl (i+1) p
noncomputable def ck(p:List Int):Bool:=decide (p.headD 0<0)&&cl 0 p.tail
theorem JJ{c d}{p:List Int}{i}(h:cl i p=true):pE (lF c d) (i+1) p<=0:=by
 induction p generalizing i with
 |nil=>exact Int.le_refl 0
 |cons a p z=>
  have h:=(and_eq_true _ _).mp h;refine Int.add_nonpos ?_ (z h.2);cases hi:beq (i%2) 0 with
  |true=>rw[hi]at h;simp only[lF,hi,cond_true];exact Int.mul_nonpos_of_nonpos_of_nonneg (of_decide_eq_true h.1) (natCast_nonneg _)
  |false=>rw[hi]at h;rw[of_decide_eq_true h.1,Int.zero_mul];exact Int.le_refl 0
theorem JM{c d p}(h:ck p=true)(h':0<=pE (lF c d) 0 p):False:=by
 have h:=(and_eq_true _ _).mp h;cases p with
 |nil=>cases h.1
 |cons a p=>exact not_lt.mpr h' (Int.lt_of_le_of_lt (Int.add_le_add_left (JJ h.2) _) ((add_zero _).symm▸(mul_one a).symm▸of_decide_eq_true h.1))
theorem l0{c d}:0<=pE (lF c d) 0 []:=Int.le_refl 0
theorem lb{c d n p}(h:0<=pE (lF c d) 0 p)(k:ck (pA (gF n) p)=true):lP c d n:=
 Classical.byContradiction λg=>JM k (by have g:=not_le.mp (mt Ew.mp g);rw[sG,gF,nh,sG,nh,zk,pk (f:=lF c d) rfl];exact add_nonneg (mul_nonneg (natCast_nonneg _) (Int.add_comm _ _▸Int.le_sub_one_of_lt (Int.neg_pos_of_neg g))) h)
theorem ln{c d n p}(h:lP c d n)(h':0<=pE (lF c d) 0 p):0<=pE (lF c d) 0 (pA (hF n) p):=by rw[sG,hF,nh];exact add_nonneg (mul_nonneg (natCast_nonneg _) (Ew.mpr h)) h'
theorem aI(n:Nat)(c:List Nat)(d:List Int)(k:ck (pA (gF n) [])=true:=by exact rfl):lP c d n:=lb l0 k
theorem ao(n:Nat)(c:List Nat)(d:List Int)(z:lP c d (iR n))(k:ck (pA (gF n) (pA (hF (iR n)) []))=true:=by exact rfl):lP c d n:=lb (ln z l0) k
theorem aM(n:Nat)(c:List Nat)(d:List Int)(D:lP c d (iR n))(z:lP c d (iR (iR n)))(k:ck (pA (gF n) (pA (hF (iR n)) (pA (hF (iR (iR n))) [])))=true:=by exact rfl):lP c d n:=lb (ln D (ln z l0)) k
theorem cU(n:Nat)(c:List Nat)(d:List Int)(I:lP c d (iR n))(D:lP c d (iR (iR n)))(z:lP c d (iR (iR (iR n))))
 (k:ck (pA (gF n) (pA (hF (iR n)) (pA (hF (iR (iR n))) (pA (hF (iR (iR (iR n)))) []))))=true:=by exact rfl):lP c d n:=lb (ln I (ln D (ln z l0))) k
theorem G4(n:Nat)(c:List Nat)(d:List Int)(J:lP c d (iR n))(I:lP c d (iR (iR n)))(D:lP c d (iR (iR (iR n))))(z:lP c d (iR (iR (iR (iR n)))))
 (k:ck (pA (gF n) (pA (hF (iR n)) (pA (hF (iR (iR n))) (pA (hF (iR (iR (iR n)))) (pA (hF (iR (iR (iR (iR n))))) [])))))=true:=by exact rfl):lP c d n:=lb (ln J (ln I (ln D (ln z l0)))) k
theorem NZ{a b:Nat}(h:¬a<=b):b<a:=Nat.lt_of_not_le h
theorem NY{a b:Nat}(h:¬a<b):b<=a:=Nat.le_of_not_lt h
theorem J9{a b:Int}(h:¬a<=b):b<a:=not_le.mp h
theorem G9{a b:Int}(h:¬a<b):b<=a:=not_lt.mp h
theorem Pe{a b:Nat}(h:b<a):¬a<=b:=Nat.not_le_of_lt h
theorem NX{a b:Nat}(h:b<=a):¬a<b:=Nat.not_lt_of_le h
theorem G8{a b:Int}(h:b<a):¬a<=b:=not_le.mpr h
theorem vq{a b:Int}(h:b<=a):¬a<b:=not_lt.mpr h
theorem dX{a b:Nat}(h:a=b):a<=b:=le_of_eq h
theorem ju{a b:Nat}(h:a=b):b<=a:=le_of_eq h.symm
theorem t7{a b:Int}(h:a=b):a<=b:=Int.le_of_eq h
theorem rQ{a b:Int}(h:a=b):b<=a:=Int.le_of_eq h.symm
theorem dG{a b:Nat}(h:a<=b)(k:b<=a):a=b:=Nat.le_antisymm h k
theorem dq{a b:Int}(h:a<=b)(k:b<=a):a=b:=le_antisymm h k
theorem Hb(h:1<=0):False:=Nat.not_succ_le_zero 0 h
theorem N0{a b:Nat}(h:a<b):a≠b:=ne_of_lt h
theorem D0{a b:Nat}(h:b<a):a≠b:=ne_of_gt h
theorem Ha{a b:Int}(h:a<b):a≠b:=Int.ne_of_lt h
theorem oD{a b:Int}(h:b<a):a≠b:=Int.ne_of_gt h
theorem NT(n:Nat)(c:List Nat)(d:List Int)(Y:lP c d (iR n))(J:lP c d (iR (iR n)))(I:lP c d (iR (iR (iR n))))(D:lP c d (iR (iR (iR (iR n)))))(z:lP c d (iR (iR (iR (iR (iR n))))))
 (k:ck (pA (gF n) (pA (hF (iR n)) (pA (hF (iR (iR n))) (pA (hF (iR (iR (iR n)))) (pA (hF (iR (iR (iR (iR n))))) (pA (hF (iR (iR (iR (iR (iR n)))))) []))))))=true:=by exact rfl):lP c d n:=lb (ln Y (ln J (ln I (ln D (ln z l0))))) k
theorem eC{a b:Nat}:a<=a-b+b:=Nat.sub_le_iff_le_add.mp (le_refl _)
theorem dE{a b:Nat}(h:b<=a):a-b+b<=a:=le_of_eq (Nat.sub_add_cancel h)
theorem kJ{a b:Nat}:a/b*b<=a:=Nat.div_mul_le_self a b
theorem vp{a b:Nat}(h:0<b:=by decide):a<a/b*b+b:=Nat.lt_div_mul_add h
theorem DZ{a b:Nat}(h:0<b:=by decide):a%b<b:=mod_lt a h
theorem uc{z:Int}:z<=(z.toNat:Int):=Int.self_le_toNat z
theorem rP{z:Int}(h:0<=z):(z.toNat:Int)<=z:=Int.le_of_eq (toNat_of_nonneg h)
theorem J7{z:Int}:z<=(z.natAbs:Int):=Int.le_natAbs
theorem HM{z:Int}: -z<=(z.natAbs:Int):=natAbs_neg z▸Int.le_natAbs
theorem t4{z:Int}(h:0<=z):(z.natAbs:Int)<=z:=Int.le_of_eq (Int.natAbs_of_nonneg h)
theorem G7{z:Int}(h:z<=0):(z.natAbs:Int)<= -z:=Int.le_of_eq (Int.ofNat_natAbs_of_nonpos h)
theorem qx{a b:Nat}:a-b<=a:=Nat.sub_le a b
theorem yo{a b:Nat}:min a b<=a:=min_le_left a b
theorem Bx{a b:Nat}:min a b<=b:=Nat.min_le_right a b
theorem RW{a b:Nat}:a<=max a b:=Nat.le_max_left a b
theorem RV{a b:Nat}:b<=max a b:=Nat.le_max_right a b
theorem G6{a b:Nat}(h:a<=b):a<=min a b:=le_of_eq (min_eq_left h).symm
theorem KP{a b:Nat}(h:b<=a):b<=min a b:=le_of_eq (min_eq_right h).symm
theorem RU{a b:Int}(h:0<b:=by decide):a/b*b<=a:=Int.ediv_mul_le a (Int.ne_of_gt h)
theorem RT{a b:Int}(h:0<b:=by decide):a<a/b*b+b:=((add_mul _ _ _).trans (congrArg _ (one_mul b)):(a/b+1)*b=_)▸Int.lt_ediv_add_one_mul_self a h
theorem RS{a b:Int}(h:b≠0:=by decide):0<=a%b:=Int.emod_nonneg a h
theorem RR{a b:Int}(h:0<b:=by decide):a%b<b:=Int.emod_lt_of_pos a h
theorem J8{a b:Nat}(h:a<=b)(k:¬a=b):a<b:=Nat.lt_of_le_of_ne h k
theorem NW{a b:Nat}(h:b<=a)(k:¬a=b):b<a:=Nat.lt_of_le_of_ne h (Ne.symm k)
theorem EG{a b:Int}(h:a<=b)(k:¬a=b):a<b:=Int.lt_iff_le_and_ne.mpr ⟨h,k⟩
theorem NV{a b:Int}(h:b<=a)(k:¬a=b):b<a:=Int.lt_iff_le_and_ne.mpr ⟨h,Ne.symm k⟩
universe u1 u2 u3 u4 u5 u6 u7 Y J I D z
theorem iF  {D z:Prop}{P:Prop}(h:D/\z)(k:D->z->P):P:=k h.1 h.2
theorem eJ  {I D z:Prop}{P:Prop}(h:I/\D/\z)(k:I->D->z->P):P:=iF h λJ b=>k J b.1 b.2
theorem gO  {J I D z:Prop}{P:Prop}(h:J/\I/\D/\z)(k:J->I->D->z->P):P:=eJ h λa1 Y b=>k a1 Y b.1 b.2
theorem ib  {Y J I D z:Prop}{P:Prop}(h:Y/\J/\I/\D/\z)(k:Y->J->I->D->z->P):P:=gO h λa1 a2 a3 b=>k a1 a2 a3 b.1 b.2
theorem Du  {A1 Y J I D z:Prop}{P:Prop}(h:A1/\Y/\J/\I/\D/\z)(k:A1->Y->J->I->D->z->P):P:=ib h λa1 a2 a3 a4 b=>k a1 a2 a3 a4 b.1 b.2
theorem AJ  {A1 A2 Y J I D z:Prop}{P:Prop}(h:A1/\A2/\Y/\J/\I/\D/\z)(k:A1->A2->Y->J->I->D->z->P):P:=Du h λa1 a2 a3 a4 a5 b=>k a1 a2 a3 a4 a5 b.1 b.2
theorem yc  {A1 A2 A3 Y J I D z:Prop}{P:Prop}(h:A1/\A2/\A3/\Y/\J/\I/\D/\z)(k:A1->A2->A3->Y->J->I->D->z->P):P:=AJ h λa1 a2 a3 a4 a5 a6 b=>k a1 a2 a3 a4 a5 a6 b.1 b.2
theorem Ri  {A1 A2 A3 A4 Y J I D z:Prop}{P:Prop}(h:A1/\A2/\A3/\A4/\Y/\J/\I/\D/\z)(k:A1->A2->A3->A4->Y->J->I->D->z->P):P:=yc h λa1 a2 a3 a4 a5 a6 a7 b=>k a1 a2 a3 a4 a5 a6 a7 b.1 b.2
theorem JF{D:Sort J}{I:D->Prop}{P:Prop}(h:∃z,I z)(k:∀z,I z->P):P:=h.elim λz h=>k z h
theorem aq{D:Sort Y}{J I:D->Prop}{P:Prop}(h:∃z,J z/\I z)(k:∀z,J z->I z->P):P:=JF h λz b=>k z b.1 b.2
theorem jU{D:Sort u1}{Y J I:D->Prop}{P:Prop}(h:∃z,Y z/\J z/\I z)(k:∀z,Y z->J z->I z->P):P:=aq h λz a1 b=>k z a1 b.1 b.2
theorem tA{D:Sort u1}{A1 Y J I:D->Prop}{P:Prop}(h:∃z,A1 z/\Y z/\J z/\I z)(k:∀z,A1 z->Y z->J z->I z->P):P:=jU h λz a1 a2 b=>k z a1 a2 b.1 b.2
theorem M'{D:Sort u1}{A1 A2 Y J I:D->Prop}{P:Prop}(h:∃z,A1 z/\A2 z/\Y z/\J z/\I z)(k:∀z,A1 z->A2 z->Y z->J z->I z->P):P:=tA h λz a1 a2 a3 b=>k z a1 a2 a3 b.1 b.2
theorem oM{I:Sort u1}{D:Sort u2}{Y:I->D->Prop}{P:Prop}(h:∃z J,Y z J)(k:∀z J,Y z J->P):P:=h.elim λz h=>JF h (k z)
theorem cC{J:Sort u1}{I:Sort u2}{A1 Y:J->I->Prop}{P:Prop}(h:∃D z,A1 D z/\Y D z)(k:∀D z,A1 D z->Y D z->P):P:=oM h λD z b=>k D z b.1 b.2
theorem bD{J:Sort u1}{I:Sort u2}{A1 A2 Y:J->I->Prop}{P:Prop}(h:∃D z,A1 D z/\A2 D z/\Y D z)(k:∀D z,A1 D z->A2 D z->Y D z->P):P:=cC h λD z a1 b=>k D z a1 b.1 b.2
theorem mf{J:Sort u1}{I:Sort u2}{A1 A2 A3 Y:J->I->Prop}{P:Prop}(h:∃D z,A1 D z/\A2 D z/\A3 D z/\Y D z)(k:∀D z,A1 D z->A2 D z->A3 D z->Y D z->P):P:=bD h λD z a1 a2 b=>k D z a1 a2 b.1 b.2
theorem k9{J:Sort u1}{I:Sort u2}{A1 A2 A3 A4 Y:J->I->Prop}{P:Prop}(h:∃D z,A1 D z/\A2 D z/\A3 D z/\A4 D z/\Y D z)(k:∀D z,A1 D z->A2 D z->A3 D z->A4 D z->Y D z->P):P:=mf h λD z a1 a2 a3 b=>k D z a1 a2 a3 b.1 b.2
theorem Dt{J:Sort u1}{I:Sort u2}{A1 A2 A3 A4 A5 Y:J->I->Prop}{P:Prop}(h:∃D z,A1 D z/\A2 D z/\A3 D z/\A4 D z/\A5 D z/\Y D z)(k:∀D z,A1 D z->A2 D z->A3 D z->A4 D z->A5 D z->Y D z->P):P:=k9 h λD z a1 a2 a3 a4 b=>k D z a1 a2 a3 a4 b.1 b.2
theorem M9{J:Sort u1}{I:Sort u2}{A1 A2 A3 A4 A5 A6 Y:J->I->Prop}{P:Prop}(h:∃D z,A1 D z/\A2 D z/\A3 D z/\A4 D z/\A5 D z/\A6 D z/\Y D z)(k:∀D z,A1 D z->A2 D z->A3 D z->A4 D z->A5 D z->A6 D z->Y D z->P):P:=Dt h λD z a1 a2 a3 a4 a5 b=>k D z a1 a2 a3 a4 a5 b.1 b.2
theorem AI{J:Sort u1}{I:Sort u2}{D:Sort u3}{A1:J->I->D->Prop}{P:Prop}(h:∃z x2 Y,A1 z x2 Y)(k:∀z x2 Y,A1 z x2 Y->P):P:=h.elim λz h=>oM h (k z)
theorem fR{cp:Sort u1}{Y:Sort u2}{J:Sort u3}{A1 A2:cp->Y->J->Prop}{P:Prop}(h:∃I D z,A1 I D z/\A2 I D z)(k:∀I D z,A1 I D z->A2 I D z->P):P:=AI h λI D z b=>k I D z b.1 b.2
theorem dR{cp:Sort u1}{Y:Sort u2}{J:Sort u3}{A1 A2 A3:cp->Y->J->Prop}{P:Prop}(h:∃I D z,A1 I D z/\A2 I D z/\A3 I D z)(k:∀I D z,A1 I D z->A2 I D z->A3 I D z->P):P:=fR h λI D z a1 b=>k I D z a1 b.1 b.2
theorem k8{cp:Sort u1}{Y:Sort u2}{J:Sort u3}{A1 A2 A3 A4:cp->Y->J->Prop}{P:Prop}(h:∃I D z,A1 I D z/\A2 I D z/\A3 I D z/\A4 I D z)(k:∀I D z,A1 I D z->A2 I D z->A3 I D z->A4 I D z->P):P:=dR h λI D z a1 a2 b=>k I D z a1 a2 b.1 b.2
theorem yb{cp:Sort u1}{Y:Sort u2}{J:Sort u3}{A1 A2 A3 A4 A5:cp->Y->J->Prop}{P:Prop}(h:∃I D z,A1 I D z/\A2 I D z/\A3 I D z/\A4 I D z/\A5 I D z)(k:∀I D z,A1 I D z->A2 I D z->A3 I D z->A4 I D z->A5 I D z->P):P:=k8 h λI D z a1 a2 a3 b=>k I D z a1 a2 a3 b.1 b.2
theorem jT{cp:Sort u1}{Y:Sort u2}{J:Sort u3}{A1 A2 A3 A4 A5 A6:cp->Y->J->Prop}{P:Prop}(h:∃I D z,A1 I D z/\A2 I D z/\A3 I D z/\A4 I D z/\A5 I D z/\A6 I D z)(k:∀I D z,A1 I D z->A2 I D z->A3 I D z->A4 I D z->A5 I D z->A6 I D z->P):P:=yb h λI D z a1 a2 a3 a4 b=>k I D z a1 a2 a3 a4 b.1 b.2
theorem M8{cp:Sort u1}{Y:Sort u2}{J:Sort u3}{A1 A2 A3 A4 A5 A6 A7:cp->Y->J->Prop}{P:Prop}(h:∃I D z,A1 I D z/\A2 I D z/\A3 I D z/\A4 I D z/\A5 I D z/\A6 I D z/\A7 I D z)(k:∀I D z,A1 I D z->A2 I D z->A3 I D z->A4 I D z->A5 I D z->A6 I D z->A7 I D z->P):P:=jT h λI D z a1 a2 a3 a4 a5 b=>k I D z a1 a2 a3 a4 a5 b.1 b.2
theorem M7{cp:Sort u1}{Y:Sort u2}{J:Sort u3}{A1 A2 A3 A4 A5 A6 A7 A8:cp->Y->J->Prop}{P:Prop}(h:∃I D z,A1 I D z/\A2 I D z/\A3 I D z/\A4 I D z/\A5 I D z/\A6 I D z/\A7 I D z/\A8 I D z)(k:∀I D z,A1 I D z->A2 I D z->A3 I D z->A4 I D z->A5 I D z->A6 I D z->A7 I D z->A8 I D z->P):P:=M8 h λI D z a1 a2 a3 a4 a5 a6 b=>k I D z a1 a2 a3 a4 a5 a6 b.1 b.2
theorem M6{cp:Sort u1}{Y:Sort u2}{J:Sort u3}{A1 A2 A3 A4 A5 A6 A7 A8 A9:cp->Y->J->Prop}{P:Prop}(h:∃I D z,A1 I D z/\A2 I D z/\A3 I D z/\A4 I D z/\A5 I D z/\A6 I D z/\A7 I D z/\A8 I D z/\A9 I D z)(k:∀I D z,A1 I D z->A2 I D z->A3 I D z->A4 I D z->A5 I D z->A6 I D z->A7 I D z->A8 I D z->A9 I D z->P):P:=M7 h λI D z a1 a2 a3 a4 a5 a6 a7 b=>k I D z a1 a2 a3 a4 a5 a6 a7 b.1 b.2
theorem JE{cp:Sort u1}{cO:Sort u2}{Y:Sort u3}{A1 A2 A3 A4 A5 A6 A7 A8 A9 J:cp->cO->Y->Prop}{P:Prop}(h:∃I D z,A1 I D z/\A2 I D z/\A3 I D z/\A4 I D z/\A5 I D z/\A6 I D z/\A7 I D z/\A8 I D z/\A9 I D z/\J I D z)(k:∀I D z,A1 I D z->A2 I D z->A3 I D z->A4 I D z->A5 I D z->A6 I D z->A7 I D z->A8 I D z->A9 I D z->J I D z->P):P:=M6 h λI D z a1 a2 a3 a4 a5 a6 a7 a8 b=>k I D z a1 a2 a3 a4 a5 a6 a7 a8 b.1 b.2
theorem Eu{cp:Sort u1}{cO:Sort u2}{cZ:Sort u3}{A1 A2 A3 A4 A5 A6 A7 A8 A9 Y J:cp->cO->cZ->Prop}{P:Prop}(h:∃I D z,A1 I D z/\A2 I D z/\A3 I D z/\A4 I D z/\A5 I D z/\A6 I D z/\A7 I D z/\A8 I D z/\A9 I D z/\Y I D z/\J I D z)(k:∀I D z,A1 I D z->A2 I D z->A3 I D z->A4 I D z->A5 I D z->A6 I D z->A7 I D z->A8 I D z->A9 I D z->Y I D z->J I D z->P):P:=JE h λI D z a1 a2 a3 a4 a5 a6 a7 a8 a9 b=>k I D z a1 a2 a3 a4 a5 a6 a7 a8 a9 b.1 b.2
theorem Ds{Y:Sort u1}{J:Sort u2}{I:Sort u3}{D:Sort u4}{A1:Y->J->I->D->Prop}{P:Prop}(h:∃z x2 x3 x4,A1 z x2 x3 x4)(k:∀z x2 x3 x4,A1 z x2 x3 x4->P):P:=h.elim λz h=>AI h (k z)
theorem JD{cp:Sort u1}{cO:Sort u2}{cZ:Sort u3}{Y:Sort u4}{A1 A2:cp->cO->cZ->Y->Prop}{P:Prop}(h:∃J I D z,A1 J I D z/\A2 J I D z)(k:∀J I D z,A1 J I D z->A2 J I D z->P):P:=Ds h λJ I D z b=>k J I D z b.1 b.2
theorem Gx{cp:Sort u1}{cO:Sort u2}{cZ:Sort u3}{Y:Sort u4}{A1 A2 A3:cp->cO->cZ->Y->Prop}{P:Prop}(h:∃J I D z,A1 J I D z/\A2 J I D z/\A3 J I D z)(k:∀J I D z,A1 J I D z->A2 J I D z->A3 J I D z->P):P:=JD h λJ I D z a1 b=>k J I D z a1 b.1 b.2
theorem Dr{cp:Sort u1}{cO:Sort u2}{cZ:Sort u3}{Y:Sort u4}{A1 A2 A3 A4:cp->cO->cZ->Y->Prop}{P:Prop}(h:∃J I D z,A1 J I D z/\A2 J I D z/\A3 J I D z/\A4 J I D z)(k:∀J I D z,A1 J I D z->A2 J I D z->A3 J I D z->A4 J I D z->P):P:=Gx h λJ I D z a1 a2 b=>k J I D z a1 a2 b.1 b.2
theorem M5{cp:Sort u1}{cO:Sort u2}{cZ:Sort u3}{Y:Sort u4}{A1 A2 A3 A4 A5:cp->cO->cZ->Y->Prop}{P:Prop}(h:∃J I D z,A1 J I D z/\A2 J I D z/\A3 J I D z/\A4 J I D z/\A5 J I D z)(k:∀J I D z,A1 J I D z->A2 J I D z->A3 J I D z->A4 J I D z->A5 J I D z->P):P:=Dr h λJ I D z a1 a2 a3 b=>k J I D z a1 a2 a3 b.1 b.2
theorem M4{cp:Sort u1}{cO:Sort u2}{cZ:Sort u3}{Y:Sort u4}{A1 A2 A3 A4 A5 A6:cp->cO->cZ->Y->Prop}{P:Prop}(h:∃J I D z,A1 J I D z/\A2 J I D z/\A3 J I D z/\A4 J I D z/\A5 J I D z/\A6 J I D z)(k:∀J I D z,A1 J I D z->A2 J I D z->A3 J I D z->A4 J I D z->A5 J I D z->A6 J I D z->P):P:=M5 h λJ I D z a1 a2 a3 a4 b=>k J I D z a1 a2 a3 a4 b.1 b.2
theorem M3{cp:Sort u1}{cO:Sort u2}{cZ:Sort u3}{Y:Sort u4}{A1 A2 A3 A4 A5 A6 A7:cp->cO->cZ->Y->Prop}{P:Prop}(h:∃J I D z,A1 J I D z/\A2 J I D z/\A3 J I D z/\A4 J I D z/\A5 J I D z/\A6 J I D z/\A7 J I D z)(k:∀J I D z,A1 J I D z->A2 J I D z->A3 J I D z->A4 J I D z->A5 J I D z->A6 J I D z->A7 J I D z->P):P:=M4 h λJ I D z a1 a2 a3 a4 a5 b=>k J I D z a1 a2 a3 a4 a5 b.1 b.2
theorem Dq{cp:Sort u1}{cO:Sort u2}{cZ:Sort u3}{Y:Sort u4}{A1 A2 A3 A4 A5 A6 A7 A8:cp->cO->cZ->Y->Prop}{P:Prop}(h:∃J I D z,A1 J I D z/\A2 J I D z/\A3 J I D z/\A4 J I D z/\A5 J I D z/\A6 J I D z/\A7 J I D z/\A8 J I D z)(k:∀J I D z,A1 J I D z->A2 J I D z->A3 J I D z->A4 J I D z->A5 J I D z->A6 J I D z->A7 J I D z->A8 J I D z->P):P:=M3 h λJ I D z a1 a2 a3 a4 a5 a6 b=>k J I D z a1 a2 a3 a4 a5 a6 b.1 b.2
theorem uY{cp:Sort u1}{Y:Sort u2}{J:Sort u3}{I:Sort u4}{D:Sort u5}{A1:cp->Y->J->I->D->Prop}{P:Prop}(h:∃z x2 x3 x4 x5,A1 z x2 x3 x4 x5)(k:∀z x2 x3 x4 x5,A1 z x2 x3 x4 x5->P):P:=h.elim λz h=>Ds h (k z)
theorem Gw{cp:Sort u1}{cO:Sort u2}{cZ:Sort u3}{ey:Sort u4}{Y:Sort u5}{A1 A2:cp->cO->cZ->ey->Y->Prop}{P:Prop}(h:∃J I D z x5,A1 J I D z x5/\A2 J I D z x5)(k:∀J I D z x5,A1 J I D z x5->A2 J I D z x5->P):P:=uY h λJ I D z x5 b=>k J I D z x5 b.1 b.2
theorem M0{cp:Sort u1}{cO:Sort u2}{cZ:Sort u3}{ey:Sort u4}{Y:Sort u5}{A1 A2 A3:cp->cO->cZ->ey->Y->Prop}{P:Prop}(h:∃J I D z x5,A1 J I D z x5/\A2 J I D z x5/\A3 J I D z x5)(k:∀J I D z x5,A1 J I D z x5->A2 J I D z x5->A3 J I D z x5->P):P:=Gw h λJ I D z x5 a1 b=>k J I D z x5 a1 b.1 b.2
theorem MZ{cp:Sort u1}{cO:Sort u2}{cZ:Sort u3}{ey:Sort u4}{Y:Sort u5}{A1 A2 A3 A4:cp->cO->cZ->ey->Y->Prop}{P:Prop}(h:∃J I D z x5,A1 J I D z x5/\A2 J I D z x5/\A3 J I D z x5/\A4 J I D z x5)(k:∀J I D z x5,A1 J I D z x5->A2 J I D z x5->A3 J I D z x5->A4 J I D z x5->P):P:=M0 h λJ I D z x5 a1 a2 b=>k J I D z x5 a1 a2 b.1 b.2
theorem JC{cp:Sort u1}{cO:Sort u2}{cZ:Sort u3}{ey:Sort u4}{Y:Sort u5}{A1 A2 A3 A4 A5:cp->cO->cZ->ey->Y->Prop}{P:Prop}(h:∃J I D z x5,A1 J I D z x5/\A2 J I D z x5/\A3 J I D z x5/\A4 J I D z x5/\A5 J I D z x5)(k:∀J I D z x5,A1 J I D z x5->A2 J I D z x5->A3 J I D z x5->A4 J I D z x5->A5 J I D z x5->P):P:=MZ h λJ I D z x5 a1 a2 a3 b=>k J I D z x5 a1 a2 a3 b.1 b.2
theorem MY{cp:Sort u1}{cO:Sort u2}{cZ:Sort u3}{ey:Sort u4}{Y:Sort u5}{A1 A2 A3 A4 A5 A6:cp->cO->cZ->ey->Y->Prop}{P:Prop}(h:∃J I D z x5,A1 J I D z x5/\A2 J I D z x5/\A3 J I D z x5/\A4 J I D z x5/\A5 J I D z x5/\A6 J I D z x5)(k:∀J I D z x5,A1 J I D z x5->A2 J I D z x5->A3 J I D z x5->A4 J I D z x5->A5 J I D z x5->A6 J I D z x5->P):P:=JC h λJ I D z x5 a1 a2 a3 a4 b=>k J I D z x5 a1 a2 a3 a4 b.1 b.2
theorem MX{cp:Sort u1}{cO:Sort u2}{cZ:Sort u3}{ey:Sort u4}{Y:Sort u5}{A1 A2 A3 A4 A5 A6 A7:cp->cO->cZ->ey->Y->Prop}{P:Prop}(h:∃J I D z x5,A1 J I D z x5/\A2 J I D z x5/\A3 J I D z x5/\A4 J I D z x5/\A5 J I D z x5/\A6 J I D z x5/\A7 J I D z x5)(k:∀J I D z x5,A1 J I D z x5->A2 J I D z x5->A3 J I D z x5->A4 J I D z x5->A5 J I D z x5->A6 J I D z x5->A7 J I D z x5->P):P:=MY h λJ I D z x5 a1 a2 a3 a4 a5 b=>k J I D z x5 a1 a2 a3 a4 a5 b.1 b.2
theorem ru{cp:Sort u1}{cO:Sort u2}{cZ:Sort u3}{ey:Sort u4}{Y:Sort u5}{A1 A2 A3 A4 A5 A6 A7 A8:cp->cO->cZ->ey->Y->Prop}{P:Prop}(h:∃J I D z x5,A1 J I D z x5/\A2 J I D z x5/\A3 J I D z x5/\A4 J I D z x5/\A5 J I D z x5/\A6 J I D z x5/\A7 J I D z x5/\A8 J I D z x5)(k:∀J I D z x5,A1 J I D z x5->A2 J I D z x5->A3 J I D z x5->A4 J I D z x5->A5 J I D z x5->A6 J I D z x5->A7 J I D z x5->A8 J I D z x5->P):P:=MX h λJ I D z x5 a1 a2 a3 a4 a5 a6 b=>k J I D z x5 a1 a2 a3 a4 a5 a6 b.1 b.2
theorem MW{cp:Sort u1}{cO:Sort u2}{cZ:Sort u3}{ey:Sort u4}{Y:Sort u5}{A1 A2 A3 A4 A5 A6 A7 A8 A9:cp->cO->cZ->ey->Y->Prop}{P:Prop}(h:∃J I D z x5,A1 J I D z x5/\A2 J I D z x5/\A3 J I D z x5/\A4 J I D z x5/\A5 J I D z x5/\A6 J I D z x5/\A7 J I D z x5/\A8 J I D z x5/\A9 J I D z x5)(k:∀J I D z x5,A1 J I D z x5->A2 J I D z x5->A3 J I D z x5->A4 J I D z x5->A5 J I D z x5->A6 J I D z x5->A7 J I D z x5->A8 J I D z x5->A9 J I D z x5->P):P:=ru h λJ I D z x5 a1 a2 a3 a4 a5 a6 a7 b=>k J I D z x5 a1 a2 a3 a4 a5 a6 a7 b.1 b.2
theorem Et{cp:Sort u1}{cO:Sort u2}{cZ:Sort u3}{ey:Sort u4}{gS:Sort u5}{A1 A2 A3 A4 A5 A6 A7 A8 A9 Y:cp->cO->cZ->ey->gS->Prop}{P:Prop}(h:∃J I D z x5,A1 J I D z x5/\A2 J I D z x5/\A3 J I D z x5/\A4 J I D z x5/\A5 J I D z x5/\A6 J I D z x5/\A7 J I D z x5/\A8 J I D z x5/\A9 J I D z x5/\Y J I D z x5)(k:∀J I D z x5,A1 J I D z x5->A2 J I D z x5->A3 J I D z x5->A4 J I D z x5->A5 J I D z x5->A6 J I D z x5->A7 J I D z x5->A8 J I D z x5->A9 J I D z x5->Y J I D z x5->P):P:=MW h λJ I D z x5 a1 a2 a3 a4 a5 a6 a7 a8 b=>k J I D z x5 a1 a2 a3 a4 a5 a6 a7 a8 b.1 b.2
theorem Gv{cp:Sort u1}{cO:Sort u2}{Y:Sort u3}{J:Sort u4}{I:Sort u5}{D:Sort u6}{A1:cp->cO->Y->J->I->D->Prop}{P:Prop}(h:∃z x2 x3 x4 x5 x6,A1 z x2 x3 x4 x5 x6)(k:∀z x2 x3 x4 x5 x6,A1 z x2 x3 x4 x5 x6->P):P:=h.elim λz h=>uY h (k z)
theorem MV{cp:Sort u1}{cO:Sort u2}{cZ:Sort u3}{ey:Sort u4}{gS:Sort u5}{Y:Sort u6}{A1 A2:cp->cO->cZ->ey->gS->Y->Prop}{P:Prop}(h:∃J I D z x5 x6,A1 J I D z x5 x6/\A2 J I D z x5 x6)(k:∀J I D z x5 x6,A1 J I D z x5 x6->A2 J I D z x5 x6->P):P:=Gv h λJ I D z x5 x6 b=>k J I D z x5 x6 b.1 b.2
theorem MU{cp:Sort u1}{cO:Sort u2}{cZ:Sort u3}{ey:Sort u4}{gS:Sort u5}{Y:Sort u6}{A1 A2 A3:cp->cO->cZ->ey->gS->Y->Prop}{P:Prop}(h:∃J I D z x5 x6,A1 J I D z x5 x6/\A2 J I D z x5 x6/\A3 J I D z x5 x6)(k:∀J I D z x5 x6,A1 J I D z x5 x6->A2 J I D z x5 x6->A3 J I D z x5 x6->P):P:=MV h λJ I D z x5 x6 a1 b=>k J I D z x5 x6 a1 b.1 b.2
theorem MT{cp:Sort u1}{cO:Sort u2}{cZ:Sort u3}{ey:Sort u4}{gS:Sort u5}{Y:Sort u6}{A1 A2 A3 A4:cp->cO->cZ->ey->gS->Y->Prop}{P:Prop}(h:∃J I D z x5 x6,A1 J I D z x5 x6/\A2 J I D z x5 x6/\A3 J I D z x5 x6/\A4 J I D z x5 x6)(k:∀J I D z x5 x6,A1 J I D z x5 x6->A2 J I D z x5 x6->A3 J I D z x5 x6->A4 J I D z x5 x6->P):P:=MU h λJ I D z x5 x6 a1 a2 b=>k J I D z x5 x6 a1 a2 b.1 b.2
theorem MS{cp:Sort u1}{cO:Sort u2}{cZ:Sort u3}{ey:Sort u4}{gS:Sort u5}{Y:Sort u6}{A1 A2 A3 A4 A5:cp->cO->cZ->ey->gS->Y->Prop}{P:Prop}(h:∃J I D z x5 x6,A1 J I D z x5 x6/\A2 J I D z x5 x6/\A3 J I D z x5 x6/\A4 J I D z x5 x6/\A5 J I D z x5 x6)(k:∀J I D z x5 x6,A1 J I D z x5 x6->A2 J I D z x5 x6->A3 J I D z x5 x6->A4 J I D z x5 x6->A5 J I D z x5 x6->P):P:=MT h λJ I D z x5 x6 a1 a2 a3 b=>k J I D z x5 x6 a1 a2 a3 b.1 b.2
theorem Gu{cp:Sort u1}{cO:Sort u2}{cZ:Sort u3}{ey:Sort u4}{gS:Sort u5}{Y:Sort u6}{A1 A2 A3 A4 A5 A6:cp->cO->cZ->ey->gS->Y->Prop}{P:Prop}(h:∃J I D z x5 x6,A1 J I D z x5 x6/\A2 J I D z x5 x6/\A3 J I D z x5 x6/\A4 J I D z x5 x6/\A5 J I D z x5 x6/\A6 J I D z x5 x6)(k:∀J I D z x5 x6,A1 J I D z x5 x6->A2 J I D z x5 x6->A3 J I D z x5 x6->A4 J I D z x5 x6->A5 J I D z x5 x6->A6 J I D z x5 x6->P):P:=MS h λJ I D z x5 x6 a1 a2 a3 a4 b=>k J I D z x5 x6 a1 a2 a3 a4 b.1 b.2
theorem MR{cp:Sort u1}{cO:Sort u2}{cZ:Sort u3}{ey:Sort u4}{gS:Sort u5}{Y:Sort u6}{A1 A2 A3 A4 A5 A6 A7:cp->cO->cZ->ey->gS->Y->Prop}{P:Prop}(h:∃J I D z x5 x6,A1 J I D z x5 x6/\A2 J I D z x5 x6/\A3 J I D z x5 x6/\A4 J I D z x5 x6/\A5 J I D z x5 x6/\A6 J I D z x5 x6/\A7 J I D z x5 x6)(k:∀J I D z x5 x6,A1 J I D z x5 x6->A2 J I D z x5 x6->A3 J I D z x5 x6->A4 J I D z x5 x6->A5 J I D z x5 x6->A6 J I D z x5 x6->A7 J I D z x5 x6->P):P:=Gu h λJ I D z x5 x6 a1 a2 a3 a4 a5 b=>k J I D z x5 x6 a1 a2 a3 a4 a5 b.1 b.2
theorem JB{cp:Sort u1}{cO:Sort u2}{cZ:Sort u3}{Y:Sort u4}{J:Sort u5}{I:Sort u6}{D:Sort u7}{A1:cp->cO->cZ->Y->J->I->D->Prop}{P:Prop}(h:∃z x2 x3 x4 x5 x6 x7,A1 z x2 x3 x4 x5 x6 x7)(k:∀z x2 x3 x4 x5 x6 x7,A1 z x2 x3 x4 x5 x6 x7->P):P:=h.elim λz h=>Gv h (k z)
theorem MQ{cp:Sort u1}{cO:Sort u2}{cZ:Sort u3}{ey:Sort u4}{gS:Sort u5}{mz:Sort u6}{my:Sort u7}{A1 A2:cp->cO->cZ->ey->gS->mz->my->Prop}{P:Prop}(h:∃Y J I D x5 x6 z,A1 Y J I D x5 x6 z/\A2 Y J I D x5 x6 z)(k:∀Y J I D x5 x6 z,A1 Y J I D x5 x6 z->A2 Y J I D x5 x6 z->P):P:=JB h λY J I D x5 x6 z b=>k Y J I D x5 x6 z b.1 b.2
theorem MP{cp:Sort u1}{cO:Sort u2}{cZ:Sort u3}{ey:Sort u4}{gS:Sort u5}{mz:Sort u6}{my:Sort u7}{A1 A2 A3:cp->cO->cZ->ey->gS->mz->my->Prop}{P:Prop}(h:∃Y J I D x5 x6 z,A1 Y J I D x5 x6 z/\A2 Y J I D x5 x6 z/\A3 Y J I D x5 x6 z)(k:∀Y J I D x5 x6 z,A1 Y J I D x5 x6 z->A2 Y J I D x5 x6 z->A3 Y J I D x5 x6 z->P):P:=MQ h λY J I D x5 x6 z a1 b=>k Y J I D x5 x6 z a1 b.1 b.2
theorem MO{cp:Sort u1}{cO:Sort u2}{cZ:Sort u3}{ey:Sort u4}{gS:Sort u5}{mz:Sort u6}{my:Sort u7}{A1 A2 A3 A4:cp->cO->cZ->ey->gS->mz->my->Prop}{P:Prop}(h:∃Y J I D x5 x6 z,A1 Y J I D x5 x6 z/\A2 Y J I D x5 x6 z/\A3 Y J I D x5 x6 z/\A4 Y J I D x5 x6 z)(k:∀Y J I D x5 x6 z,A1 Y J I D x5 x6 z->A2 Y J I D x5 x6 z->A3 Y J I D x5 x6 z->A4 Y J I D x5 x6 z->P):P:=MP h λY J I D x5 x6 z a1 a2 b=>k Y J I D x5 x6 z a1 a2 b.1 b.2
theorem MN{cp:Sort u1}{cO:Sort u2}{cZ:Sort u3}{ey:Sort u4}{gS:Sort u5}{mz:Sort u6}{my:Sort u7}{A1 A2 A3 A4 A5:cp->cO->cZ->ey->gS->mz->my->Prop}{P:Prop}(h:∃Y J I D x5 x6 z,A1 Y J I D x5 x6 z/\A2 Y J I D x5 x6 z/\A3 Y J I D x5 x6 z/\A4 Y J I D x5 x6 z/\A5 Y J I D x5 x6 z)(k:∀Y J I D x5 x6 z,A1 Y J I D x5 x6 z->A2 Y J I D x5 x6 z->A3 Y J I D x5 x6 z->A4 Y J I D x5 x6 z->A5 Y J I D x5 x6 z->P):P:=MO h λY J I D x5 x6 z a1 a2 a3 b=>k Y J I D x5 x6 z a1 a2 a3 b.1 b.2
theorem MM{cp:Sort u1}{cO:Sort u2}{cZ:Sort u3}{ey:Sort u4}{gS:Sort u5}{mz:Sort u6}{my:Sort u7}{A1 A2 A3 A4 A5 A6:cp->cO->cZ->ey->gS->mz->my->Prop}{P:Prop}(h:∃Y J I D x5 x6 z,A1 Y J I D x5 x6 z/\A2 Y J I D x5 x6 z/\A3 Y J I D x5 x6 z/\A4 Y J I D x5 x6 z/\A5 Y J I D x5 x6 z/\A6 Y J I D x5 x6 z)(k:∀Y J I D x5 x6 z,A1 Y J I D x5 x6 z->A2 Y J I D x5 x6 z->A3 Y J I D x5 x6 z->A4 Y J I D x5 x6 z->A5 Y J I D x5 x6 z->A6 Y J I D x5 x6 z->P):P:=MN h λY J I D x5 x6 z a1 a2 a3 a4 b=>k Y J I D x5 x6 z a1 a2 a3 a4 b.1 b.2
theorem ML{cp:Sort u1}{cO:Sort u2}{cZ:Sort u3}{ey:Sort u4}{Y:Sort u5}{J:Sort u6}{I:Sort u7}{D:Sort u8}{A1:cp->cO->cZ->ey->Y->J->I->D->Prop}{P:Prop}(h:∃z x2 x3 x4 x5 x6 x7 x8,A1 z x2 x3 x4 x5 x6 x7 x8)(k:∀z x2 x3 x4 x5 x6 x7 x8,A1 z x2 x3 x4 x5 x6 x7 x8->P):P:=h.elim λz h=>JB h (k z)
theorem JA{cp:Sort u1}{cO:Sort u2}{cZ:Sort u3}{ey:Sort u4}{gS:Sort u5}{Y:Sort u6}{J:Sort u7}{I:Sort u8}{D:Sort u9}{A1:cp->cO->cZ->ey->gS->Y->J->I->D->Prop}{P:Prop}(h:∃z x2 x3 x4 x5 x6 x7 x8 x9,A1 z x2 x3 x4 x5 x6 x7 x8 x9)(k:∀z x2 x3 x4 x5 x6 x7 x8 x9,A1 z x2 x3 x4 x5 x6 x7 x8 x9->P):P:=h.elim λz h=>ML h (k z)
theorem MJ{cp:Sort u1}{cO:Sort u2}{cZ:Sort u3}{ey:Sort u4}{gS:Sort u5}{mz:Sort u6}{my:Sort u7}{yA:Sort u8}{yz:Sort u9}{A1 A2:cp->cO->cZ->ey->gS->mz->my->yA->yz->Prop}{P:Prop}(h:∃x1 x2 Y J x5 x6 I D z,A1 x1 x2 Y J x5 x6 I D z/\A2 x1 x2 Y J x5 x6 I D z)(k:∀x1 x2 Y J x5 x6 I D z,A1 x1 x2 Y J x5 x6 I D z->A2 x1 x2 Y J x5 x6 I D z->P):P:=JA h λx1 x2 Y J x5 x6 I D z b=>k x1 x2 Y J x5 x6 I D z b.1 b.2
theorem MI{cp:Sort u1}{cO:Sort u2}{cZ:Sort u3}{ey:Sort u4}{gS:Sort u5}{mz:Sort u6}{my:Sort u7}{yA:Sort u8}{yz:Sort u9}{A1 A2 A3:cp->cO->cZ->ey->gS->mz->my->yA->yz->Prop}{P:Prop}(h:∃x1 x2 Y J x5 x6 I D z,A1 x1 x2 Y J x5 x6 I D z/\A2 x1 x2 Y J x5 x6 I D z/\A3 x1 x2 Y J x5 x6 I D z)(k:∀x1 x2 Y J x5 x6 I D z,A1 x1 x2 Y J x5 x6 I D z->A2 x1 x2 Y J x5 x6 I D z->A3 x1 x2 Y J x5 x6 I D z->P):P:=MJ h λx1 x2 Y J x5 x6 I D z a1 b=>k x1 x2 Y J x5 x6 I D z a1 b.1 b.2
theorem Jz{cp:Sort u1}{cO:Sort u2}{cZ:Sort u3}{ey:Sort u4}{gS:Sort u5}{mz:Sort u6}{my:Sort u7}{yA:Sort u8}{yz:Sort u9}{A1 A2 A3 A4:cp->cO->cZ->ey->gS->mz->my->yA->yz->Prop}{P:Prop}(h:∃x1 x2 Y J x5 x6 I D z,A1 x1 x2 Y J x5 x6 I D z/\A2 x1 x2 Y J x5 x6 I D z/\A3 x1 x2 Y J x5 x6 I D z/\A4 x1 x2 Y J x5 x6 I D z)(k:∀x1 x2 Y J x5 x6 I D z,A1 x1 x2 Y J x5 x6 I D z->A2 x1 x2 Y J x5 x6 I D z->A3 x1 x2 Y J x5 x6 I D z->A4 x1 x2 Y J x5 x6 I D z->P):P:=MI h λx1 x2 Y J x5 x6 I D z a1 a2 b=>k x1 x2 Y J x5 x6 I D z a1 a2 b.1 b.2
theorem MH{cp:Sort u1}{cO:Sort u2}{cZ:Sort u3}{ey:Sort u4}{gS:Sort u5}{mz:Sort u6}{my:Sort u7}{yA:Sort u8}{yz:Sort u9}{A1 A2 A3 A4 A5:cp->cO->cZ->ey->gS->mz->my->yA->yz->Prop}{P:Prop}(h:∃x1 x2 Y J x5 x6 I D z,A1 x1 x2 Y J x5 x6 I D z/\A2 x1 x2 Y J x5 x6 I D z/\A3 x1 x2 Y J x5 x6 I D z/\A4 x1 x2 Y J x5 x6 I D z/\A5 x1 x2 Y J x5 x6 I D z)(k:∀x1 x2 Y J x5 x6 I D z,A1 x1 x2 Y J x5 x6 I D z->A2 x1 x2 Y J x5 x6 I D z->A3 x1 x2 Y J x5 x6 I D z->A4 x1 x2 Y J x5 x6 I D z->A5 x1 x2 Y J x5 x6 I D z->P):P:=Jz h λx1 x2 Y J x5 x6 I D z a1 a2 a3 b=>k x1 x2 Y J x5 x6 I D z a1 a2 a3 b.1 b.2
theorem JH{cp:Sort u1}{cO:Sort u2}{cZ:Sort u3}{ey:Sort u4}{gS:Sort u5}{mz:Sort u6}{my:Sort u7}{Y:Sort u8}{J:Sort u9}{D:Sort N6}{A1:cp->cO->cZ->ey->gS->mz->my->Y->J->D->Prop}{P:Prop}(h:∃I x2 x3 x4 x5 x6 x7 x8 x9 z,A1 I x2 x3 x4 x5 x6 x7 x8 x9 z)(k:∀I x2 x3 x4 x5 x6 x7 x8 x9 z,A1 I x2 x3 x4 x5 x6 x7 x8 x9 z->P):P:=h.elim λI h=>JA h (k I)
theorem JG{cp:Sort u1}{cO:Sort u2}{cZ:Sort u3}{ey:Sort u4}{gS:Sort u5}{mz:Sort u6}{my:Sort u7}{yA:Sort u8}{yz:Sort u9}{J:Sort N6}{I:Sort PK}{A1:cp->cO->cZ->ey->gS->mz->my->yA->yz->J->I->Prop}{P:Prop}(h:∃Y x2 x3 x4 x5 x6 x7 x8 x9 D z,A1 Y x2 x3 x4 x5 x6 x7 x8 x9 D z)(k:∀Y x2 x3 x4 x5 x6 x7 x8 x9 D z,A1 Y x2 x3 x4 x5 x6 x7 x8 x9 D z->P):P:=h.elim λY h=>JH h (k Y)
theorem kz{cp:Sort u1}{cO:Sort u2}{cZ:Sort u3}{ey:Sort u4}{gS:Sort u5}{mz:Sort u6}{my:Sort u7}{yA:Sort u8}{yz:Sort u9}{KZ:Sort N6}{Y:Sort PK}{J:Sort RZ}{A1:cp->cO->cZ->ey->gS->mz->my->yA->yz->KZ->Y->J->Prop}{P:Prop}(h:∃x1 x2 x3 x4 x5 x6 x7 x8 x9 I D z,A1 x1 x2 x3 x4 x5 x6 x7 x8 x9 I D z)(k:∀x1 x2 x3 x4 x5 x6 x7 x8 x9 I D z,A1 x1 x2 x3 x4 x5 x6 x7 x8 x9 I D z->P):P:=h.elim λx1 h=>JG h (k x1)
theorem EF{a b:Nat}(h:a<=b):a-b<=0:=le_of_eq (Nat.sub_eq_zero_of_le h)
theorem KO{z:Int}(h:z<=0):(z.toNat:Int)<=0:=ofNat_le.mpr (le_of_eq (Int.toNat_of_nonpos h))
theorem RQ{a b:Nat}(h:a<=b):max a b<=b:=le_of_eq (Nat.max_eq_right h)
theorem RP{a b:Nat}(h:b<=a):max a b<=a:=le_of_eq (Nat.max_eq_left h)
theorem EE{n:Nat}(h:n<3):n=0\/n=1\/n=2:=by
 cases n with
 |zero=>exact .inl rfl
 |succ n=>cases n with
  |zero=>exact .inr (.inl rfl)
  |succ n=>cases n with
   |zero=>exact .inr (.inr rfl)
   |succ n=>exact absurd h (Nat.not_lt.mpr (le_add_left 3 n))
theorem Pd{i:Int}(z:0<=i)(h:i<3):i=0\/i=1\/i=2:=
 match i,z,h with
 | .ofNat n,_,h=>(EE (Int.ofNat_lt.mp h)).imp (congrArg _) λh=>h.imp (congrArg _) (congrArg _)
theorem KN{e:Nat}(h:6<=e)(h':e<=9):e=6\/e=7\/e=8\/e=9:=by lia
theorem NU{m n:Nat}:(max 0 (min (m:Int) n):Int)=((min m n:Nat):Int):=by
 cases le_total m n with
 |inl h=>rw[min_eq_left h,Int.min_eq_left (ofNat_le.mpr h),Int.max_eq_right (natCast_nonneg m)]
 |inr h=>rw[min_eq_right h,Int.min_eq_right (ofNat_le.mpr h),Int.max_eq_right (natCast_nonneg n)]
theorem Pm{c x y l:Nat}(h:c+2*(l+1)<=201)(m:1<=y):c+min 1 x+(0+1)+2*(l+1-y)<=201:=by have a:min 1 x<=1:=min_le_left 1 x;have b:l+1-y<=l:=Nat.sub_le_of_le_add (add_le_add_left m l);exact le_trans (add_le_add (Nat.add_le_add_right (add_le_add_left a c) _) (mul_le_mul_left 2 b)) (by rw[show c+1+(0+1)=c+2 from rfl,add_assoc,add_comm 2 (2*l)];exact h)
theorem Pl{d a:Nat}(h:a=102\/a=105\/a=108):(d:Int)+a-97=((d+a-97:Nat):Int):=by rw[Int.ofNat_sub (le_trans (by rcases h with rfl|rfl|rfl<;>decide) (le_add_left a d))];rfl
theorem Pk{l b i:Nat}(z:b<=i)(h:l<=b):l+(b-l+1)<=i+1:=by rw[<-add_assoc,Nat.add_sub_cancel' h];exact Nat.succ_le_succ z
theorem Pj{h p w y:Nat}(I:p<=2*(w-y))(z:h<=1)(D:1<=y)(hl:0<w):h+(0+1)+p<=2*w:=by have b:w-y<=w-1:=Nat.sub_le_sub_left D w;have:=le_trans (add_le_add (Nat.add_le_add_right z (0+1)) I) (add_le_add_left (mul_le_mul_left 2 b) (1+(0+1)));refine le_trans this ?_;rw[show 1+(0+1)=2*1 from rfl,<-mul_add,add_comm,Nat.sub_add_cancel hl];exact le_refl _
theorem N1{x:Int}(h:0<=x/\x<=100000):((x+1).toNat:Int)=x+1/\1<=(x+1).toNat/\(x+1).toNat<=100001:=by obtain⟨n,rfl⟩:=Int.eq_ofNat_of_zero_le h.1;exact⟨rfl,Nat.succ_le_succ (zero_le n),Nat.succ_le_succ (ofNat_le.mp h.2)⟩
theorem Ph{x:Int}(h:0<=x/\x<3):x.toNat=0\/x.toNat=1\/x.toNat=2:=by lia
theorem Pg{l:Nat}(h:¬(l:Int)-1> -1):0=(l:Int):=by
 match l,h with
 |0,_=>rfl
 |n+1,h=>exact absurd (Int.lt_sub_right_of_add_lt (show(-1:Int)+1< ((n+1:Nat):Int)from Int.ofNat_lt.mpr (Nat.succ_pos n))) h
theorem Pf{l n:Nat}(h:n+1<=l):((l:Int)-1+ -1*(n:Int)).toNat=l-(n+1):=by rw[Int.neg_one_mul,<-Int.sub_eq_add_neg,Int.sub_sub,Int.add_comm,<-Int.toNat_sub];rfl
theorem KY{a b:Int}(h:a<=b):(if a<b then b-a else 0)=((b-a).toNat:Int):=by
 rw[toNat_of_nonneg (Int.sub_nonneg_of_le h)];split
 .rfl
 .next k=>rw[le_antisymm h (not_lt.mp k),Int.sub_self]
theorem KX{j:Int}{n:Nat}(hn:n<=60):((n-max 0 (min j (n:Int))+4-1)/4).toNat<=1000:=by have z:0<=max 0 (min j (n:Int)):=Int.le_max_left ..;refine Int.toNat_le.mpr (Int.le_trans (Int.ediv_le_ediv (by decide) (?_:_<=(63:Int))) (by decide));exact Int.sub_le_sub_right (Int.add_le_add_right (Int.le_trans (Int.sub_le_self _ z) (ofNat_le.mpr hn)) 4) 1
theorem HP{l b:Nat}(h:l<=b):l+(b-l+1)=b+1:=by rw[<-add_assoc,Nat.add_sub_cancel' h]
theorem KW{x:Nat}{p:Prop} [Decidable p]:((x:Int)+if p then 1 else 0).toNat=x+if p then 1 else 0:=by split<;>rfl
theorem KV{i t c:Nat}(h:i<c-t):t+i<c:=Nat.add_lt_of_lt_sub' h
theorem HO{x y:Int}(h:x+y<=5)(z: -5<=y):x<=10:=by lia
theorem KU{x y:Int}(h: -5<=x)(z: -5<=y): -x-y<=10:=by lia
theorem KS{x y:Int}(h:x+y<=5): -5<= -x-y:=by lia
theorem KR{n y m:Nat}(z:n*(y*2^35)<=m*(y*2^35))(D:m<=2^12):y+n*(y*2^35)<=y*2^50:=by refine le_trans (add_le_add_left (le_trans z (Nat.mul_le_mul_right _ D)) y) ?_;rw[Nat.mul_left_comm,add_comm,<-Nat.mul_succ];exact mul_le_mul_left y (by decide)
theorem HK{D z:Bool}{P:Prop}(h:(D&&z)=true)(k:D=true->z=true->P):P:=k (Hc h).1 (Hc h).2
theorem O4{I D z:Bool}{P:Prop}(h:(I&&D&&z)=true)(k:I=true->D=true->z=true->P):P:=HK h λc J=>HK c λx1 Y=>k x1 Y J
theorem Nw{J I D z:Bool}{P:Prop}(h:(J&&I&&D&&z)=true)(k:J=true->I=true->D=true->z=true->P):P:=O4 h λc x3 Y=>HK c λx1 x2=>k x1 x2 x3 Y
theorem GV{Y J I D z:Bool}{P:Prop}(h:(Y&&J&&I&&D&&z)=true)(k:Y=true->J=true->I=true->D=true->z=true->P):P:=Nw h λc x3 x4 x5=>HK c λx1 x2=>k x1 x2 x3 x4 x5
theorem O3{a1 Y J I D z:Bool}{P:Prop}(h:(a1&&Y&&J&&I&&D&&z)=true)(k:a1=true->Y=true->J=true->I=true->D=true->z=true->P):P:=HK h λc x6=>GV c λx1 x2 x3 x4 x5=>k x1 x2 x3 x4 x5 x6
theorem Su{a1 a2 a3 a4 Y J I D z:Bool}{P:Prop}(h:(a1&&a2&&a3&&a4&&Y&&J&&I&&D&&z)=true)(k:a1=true->a2=true->a3=true->a4=true->Y=true->J=true->I=true->D=true->z=true->P):P:=GV h λc x6 x7 x8 x9=>GV c λx1 x2 x3 x4 x5=>k x1 x2 x3 x4 x5 x6 x7 x8 x9
theorem Bs{a1 a2 a3 a4 a5 a6 Y J I z:Bool}{P:Prop}(h:(a1&&a2&&a3&&a4&&a5&&a6&&Y&&J&&I&&z)=true)(k:a1=true->a2=true->a3=true->a4=true->a5=true->a6=true->Y=true->J=true->I=true->z=true->P):P:=O3 h λc x6 x7 x8 x9 D=>GV c λx1 x2 x3 x4 x5=>k x1 x2 x3 x4 x5 x6 x7 x8 x9 D
theorem Ny{a1 a2 a3 a4 a5 a6 a7 a8 a9 Y J I D z:Bool}{P:Prop}(h:(a1&&a2&&a3&&a4&&a5&&a6&&a7&&a8&&a9&&Y&&J&&I&&D&&z)=true)(k:a1=true->a2=true->a3=true->a4=true->a5=true->a6=true->a7=true->a8=true->a9=true->Y=true->J=true->I=true->D=true->z=true->P):P:=GV h λc K3 K2 K1 K0=>Bs c λx1 x2 x3 x4 x5 x6 x7 x8 x9 HQ=>k x1 x2 x3 x4 x5 x6 x7 x8 x9 HQ K3 K2 K1 K0
theorem Nz{a1 a2 a3 a4 a5 a6 a7 a8 a9 I D z:Bool}{P:Prop}(h:(a1&&a2&&a3&&a4&&a5&&a6&&a7&&a8&&a9&&I&&D&&z)=true)(k:a1=true->a2=true->a3=true->a4=true->a5=true->a6=true->a7=true->a8=true->a9=true->I=true->D=true->z=true->P):P:=O4 h λc Y J=>Bs c λx1 x2 x3 x4 x5 x6 x7 x8 x9 HQ=>k x1 x2 x3 x4 x5 x6 x7 x8 x9 HQ Y J
theorem Nx{a1 a2 a3 a4 a5 a6 a7 a8 a9 Pb Pa O' O9 O8 O7 O6 Y J I D z:Bool}{P:Prop}(h:(a1&&a2&&a3&&a4&&a5&&a6&&a7&&a8&&a9&&Pb&&Pa&&O'&&O9&&O8&&O7&&O6&&Y&&J&&I&&D&&z)=true)(k:a1=true->a2=true->a3=true->a4=true->a5=true->a6=true->a7=true->a8=true->a9=true->Pb=true->Pa=true->O'=true->O9=true->O8=true->O7=true->O6=true->Y=true->J=true->I=true->D=true->z=true->P):P:=Nz h λc K3 K2 K1 K0 Py Px Pw Pu Pq Pp Po=>Bs c λx1 x2 x3 x4 x5 x6 x7 x8 x9 HQ=>k x1 x2 x3 x4 x5 x6 x7 x8 x9 HQ K3 K2 K1 K0 Py Px Pw Pu Pq Pp Po
theorem DL{a:Bool}(h:(!a)=true):a=false:=by cases a<;>first|rfl|cases h
theorem ns{α:Type}{a:α}{P:Prop}(h:none=some a):P:=nomatch h
theorem sn{α:Type}{a:α}{P:Prop}(h:some a=none):P:=nomatch h
theorem ft{P:Prop}(h:false=true):P:=nomatch h
theorem tf{P:Prop}(h:true=false):P:=nomatch h
theorem KQ{e:Nat}(h:e=6\/e=7\/e=8\/e=9):6<=e/\e<=9:=by rcases h with rfl|rfl|rfl|rfl<;>decide
theorem lO{α:Type}{l:List α}{n:Nat}(h:l.length=n+1){P:List α->Prop}(k:∀a r,r.length=n->P (a::r)):P l:=by
 cases l with
 |nil=>exact Nat.noConfusion h
 |cons a r=>exact k a r (Nat.succ.inj h)
theorem Iu{α:Type}{l:List α}(h:l.length=0){P:List α->Prop}(k:P []):P l:=(eq_nil_of_length_eq_zero h).symm▸k
theorem FA{α:Type}{l:List α}(h:l.length=2):∃a b,l=[a,b]:=lO (P:=λl=>∃a b,l=[a,b]) h λa r h=>lO (P:=λr=>∃x y,a::r=[x,y]) h λb r h=>Iu (P:=λr=>∃x y,a::b::r=[x,y]) h ⟨a,b,rfl⟩
theorem CM{α:Type}{l:List α}(h:l.length=3):∃a b c,l=[a,b,c]:=lO (P:=λl=>∃a b c,l=[a,b,c]) h λz r h=>(FA h).elim λa h=>h.elim λb h=>⟨z,a,b,congrArg _ h⟩
theorem at2{α:Type}{a b d:α}{i:Nat}(h: [a,b][i]? =some d){P:Nat->α->Prop}(D:P 0 a)(z:P 1 b):P i d:=by
 cases i with
 |zero=>exact bg h▸D
 |succ i=>cases i with
  |zero=>exact bg h▸z
  |succ i=>exact ns h
theorem RJ{α:Type}{a b c d:α}{i:Nat}(h: [a,b,c][i]? =some d){P:Nat->α->Prop}(I:P 0 a)(D:P 1 b)(z:P 2 c):P i d:=by
 cases i with
 |zero=>exact bg h▸I
 |succ i=>exact at2 (P:=λi d=>P (i+1) d) h D z
theorem oN{α:Type}{o:Option α}(h:∀a,o=some a->False):o=none:=by
 cases o with
 |none=>rfl
 |some a=>exact(h a rfl).elim
open PySem
noncomputable abbrev PW:Program:=PySem.Challenge.pw_wb0103_01
inductive D where
 |none
 |bool(b:Bool)
 |int(i:Int)
 |aV(x:UInt64)
 |str(s:Str)
 |list(xs:List D)
 |tup(xs:List D)
 |bT(ks:List Int)(xs:List D)
 |fG(ks:List Str)(xs:List D)
 |xH(xs:List Int)
 |obj(xs:List D)
 |adr(a:Addr)
 deriving Inhabited
noncomputable abbrev PH:=Addr->Obj->Prop
def oR{w:World}{K:Type} [DecidableEq K] (knd:KeyKind PW w K)(o:Obj)(kvs:List (K×Value)):Prop:=
 o.ExactDict/\∃es z,o.data= .dict es z/\KeysOf knd es/\Pairs knd es.toList kvs/\(kvs.map (·.1)).Nodup
def J1(w:World)(o:Obj)(xs:List Int):Prop:=
 o.ExactSet/\∃es z t,o.data= .set es z t/\ElemsOf (intKind PW w) es.toList/\(∀k,xs.contains k=true↔∃e∈es.toList,(intKind PW w).is k e.2=true)/\es.size<scanBound/\t.fits es.size=true
def NI(o:Obj)(kvs:List (Str×Value)):Prop:=∃es z,o.data= .dict es z/\StrKeys es/\UniqKeys es/\∀x,nsFind es x=kvs.lookup x
def NJ(C z:Addr)(o:Obj):Prop:=o.cls= .ref C/\(∀D,o.data≠ .cls D)/\o.dict=some z
noncomputable def fieldNames:List Str:=["raw","n","nt","norm","is_simple"]
noncomputable def D.on{α:Type}(d:D)(fb:Bool->Option α)(fi:Int->Option α)(ff:UInt64->Option α)(fs:Str->Option α)(fl ft:List D->Option α):Option α:=
 D.casesOn d Option.none fb fi ff fs fl ft (λ_ _=>Option.none) (λ_ _=>Option.none) (λ_=>Option.none) (λ_=>Option.none) λ_=>Option.none
noncomputable abbrev no{α z:Type}:z->Option α:=λ_=>Option.none
noncomputable def D.fW{α:Type}(d:D)(f:Int->Option α):Option α:=d.on no f no no no no
noncomputable def D.D6{α:Type}(d:D)(f:UInt64->Option α):Option α:=d.on no no f no no no
noncomputable def D.Fm{α:Type}(d:D)(f:Str->Option α):Option α:=d.on no no no f no no
noncomputable def D.Ik{α:Type}(d:D)(f:List D->Option α):Option α:=d.on no no no no f no
noncomputable def D.Kf{α:Type}(d:D)(f:List D->Option α):Option α:=d.on no no no no no f
mutual
noncomputable def Rep(w:World)(C:Addr)(G:PH):D->Value->Prop
 | .none,v=>v= .none
 | .bool b,v=>v= .bool b
 | .int i,v=>∃t,v= .int i t
 | .aV x,v=>∃t,v= .float x t/\t≠0
 | .str x,v=>∃t,v= .str x t
 | .list xs,v=>∃a vs n,v= .ref a/\G a {cls:= .type "list",data:= .seq vs.toArray n}/\aE w C G xs vs
 | .tup xs,v=>∃a vs n,v= .ref a/\G a {cls:= .type "tuple",data:= .seq vs.toArray n}/\aE w C G xs vs
 | .bT ks xs,v=>∃a o vs,v= .ref a/\(a==sysModules)=false/\G a o/\oR (intKind PW w) o (ks.zip vs)/\ks.length=vs.length/\aE w C G xs vs
 | .fG ks xs,v=>∃a o vs,v= .ref a/\(a==sysModules)=false/\G a o/\oR (strKind PW w) o (ks.zip vs)/\ks.length=vs.length/\aE w C G xs vs
 | .xH xs,v=>∃a o,v= .ref a/\G a o/\J1 w o xs
 | .obj xs,v=>∃a o z od vs,v= .ref a/\G a o/\NJ C z o/\z≠a/\G z od/\NI od (fieldNames.zip vs)/\vs.length=5/\aE w C G xs vs
 | .adr a,v=>v= .ref a
noncomputable def aE(w:World)(C:Addr)(G:PH):List D->List Value->Prop
 |[],vs=>vs=[]
 |d::ds,vs=>∃v r,vs=v::r/\Rep w C G d v/\aE w C G ds r
end
mutual
theorem Rep.mono{w:World}{C:Addr}{G G':PH}(h:∀a o,G a o->G' a o):∀{d:D}{v:Value},Rep w C G d v->Rep w C G' d v
 | .none,_,r=>r
 | .bool _,_,r=>r
 | .int _,_,r=>r
 | .aV _,_,r=>r
 | .str _,_,r=>r
 | .list _,_,r=>by refine dR r λa vs n e g l=>?_;clear r;exact⟨a,vs,n,e,h _ _ g,aE.mono h l⟩
 | .tup _,_,r=>by refine dR r λa vs n e g l=>?_;clear r;exact⟨a,vs,n,e,h _ _ g,aE.mono h l⟩
 | .bT _ _,_,r=>by refine jT r λa o vs e z g k n l=>?_;clear r;exact⟨a,o,vs,e,z,h _ _ g,k,n,aE.mono h l⟩
 | .fG _ _,_,r=>by refine jT r λa o vs e z g k n l=>?_;clear r;exact⟨a,o,vs,e,z,h _ _ g,k,n,aE.mono h l⟩
 | .xH _,_,r=>by refine bD r λa o e g k=>?_;clear r;exact⟨a,o,e,h _ _ g,k⟩
 | .obj _,_,r=>by refine ru r λa o J od vs e g i ne I k n l=>?_;clear r;exact⟨a,o,J,od,vs,e,h _ _ g,i,ne,h _ _ I,k,n,aE.mono h l⟩
 | .adr _,_,r=>r
theorem aE.mono{w:World}{C:Addr}{G G':PH}(h:∀a o,G a o->G' a o):∀{ds:List D}{vs:List Value},aE w C G ds vs->aE w C G' ds vs
 |[],_,r=>r
 |_::_,_,r=>by refine bD r λv t e q l=>?_;clear r;exact⟨v,t,e,Rep.mono h q,aE.mono h l⟩
end
variable{w:World}{C:Addr}{G:PH}{α:Type}
section
variable{d:D}{v:Value}{r:α}{fb:Bool->Option α}{fi:Int->Option α}{ff:UInt64->Option α}{fs:Str->Option α}{fl:List D->Option α}{ft:List D->Option α}
@[elab_as_elim] theorem D.cE{P:D->Value->Prop}(h:d.on fb fi ff fs fl ft=some r)(q:Rep w C G d v)(kb:∀x,fb x=some r->P (.bool x) (.bool x))(Y:∀x t,fi x=some r->P (.int x) (.int x t))(kf:∀x t,t≠0->ff x=some r->P (.aV x) (.float x t))(ks:∀x t,fs x=some r->P (.str x) (.str x t))
 (J:∀x a vs n,G a {cls:= .type "list",data:= .seq (toArray vs) n}->aE w C G x vs->fl x=some r->P (.list x) (.ref a))
 (I:∀x a vs n,G a {cls:= .type "tuple",data:= .seq (toArray vs) n}->aE w C G x vs->ft x=some r->P (.tup x) (.ref a)):P d v:=by
  cases d with
  |bool x=>subst q;exact kb x h
  |int x=>obtain⟨t,rfl⟩:=q;exact Y x t h
  |aV x=>obtain⟨t,rfl,z⟩:=q;exact kf x t z h
  |str x=>obtain⟨t,rfl⟩:=q;exact ks x t h
  |list x=>obtain⟨a,vs,n,rfl,g,l⟩:=q;exact J x a vs n g l h
  |tup x=>obtain⟨a,vs,n,rfl,g,l⟩:=q;exact I x a vs n g l h
  |_=>exact nomatch (h:Option.none=some r)
@[elab_as_elim] theorem D.cM{P:D->Prop}(h:d.on fb fi ff fs fl ft=some r)(kb:∀x,fb x=some r->P (.bool x))(J:∀x,fi x=some r->P (.int x))(Y:∀x,ff x=some r->P (.aV x))(ks:∀x,fs x=some r->P (.str x))(I:∀x,fl x=some r->P (.list x))(z:∀x,ft x=some r->P (.tup x)):P d:=by
  cases d with
  |bool x=>exact kb x h
  |int x=>exact J x h
  |aV x=>exact Y x h
  |str x=>exact ks x h
  |list x=>exact I x h
  |tup x=>exact z x h
  |_=>exact nomatch (h:Option.none=some r)
theorem D.Il(h:d.fW fi=some r):∃x,d= .int x/\fi x=some r:=D.cM h (λ_=>ns) (λx h=>⟨x,rfl,h⟩) (λ_=>ns) (λ_=>ns) (λ_=>ns) λ_=>ns
@[elab_as_elim] theorem D.cI{P:D->Value->Prop}(h:d.fW fi=some r)(q:Rep w C G d v)(k:∀x t,fi x=some r->P (.int x) (.int x t)):P d v:=
  D.cE h q (λ_=>ns) k (λ_ _ _=>ns) (λ_ _=>ns) (λ_ _ _ _ _ _=>ns) λ_ _ _ _ _ _=>ns
@[elab_as_elim] theorem D.cF{P:D->Value->Prop}(h:d.D6 ff=some r)(q:Rep w C G d v)(k:∀x t,t≠0->ff x=some r->P (.aV x) (.float x t)):P d v:=
  D.cE h q (λ_=>ns) (λ_ _=>ns) k (λ_ _=>ns) (λ_ _ _ _ _ _=>ns) λ_ _ _ _ _ _=>ns
@[elab_as_elim] theorem D.cS{P:D->Value->Prop}(h:d.Fm fs=some r)(q:Rep w C G d v)(k:∀x t,fs x=some r->P (.str x) (.str x t)):P d v:=
  D.cE h q (λ_=>ns) (λ_ _=>ns) (λ_ _ _=>ns) k (λ_ _ _ _ _ _=>ns) λ_ _ _ _ _ _=>ns
@[elab_as_elim] theorem D.cL{P:D->Value->Prop}(h:d.Ik fl=some r)(q:Rep w C G d v)(k:∀x a vs n,G a {cls:= .type "list",data:= .seq (toArray vs) n}->aE w C G x vs->fl x=some r->P (.list x) (.ref a)):P d v:=
  D.cE h q (λ_=>ns) (λ_ _=>ns) (λ_ _ _=>ns) (λ_ _=>ns) k λ_ _ _ _ _ _=>ns
@[elab_as_elim] theorem D.cT{P:D->Value->Prop}(h:d.Kf ft=some r)(q:Rep w C G d v)(k:∀x a vs n,G a {cls:= .type "tuple",data:= .seq (toArray vs) n}->aE w C G x vs->ft x=some r->P (.tup x) (.ref a)):P d v:=
  D.cE h q (λ_=>ns) (λ_ _=>ns) (λ_ _ _=>ns) (λ_ _=>ns) (λ_ _ _ _ _ _=>ns) k
end
noncomputable def grow(G:PH)(s U:Shared):PH:=λa o=>G a o\/(U.heap.get? a=some o/\s.heap.get? a=none)
open PyProof.Rows
variable{A:Around}{E:Value->Shared->Prop}{s U cP:Shared}
def cf(w:World)(C:Addr)(G:PH)(s:Shared)(d:D)(v:Value)(U:Shared):Prop:=Keeps s U/\Rep w C (grow G s U) d v
theorem bj(s:Shared):Keeps s s:=⟨s.heap,s.toks,rfl,λ_ _ e=>e⟩
theorem bM(s:Shared)(k:Nat):Keeps s {s with toks:=k}:=⟨s.heap,k,rfl,λ_ _ e=>e⟩
theorem dH{s U:Shared}(k:Keeps s U):∀b o,s.heap.get? b=some o->U.heap.get? b=some o:=by refine cC k λh t z e=>?_;clear k;obtain rfl:=z;exact e
theorem aQ{s U cP:Shared}(a:Keeps s U)(b:Keeps U cP):Keeps s cP:=by refine cC a λh t z e=>?_;clear a;obtain rfl:=z;refine cC b λh' D z I=>?_;clear b;obtain rfl:=z;exact⟨h',D,rfl,λb o x=>I b o (e b o x)⟩
theorem aZ(s:Shared)(o:Obj):Keeps s {s with heap:=s.heap.push o}:=⟨_,s.toks,rfl,λ_ _ e=>get?_push_of_some _ e⟩
theorem sV(s:Shared)(o:Obj)(k:Nat):Keeps s {s with heap:=s.heap.push o,toks:=k}:=⟨_,k,rfl,λ_ _ e=>get?_push_of_some _ e⟩
theorem jP(s:Shared){h:Heap}{k:Nat}(e:∀b o,s.heap.get? b=some o->h.get? b=some o):Keeps s {s with heap:=h,toks:=k}:=⟨h,k,rfl,e⟩
theorem bI(s:Shared){h:Heap}(e:∀b o,s.heap.get? b=some o->h.get? b=some o):Keeps s {s with heap:=h}:=⟨h,s.toks,rfl,e⟩
theorem km(hs:∀a o,G a o->s.heap.get? a=some o)(k:Keeps s U):∀a o,grow G s U a o->U.heap.get? a=some o:=by
 rintro a o (h|h)
 .exact dH k _ _ (hs _ _ h)
 .exact h.1
theorem dM:∀a o,G a o->grow G s U a o:=λ_ _ h=> .inl h
theorem uQ(k:Keeps U cP)(k0:Keeps s U):∀a o,grow (grow G s U) U cP a o->grow G s cP a o:=by
 rintro a o ((h|h)|h)
 .exact .inl h
 .exact .inr ⟨dH k _ _ h.1,h.2⟩
 .refine .inr ⟨h.1,?_⟩;exact oN λo' e=>Lw.sn ((dH k0 _ _ e).symm.trans h.2)
theorem cz(k:Keeps U cP):∀a o,grow G s U a o->grow G s cP a o:=by
 rintro a o (h|h)
 .exact .inl h
 .exact .inr ⟨dH k _ _ h.1,h.2⟩
theorem cf.intro{d:D}{v:Value}(k:Keeps s U)(r:Rep w C (grow G s U) d v):cf w C G s d v U:=⟨k,r⟩
theorem cf.trans{d:D}{v:Value}(k:Keeps s U)(p:cf w C (grow G s U) U d v cP):cf w C G s d v cP:=
 ⟨aQ k p.1,p.2.mono (uQ p.1 k)⟩
theorem post_int(s:Shared)(i:Int)(t k:Nat):cf w C G s (.int i) (.int i t) {s with toks:=k}:=⟨bM _ _,_,rfl⟩
theorem eQ(s:Shared)(x:UInt64)(t k:Nat)(h:t≠0):cf w C G s (.aV x) (.float x t) {s with toks:=k}:=⟨bM _ _,_,rfl,h⟩
theorem post_str(s:Shared)(x:Str)(t k:Nat):cf w C G s (.str x) (.str x t) {s with toks:=k}:=⟨bM _ _,_,rfl⟩
theorem post_bool(s:Shared)(b:Bool):cf w C G s (.bool b) (.bool b) s:=⟨bj _,rfl⟩
theorem uy(s:Shared)(b:Bool)(k:Nat):cf w C G s (.bool b) (.bool b) {s with toks:=k}:=⟨bM _ _,rfl⟩
theorem xh(s:Shared):cf w C G s .none .none s:=⟨bj _,rfl⟩
theorem gv(s:Shared)(o:Obj)(z:o.isFreed=false:=by rfl):(s.heap.push o).get? s.heap.objs.size=some o/\s.heap.get? s.heap.objs.size=none:=by
 refine⟨get?_push_size _ z,?_⟩;cases e:s.heap.get? s.heap.objs.size with
 |none=>rfl
 |some o=>exact absurd (lt_size e) (lt_irrefl _)
theorem jn{ds:List D}{vs:List Value}(s:Shared)(l:aE w C G ds vs):
 cf w C G s (.list ds) (.ref s.heap.objs.size) {s with heap:=s.heap.push {cls:= .type "list",data:= .seq vs.toArray}}:=
 ⟨aZ _ _,_,vs,0,rfl,.inr (gv s _),l.mono dM⟩
theorem sx{ds:List D}{vs:List Value}(s:Shared)(l:aE w C G ds vs):
 cf w C G s (.tup ds) (.ref s.heap.objs.size) {s with heap:=s.heap.push {cls:= .type "tuple",data:= .seq vs.toArray}}:=
 ⟨aZ _ _,_,vs,0,rfl,.inr (gv s _),l.mono dM⟩
theorem aE.length{ds:List D}{vs:List Value}(h:aE w C G ds vs):vs.length=ds.length:=by
 induction ds generalizing vs with
 |nil=>subst h;rfl
 |cons d ds I=>refine bD h λv r z _ hl=>?_;clear h;obtain rfl:=z;simp[I hl]
theorem aE.append{ds I:List D}{vs z:List Value}(h:aE w C G ds vs)(h':aE w C G I z):aE w C G (ds++I) (vs++z):=by
 induction ds generalizing vs with
 |nil=>subst h;simpa using h'
 |cons d ds Y=>refine bD h λv r J hv hl=>?_;clear h;obtain rfl:=J;simp only[cons_append,aE];exact⟨v,r++z,rfl,hv,Y hl⟩
theorem aE.get{ds:List D}{vs:List Value}(h:aE w C G ds vs){i:Nat}{d:D}(I:ds[i]? =some d):∃v,vs[i]? =some v/\Rep w C G d v:=by
 induction ds generalizing vs i with
 |nil=>exact ns I
 |cons d' ds J=>
  refine bD h λv r z Y hl=>?_;clear h;obtain rfl:=z;cases i with
  |zero=>obtain rfl:=bg I;exact⟨v,rfl,Y⟩
  |succ i=>simpa using J hl (by simpa using I)
theorem aE.take{ds:List D}{vs:List Value}(h:aE w C G ds vs)(n:Nat):aE w C G (ds.take n) (vs.take n):=by
 induction ds generalizing vs n with
 |nil=>subst h;simp[aE]
 |cons d ds I=>
  refine bD h λv r z J hl=>?_;clear h;obtain rfl:=z;cases n with
  |zero=>simp[aE]
  |succ n=>simp only[List.take_succ_cons,aE];exact⟨v,_,rfl,J,I hl n⟩
theorem aE.drop{ds:List D}{vs:List Value}(h:aE w C G ds vs)(n:Nat):aE w C G (ds.drop n) (vs.drop n):=by
 induction ds generalizing vs n with
 |nil=>subst h;simp[aE]
 |cons d ds I=>
  refine bD h λv r z J hl=>?_;clear h;obtain rfl:=z;cases n with
  |zero=>simp only[drop_zero,aE];exact⟨v,r,rfl,J,hl⟩
  |succ n=>simpa using I hl n
theorem aE.rep{ds:List D}{vs:List Value}(h:aE w C G ds vs)(n:Nat):aE w C G (replicate n ds).flatten (replicate n vs).flatten:=by
 induction n with
 |zero=>exact rfl
 |succ n z=>simp only[replicate_succ,flatten_cons];exact h.append z
theorem aE.reverse{ds:List D}{vs:List Value}(h:aE w C G ds vs):aE w C G ds.reverse vs.reverse:=by
 induction ds generalizing vs with
 |nil=>subst h;exact rfl
 |cons d ds I=>refine bD h λv r z J hl=>?_;clear h;obtain rfl:=z;simp only[List.reverse_cons];exact(I hl).append (by show ∃_,_;exact⟨v,[],rfl,J,rfl⟩)
noncomputable def i5(x y:Int):Bool:= !(decide (intBits x>shortFactorBits)&&decide (intBits y>shortFactorBits)&&Builtin.Int.intTooBig (intBits x+intBits y))
noncomputable def fe(y:Int):Bool:= !(y==0)&&blt y.natAbs.log2 9000
noncomputable def mZ(x y:Int):Bool:=decide (0<=y)&&decide ((intBits x:Int)*y<=2^27)
noncomputable def mR(x y:Int):Bool:=decide (0<=y)&&decide ((intBits x:Int)+y<=2^27)
noncomputable def dU(x y:Int):UInt64:=Float64.ofFrac (decide (x<0) !=decide (y<0)) x.natAbs y.natAbs
noncomputable def sizeOk(n:Nat):Bool:=ble n 16777216
@[irreducible] def nQ(x:Int):Bool:=decide (x.natAbs<2^1023)
noncomputable def gf(z:Operator)(a b:D):Option D:=match z with
 | .Add=>a.on no (λx=>b.fW λy=>some (.int (x+y))) (λx=>b.D6 λy=>some (.aV (add x y))) (λx=>b.Fm λy=>if sizeOk (x++y).length then some (.str (x++y))else none)
   (λx=>b.Ik λy=>if sizeOk (x.length+y.length)then some (.list (x++y))else none) no
 | .Sub=>a.on no (λx=>b.fW λy=>some (.int (x-y))) (λx=>b.D6 λy=>some (.aV (Float64.sub x y))) no no no
 | .Mult=>a.on no (λx=>b.on no (λy=>if i5 x y then some (.int (x*y))else none) (λy=>if nQ x then some (.aV (mul (ofInt x) y))else none) no no no)
   (λx=>b.D6 λy=>some (.aV (mul x y)))
   (λx=>b.fW λn=>if decide (0<=n)&&decide (n<2^20)&&decide (x.length*n.toNat<2^20)then some (.str (Txt.mul x n))else none)
   (λx=>b.fW λn=>if decide (0<=n)&&decide (n<2^20)&&decide (x.length*n.toNat<2^20)then some (.list (replicate n.toNat x).flatten)else none) no
 | .FloorDiv=>a.fW λx=>b.fW λy=>if fe y then some (.int (x.fdiv y))else none
 | .Mod=>a.on no (λx=>b.fW λy=>if y==0 then none else some (.int (x.fmod y))) (λx=>b.D6 λy=>if isZero y then none else some (.aV (divmod x y).2)) no no no
 | .Pow=>a.fW λx=>b.fW λy=>if mZ x y then some (.int (x^y.toNat))else none
 | .LShift=>a.fW λx=>b.fW λy=>if mR x y then some (.int (x*2^y.toNat))else none
 | .RShift=>a.fW λx=>b.fW λy=>if decide (0<=y)then some (.int (x.fdiv (2^y.toNat)))else none
 | .BitXor=>a.fW λx=>b.fW λy=>some (.int (Builtin.bitXor x y))
 | .Div=>a.on no (λx=>b.fW λy=>if y==0 then none else if isInf (dU x y)then none else some (.aV (dU x y)))
   (λx=>b.D6 λy=>if isZero y then none else some (.aV (div x y))) no no no
 |_=>none
theorem uS{x:Int}(h:nQ x=true):¬isInf (ofInt x)=true:=by unfold nQ at h;exact Float64.ofInt_fits (by simpa using h)
theorem bw{α:Type}{b:Bool}{x y:α}(h:(if b=true then some x else none)=some y):b=true/\x=y:=by
 cases b with
 |true=>exact⟨rfl,bg h⟩
 |false=>exact ns h
theorem qZ{α:Type}{b:Bool}{x:Option α}{y:α}(h:(if b=true then x else none)=some y):b=true/\x=some y:=by
 cases b with
 |true=>exact⟨rfl,h⟩
 |false=>exact ns h
theorem ja{α:Type}{b:Bool}{x:Option α}{y:α}(h:(if b=true then none else x)=some y):b=false/\x=some y:=by
 cases b with
 |false=>exact⟨rfl,h⟩
 |true=>exact ns h
theorem rX{x:Str}(h:(x.length==0)=true):x=Str.empty:=by obtain⟨x⟩:=x;exact congrArg Str.mk (Array.eq_empty_of_size_eq_zero (eq_of_beq h))
theorem oX{n:Nat}(h:sizeOk n=true):n<=sizeLine:=le_trans (le_of_ble_eq_true h) (by rw[sizeLine_eq];decide)
theorem sM{n:Int}{m:Nat}(h:(decide (0<=n)&&decide (n<2^20)&&decide (m*n.toNat<2^20))=true):0<=n/\n<2^20/\m*n.toNat<2^20:=by simp only[and_eq_true,decide_eq_true_eq]at h;exact⟨h.1.1,h.1.2,h.2⟩
theorem oq{l b:Addr}{vs ws:List Value}{n n2:Nat}{Q:Value->Shared->Prop}(hl:s.heap.get? l=some {cls:= .type "list",data:= .seq vs.toArray n})(hb:s.heap.get? b=some {cls:= .type "list",data:= .seq ws.toArray n2})
 (h:Q (.ref s.heap.objs.size) {s with heap:=s.heap.push {cls:= .type "list",data:= .seq (vs++ws).toArray}})
 (hsz:vs.length+ws.length<=sizeLine):wpAny (model PW w) A (binaryOp .Add (.ref l) (.ref b)) Q E s:=by
 have e:vs.toArray++ws.toArray=(vs++ws).toArray:=by simp
 refine concat_meets ⟨_,hl,rfl⟩ ⟨_,hb,rfl⟩ noFill_list_add seq_list_add PySem.F.slot_list_add PySem.F.entry_list_add (PySem.F.args_list_add_2 _ _) (list_addW l b vs.toArray ws.toArray n n2 none none #[] #[] (by simpa using hsz)) ⟨hl,hb,?_⟩;rw[e];exact h
theorem pz{l:Addr}{vs:List Value}{x:Int}{u:Tok}{k:Nat}{Q:Value->Shared->Prop}(hl:s.heap.get? l=some {cls:= .type "list",data:= .seq vs.toArray k})
 (D:0<=x)(I:x<2^20)(hsz:vs.length*x.toNat<2^20)
 (h:Q (.ref s.heap.objs.size) {s with heap:=s.heap.push {cls:= .type "list",data:= .seq (replicate x.toNat vs).flatten.toArray}}):
 wpAny (model PW w) A (binaryOp .Mult (.ref l) (.int x u)) Q E s:=by
 have z:vs.toArray.size*x.toNat<2^20:=by simpa using hsz
 refine wpAny_binaryOp_repeat_ref (T:="list") (U:="int") (by decide) ⟨_,hl,rfl⟩ (λU=>typeIs_int U x u) noFill_list_mul F.fills_int_mul F.slot_int_rmul repeat_list F.slot_int_index.lookup
  (call_meets F.slot_int_rmul (typeIs_int s x u) F.entry_int_rmul (F.args_int_rmul_2 _ _) (lm_int_rmul_list_any x u l vs.toArray k none #[])
   ⟨hl,rfl,⟨_,hl,rfl⟩,call_meets F.slot_list_mul ⟨_,hl,rfl⟩ F.entry_list_mul (F.args_list_mul_2 _ _)
    (lm_list_mul_any l vs.toArray k none #[] x u (by simp[Builtin.List.listFitsIndex];exact⟨ao 0xa028a10000000092800000008388 [] [_] D,ao 0x142215112a18100000000928000000083112a18 [] [_] I⟩) (by exact NX (ao 0x142215112a10ffffffffffffffff2a0 [_] [] z)) (by simp[Builtin.List.listTooLong,sizeLine];exact ao 0x142215112a10100000072a0 [_] [] hsz))
    ⟨hl,?_⟩⟩)
 rw[listMul_foldl_if];simpa using h
theorem wU{x:Str}{n:Int}{t u:Nat}(D:0<=n/\n<2^20/\x.length*n.toNat<2^20):wpAny (model PW w) A (binaryOp .Mult (.str x t) (.int n u)) (cf w C G s (.str (Txt.mul x n))) E s:=by
 refine eJ D λJ h1 I=>?_;clear D;refine SB.mul ⟨?_,λ_ _=>?_,λ_ _=>?_⟩ (λt' k=>post_str s _ _ _)
 .rw[decide_eq_false (by exact vq (ao 0xa028a3f221588 [] [_] J)),decide_eq_false (by exact G8 (ao 0x142215112a183f2215112a18 [] [_] h1))];rfl
 .have Y:(x.length:Int)*n<2^20:=by
   have:((x.length*n.toNat:Nat):Int)<2^20:=by exact_mod_cast I
   rwa[natCast_mul,toNat_of_nonneg J]at this
  intro z;have h3:(2^63-1:Int)< (x.length:Int)*n:=(Int.ediv_lt_iff_lt_mul (by lia)).mp z;exact Hb (aM 0x142215112a18a1121123f2215618021120 [] [_] h3 Y)
 .unfold Builtin.Str.tooLong;simp;rw[sizeLine_eq];exact ao 0x142215112a10100000072a0 [_] [] I
theorem wW{x y:Str}{t u:Nat}(hz:sizeOk (x++y).length=true):wpAny (model PW w) A (binaryOp .Add (.str x t) (.str y u)) (cf w C G s (.str (x++y))) E s:=by
 refine P.add_str ?_;split
 .rename_i D;rw[rX D,Str.empty_append];exact⟨bj _,_,rfl⟩
 .split
  .rename_i z;rw[rX z,Str.append_empty];exact⟨bj _,_,rfl⟩
  .exact⟨oX hz,post_str s _ _ _⟩
@[elab_as_elim] theorem rF{a b d:D}{Y I:Value}{f:Int->Int->Option D}{f' J f3}{P:Value->Value->Prop}(h:a.on no (λx=>b.fW (f x)) f' J f3 no=some d)(ra:Rep w C G a Y)(rb:Rep w C G b I)
 (hi:∀x y t u,f x y=some d->P (.int x t) (.int y u))(hf:∀x t,t≠0->f' x=some d->P (.float x t) I)(hs:∀x t,J x=some d->P (.str x t) I)
 (hl:∀x z vs n,G z {cls:= .type "list",data:= .seq (toArray vs) n}->aE w C G x vs->f3 x=some d->P (.ref z) I):P Y I:=by refine D.cE (P:=λ_ v=>P v I) h ra (λ_=>ns) (λx t h=>?_) hf hs hl λ_ _ _ _ _ _=>ns;exact D.cI (P:=λ_ v=>P (.int x t) v) h rb λy u h=>hi x y t u h
theorem GS{Y:Operator}{a b d:D}{va vb:Value}(h:gf Y a b=some d)(ht:0<s.toks)(hs:∀a o,G a o->s.heap.get? a=some o)(ra:Rep w C G a va)(rb:Rep w C G b vb):
 wpAny (model PW w) A (binaryOp Y va vb) (cf w C G s d) E s:=by
 have J:=ne_of_gt ht;cases Y with
 |Add=>
  refine rF h ra rb (λx y t u h=>?_) (λx t z h=>?_) (λx t h=>?_) λx z vs n g l h=>?_
  .obtain rfl:=bg h;exact PyProof.Rows.add_int (post_int s _ _ _)
  .refine D.cF h rb λy u _ h=>?_;obtain rfl:=bg h;exact add_float (eQ s _ _ _ J)
  .refine D.cS h rb λy u h=>?_;obtain⟨hz,rfl⟩:=bw h;exact wW hz
  .refine D.cL h rb λy b ws n2 g2 l2 h=>?_;obtain⟨hz,rfl⟩:=bw h;exact oq (hs _ _ g) (hs _ _ g2) (jn s (l.append l2)) (by rw[l.length,l2.length];exact oX hz)
 |Sub=>
  refine rF h ra rb (λx y t u h=>?_) (λx t z h=>?_) (λx t h=>nomatch h) λx z vs n g l h=>nomatch h
  .obtain rfl:=bg h;exact PyProof.Rows.sub_int (post_int s _ _ _)
  .refine D.cF h rb λy u _ h=>?_;obtain rfl:=bg h;exact sub_float (eQ s _ _ _ J)
 |Mult=>
  refine D.cE h ra (λ_=>ns) (λx t h=>?_) (λx t z h=>?_) (λx t h=>?_) (λx z vs k g l h=>?_) λ_ _ _ _ _ _=>ns
  .refine D.cE h rb (λ_=>ns) (λy u h=>?_) (λy u _ h=>?_) (λ_ _=>ns) (λ_ _ _ _ _ _=>ns) λ_ _ _ _ _ _=>ns
   .obtain⟨I,rfl⟩:=bw h;exact PyProof.Rows.mul_int (post_int s _ _ _) (λhc=>by rw[i5,hc]at I;exact ft I)
   .have I:=bw (b:=nQ x) h;obtain rfl:=I.2;exact AutoFloatOps.mul_if_1 (uS I.1) (eQ s _ _ _ J)
  .refine D.cF h rb λy u _ h=>?_;obtain rfl:=bg h;exact mul_float (eQ s _ _ _ J)
  .refine D.cI h rb λn u h=>?_;obtain⟨I,rfl⟩:=bw h;exact wU (sM I)
  .refine D.cI h rb λn u h=>?_;obtain⟨I,rfl⟩:=bw h;have I:=sM I;exact pz (hs _ _ g) I.1 I.2.1 (by rw[l.length];exact I.2.2) (jn s (l.rep _))
 |FloorDiv=>refine D.cI h ra λx t h=>?_;refine D.cI h rb λy u h=>?_;obtain⟨I,rfl⟩:=bw h;simp only[fe,and_eq_true,not_eq_true',beq_eq_false_iff_ne]at I;exact PyProof.Rows.floordiv_int I.1 (post_int s _ _ _) (.inl (PyProof.noPylong_of_log2 (le_of_ble_eq_true I.2)))
 |Mod=>
  refine rF h ra rb (λx y t u h=>?_) (λx t z h=>?_) (λx t h=>nomatch h) λx z vs n g l h=>nomatch h
  .obtain⟨I,h⟩:=ja h;obtain rfl:=bg h;exact mod_int' (ne_of_beq_false I) (post_int s _ _ _)
  .refine D.cF h rb λy u _ h=>?_;obtain⟨I,h⟩:=ja h;obtain rfl:=bg h;exact AutoFloatOps.mod_1 (eq_false_iff.mp I) (eQ s _ _ _ J)
 |Pow=>refine D.cI h ra λx t h=>?_;refine D.cI h rb λy u h=>?_;obtain⟨I,rfl⟩:=bw h;simp only[mZ,and_eq_true,decide_eq_true_eq]at I;exact pow_int I.1 I.2 (post_int s _ _ _)
 |LShift=>refine D.cI h ra λx t h=>?_;refine D.cI h rb λy u h=>?_;obtain⟨I,rfl⟩:=bw h;simp only[mR,and_eq_true,decide_eq_true_eq]at I;exact lshift_int I.1 I.2 (post_int s _ _ _)
 |RShift=>refine D.cI h ra λx t h=>?_;refine D.cI h rb λy u h=>?_;obtain⟨I,rfl⟩:=bw h;exact rshift_int (of_decide_eq_true I) (post_int s _ _ _)
 |BitXor=>refine D.cI h ra λx t h=>?_;refine D.cI h rb λy u h=>?_;obtain rfl:=bg h;exact xor_int (post_int s _ _ _)
 |Div=>
  refine rF h ra rb (λx y t u h=>?_) (λx t z h=>?_) (λx t h=>nomatch h) λx z vs n g l h=>nomatch h
  .obtain⟨h1,h⟩:=ja h;obtain⟨h2,h⟩:=ja h;obtain rfl:=bg h;exact AutoIntOps.truediv_2 (eq_false_iff.mp h1) (eq_false_iff.mp h2) (eQ s _ _ _ J)
  .refine D.cF h rb λy u _ h=>?_;obtain⟨I,h⟩:=ja h;obtain rfl:=bg h;refine AutoFloatOpsIf.truediv ?_;rw[if_neg (eq_false_iff.mp I)];exact eQ s _ _ _ J
 |_=>exact ns h
open PySem.SeqAt
noncomputable def dB(f:D->D->Option Bool):List D->List D->Option Bool
 |x::xs,y::ys=>(f x y).bind λa=>(dB f xs ys).map (a&& ·)
 |_,_=>some true
theorem jj{f:D->D->Option Bool}{x y:D}{xs ys:List D}:dB f (x::xs) (y::ys)=(f x y).bind λa=>(dB f xs ys).map (a&& ·):=rfl
theorem ji{f:D->D->Option Bool}:dB f [] []=some true:=rfl
noncomputable def pT:Nat->D->D->Option Bool
 |0,_,_=>none
 |n+1,a,b=>a.on (λx=>b.on (λy=>some (x==y)) no no no no no) (λx=>b.fW λy=>some (x==y))
  (λx=>b.on no (λy=>some (cmpInt x y==some .eq)) (λy=>if cmp x y==some .eq then some true else none) no no no) (λx=>b.Fm λy=>some (x==y))
  (λxs=>b.Ik λys=>if xs.length==ys.length then dB (pT n) xs ys else some false) λxs=>b.Kf λys=>(dB (pT n) xs ys).map (· &&xs.length==ys.length)
noncomputable def pairEq(f:D->D->Option Bool)(xs ys:List D)(j:Nat):Bool:=((xs[j]?).bind λx=>(ys[j]?).bind λy=>f x y).getD false
structure Base(w:World)(C:Addr)(h₀:Heap)(mg mb:Str->Option Value):Prop where
 booked:NoneBooked h₀
 nolimit:h₀.NoLimit
 g:h₀.Ns mainGlobals mg
 b:h₀.Ns builtinsNs mb
 builtins:∀x:Str,x≠"__name__"->mb x=bootBuiltins x
structure aL(A:Around)(k:Nat):Prop where
 handled:A.handled=none
 guards:A.guards=some []
 depth:A.depth+k<700
 units:A.units+10*k<9000
theorem aL.le{A:Around}{k k':Nat}(r:aL A k)(h:k'<=k):aL A k':=⟨r.handled,r.guards,by have:=r.depth;exact aM 0xcb02bc32112ca1102bc32112ba110 [_,_,_] [] this h,by have:=r.units;exact aM 0xca13ba130232842112ca13a110232842112ba13a110 [_,_,_] [] this (mul_le_mul_left 10 h)⟩
theorem aL.deeper{A:Around}{k:Nat}{O:Env}(r:aL A (k+1)):aL (A.deeper O) k:=
 ⟨r.handled,r.guards,by have:=r.depth;show A.depth+1+k<700;exact ao 0x2bc32112112b1a1102bc32112b112a1110 [_,_] [] this,by have:=r.units;show A.units+3+10*k<9000;exact ao 0x232842112112b1a13a110232842112ba13312a1110 [_,_] [] this⟩
theorem NoneBooked.uJ{h h':Heap}(b:NoneBooked h)(k:∀a o,h.get? a=some o->h'.get? a=some o):NoneBooked h':=by refine aq b λz n e=>?_;clear b;exact⟨z,n.keeps k,e⟩
theorem q6{prog:Program}{x y:UInt64}{t u:Tok}{Q:Bool->Shared->Prop}(ht:t≠0)(D:u≠0)(hb:NoneBooked s.heap)(z:∀b,Q b s):wpAny (model prog w) A (isSame (.float x t) (.float y u)) Q E s:=by
 show wpAny (model prog w) A (isSame.created (x==y&& !Float64.isNaN x) t u) Q E s;unfold isSame.created;have I:(t==0||u==0)=false:=by simp[ht,D]
 refine wpAny_ite ?_;split
 .rename_i h;rw[I]at h;exact absurd h Bool.false_ne_true
 refine wpAny_ite ?_;split
 .exact wpAny_pure (z _)
 refine wpAny_ite ?_;split
 .exact wpAny_pure (z _)
 refine wpAny_bind (wpAny_sharingNotTold_none hb ?_)
 first|rw[if_neg Bool.false_ne_true]|simp only[false_eq_true,if_false]
 refine wpAny_bind (wpAny_sharingNotTold_none hb ?_)
 first|rw[if_neg Bool.false_ne_true]|simp only[false_eq_true,if_false]
 exact wpAny_bind (wpAny_rule (wpAny_bind (wpAny_askSetting (wpAny_pure (z _)))))
theorem uX{x y:UInt64}{t u:Tok}(ht:t≠0)(D:u≠0)(hb:NoneBooked s.heap)(hc:(cmp x y==some .eq)=true):EqAt A s (.float x t) (.float y u) true:=λprog w E Q h=>by
 unfold eqBool;refine wpAny_holding ?_;refine wpAny_ite_split (λz=>?_) (λz=>?_)
 .exact wpAny_bind (wpAny_rule (wpAny_pure h))
 .dsimp only;refine wpAny_bind (q6 ht D hb λb=>?_);cases b with
  |true=>exact wpAny_pure h
  |false=>simp only[false_eq_true,if_false];refine wpAny_bind (AutoFloatOps.eq_0 ?_);rw[hc];exact wpAny_truthy_bool h
theorem Dm{x:UInt64}{n:Int}{t u:Tok}:EqAt A s (.float x t) (.int n u) (cmpInt x n==some .eq):=λprog w E Q h=>by
 unfold eqBool;refine wpAny_holding ?_;refine wpAny_ite_split (λz=>?_) (λz=>?_)
 .exact absurd (eq_of_beq z) (by intro h;cases h)
 .dsimp only;exact wpAny_bind (eq_fi (wpAny_truthy_bool h))
theorem mD{f:D->D->Option Bool}{d e:D}{ds es:List D}{b:Bool}(h:dB f (d::ds) (e::es)=some b):∃a z,f d e=some a/\dB f ds es=some z/\(a&&z)=b:=by refine aq (bind_eq_some_iff.mp h) λa J h=>?_;refine aq (mA h) λz I h=>?_;exact⟨a,z,J,I,h⟩
theorem jB{f:D->D->Option Bool}(J:∀d e v b,Rep w C G d v->Rep w C G e v->f d e=some b->b=true):∀{ds es:List D}{vs:List Value}{b:Bool},aE w C G ds vs->aE w C G es vs->dB f ds es=some b->b=true
 |[],_,_,_,_,_,h=>(bg h).symm
 |_::_,[],_,_,_,_,h=>(bg h).symm
 |d::ds,e::es,vs,b,h1,Y,h=>by
  refine bD h1 λv r I q l=>?_;clear h1;obtain rfl:=I;refine bD Y λv' r' e1 q' l'=>?_;clear Y;injection e1 with e1 e2;subst e1 e2
  refine bD (mD h) λa b' ha hb z=>?_;obtain rfl:=z;rw[J d e v a q q' ha,jB J l l' hb];rfl
theorem sj{s:Shared}{a:Addr}{c:Value}{vs z:List Value}{k k':Nat}(h:s.heap.get? a=some {cls:=c,data:= .seq vs.toArray k})(h':s.heap.get? a=some {cls:=c,data:= .seq z.toArray k'}):vs=z:=by
 have:=bg (h.symm.trans h');injection this with _ _ this _
 injection this with this _
 exact congrArg Array.toList this
theorem js(hs:∀a o,G a o->s.heap.get? a=some o):∀(n:Nat)(d e:D)(v u:Value)(b:Bool),Rep w C G d v->Rep w C G e u->pT n d e=some b->v=u->b=true
 |0,_,_,_,_,_,_,_,h=>by exact ns h
 |n+1,d,e,v,u,b,h1,I,h=>by
  refine D.cE h h1 (λx q=>?_) (λx t q=>?_) (λx t z q=>?_) (λx t q=>?_) (λx a vs k g l q=>?_) λx a vs k g l q=>?_
  .exact D.cE q I (λy h e=>by cases e;exact(bg h).symm.trans BEq.rfl) (λ_ _=>ns) (λ_ _ _=>ns) (λ_ _=>ns) (λ_ _ _ _ _ _=>ns) λ_ _ _ _ _ _=>ns
  .exact D.cI q I λy u h e=>by cases e;exact(bg h).symm.trans BEq.rfl
  .exact D.cE q I (λ_=>ns) (λy u h e=>by cases e) (λy u _ h e=>(bw h).2.symm) (λ_ _=>ns) (λ_ _ _ _ _ _=>ns) λ_ _ _ _ _ _=>ns
  .exact D.cS q I λy u h e=>by cases e;exact(bg h).symm.trans BEq.rfl
  .refine D.cL q I λy a' PC k' g' J h e=>?_;cases e;cases sj (hs _ _ g) (hs _ _ g');rw[if_pos (by rw[<-l.length,<-J.length];exact BEq.rfl)]at h;exact jB (λd e v b r r' h=>js hs n d e v v b r r' h rfl) l J h
  .refine D.cT q I λy a' PC k' g' J h e=>?_;cases e;cases sj (hs _ _ g) (hs _ _ g');refine aq (mA h) λb' hb Y=>?_;obtain rfl:=Y;rw[jB (λd e v b r r' h=>js hs n d e v v b r r' h rfl) l J hb,<-l.length,<-J.length];exact BEq.rfl
theorem dS{f:D->D->Option Bool}:∀{xs ys:List D}{b:Bool},dB f xs ys=some b->
 (∀j(z:j<xs.length)(J:j<ys.length),∃c,f xs[j] ys[j]=some c)/\b=(range (min xs.length ys.length)).all (pairEq f xs ys)
 |[],ys,b,h=>⟨λj z=>(nomatch z),by rw[length_nil,Nat.zero_min];exact(bg h).symm⟩
 |_::_,[],b,h=>⟨λj _ z=>(nomatch z),(bg h).symm⟩
 |x::xs,y::ys,b,h=>by
  refine bD (mD h) λa b' ha hb I=>?_;obtain rfl:=I;obtain⟨i1,Y⟩:=dS hb;refine⟨λj z J=>?_,?_⟩
  .cases j with
   |zero=>exact⟨a,ha⟩
   |succ j=>exact i1 j (Nat.lt_of_succ_lt_succ z) (Nat.lt_of_succ_lt_succ J)
  .rw[length_cons,length_cons,Nat.succ_min_succ,List.range_succ_eq_map,List.all_cons,List.all_map,Y];congr 1;show a=(f x y).getD false;rw[ha];rfl
theorem gK{f:D->D->Option Bool}(ih:∀(d e:D)(v u:Value)(b:Bool),Rep w C G d v->Rep w C G e u->f d e=some b->EqAt A s v u b){xs ys:List D}{vs z:List Value}{b':Bool}
 (l:aE w C G xs vs)(I:aE w C G ys z)(hz:dB f xs ys=some b')(j:Nat)(h1:j<vs.toArray.size)(h2:j<z.toArray.size):EqAt A s vs.toArray[j] z.toArray[j] (pairEq f xs ys j):=by
 have Y:j<xs.length:=by rw[<-l.length];exact h1
 have J:j<ys.length:=by rw[<-I.length];exact h2
 obtain⟨c,hc⟩:=(dS hz).1 j Y J;have e1:=getElem?_eq_getElem Y;have e2:=getElem?_eq_getElem J;refine aq (l.get e1) λv1 q1 r1=>?_;refine aq (I.get e2) λu1 q2 r2=>?_;obtain⟨_,rfl⟩:=List.getElem?_eq_some_iff.mp q1;obtain⟨_,rfl⟩:=List.getElem?_eq_some_iff.mp q2;have:pairEq f xs ys j=c:=by unfold pairEq;rw[e1,e2];exact congrArg (Option.getD · false) hc
 rw[this];exact ih _ _ _ _ _ r1 r2 hc
theorem qS{xs ys:List D}{vs:List Value}(l:aE w C G xs vs)(h:(xs.length==ys.length)=true):min xs.length ys.length=vs.toArray.size:=by rw[<-eq_of_beq h,min_self];exact l.length.symm
theorem uH{xs ys:List D}{vs z:List Value}(l:aE w C G xs vs)(I:aE w C G ys z)(h:(xs.length==ys.length)=false):(vs.toArray.size !=z.toArray.size)=true:=by rw[size_toArray,size_toArray,l.length,I.length,bne,h];rfl
theorem wx(hs:∀a o,G a o->s.heap.get? a=some o)(hb:NoneBooked s.heap):∀(n:Nat)(A:Around)(d e:D)(v u:Value)(b:Bool),A.units+n<cLine->Rep w C G d v->Rep w C G e u->pT n d e=some b->EqAt A s v u b
 |0,_,_,_,_,_,_,_,_,_,h=>by exact ns h
 |n+1,A,d,e,v,u,b,hu,h1,h2,h=>by
  have ih:=λd e v u b=>wx hs hb n A.in1 d e v u b (by show A.units+1+n<cLine;exact ao 0xc112112b1a110c112b112a1110 [_,_,_] [] hu);have BD:A.units<cLine:=by exact ao 0xb112112c1a110b112a10 [_,_,_] [] hu
  refine D.cE h h1 (λx q=>?_) (λx t q=>?_) (λx t z q=>?_) (λx t q=>?_) (λxs a vs k g l q'=>?_) λxs a vs k g l q'=>?_
  .exact D.cE q h2 (λy h=>by obtain rfl:=bg h;exact EqAt.bool_bool _ _) (λ_ _=>ns) (λ_ _ _=>ns) (λ_ _=>ns) (λ_ _ _ _ _ _=>ns) λ_ _ _ _ _ _=>ns
  .refine D.cI q h2 λy u h=>?_;obtain rfl:=bg h;exact EqAt.int_int _ _ _ _
  .exact D.cE q h2 (λ_=>ns) (λy u h=>by obtain rfl:=bg h;exact Dm) (λy u z' h=>by obtain⟨hc,rfl⟩:=bw h;exact uX z z' hb hc) (λ_ _=>ns) (λ_ _ _ _ _ _=>ns) λ_ _ _ _ _ _=>ns
  .refine D.cS q h2 λy u h=>?_;obtain rfl:=bg h;exact EqAt.str_str _ _ _ _
  .refine D.cL q' h2 λys a' I k' g' Y q=>?_;by_cases J:a=a'
   .subst J;obtain rfl:=js hs (n+1) (.list xs) (.list ys) _ _ b ⟨a,vs,k,rfl,g,l⟩ ⟨a,I,k',rfl,g',Y⟩ q rfl;exact EqAt.same _
   .refine EqAt.of_refs J ?_;have i1:s.heap.IsList a vs.toArray:=⟨_,hs _ _ g,rfl,_,rfl⟩;have i2:s.heap.IsList a' I.toArray:=⟨_,hs _ _ g',rfl,_,rfl⟩;cases hl:xs.length==ys.length with
    |true=>rw[hl]at q;have:=RcAt.lists i1 i2 (l.length.trans ((eq_of_beq hl).trans Y.length.symm)) BD (gK ih l Y q);rw[(dS q).2,qS l hl];exact this
    |false=>rw[hl]at q;obtain rfl:=bg q;exact RcAt.lists_lengths i1 i2 (uH l Y hl) BD
  .refine D.cT q' h2 λys a' I k' g' Y q=>?_;by_cases J:a=a'
   .subst J;obtain rfl:=js hs (n+1) (.tup xs) (.tup ys) _ _ b ⟨a,vs,k,rfl,g,l⟩ ⟨a,I,k',rfl,g',Y⟩ q rfl;exact EqAt.same _
   .refine EqAt.of_refs J ?_;refine aq (mA q) λb' hz gD=>?_;obtain rfl:=gD;have:=RcAt.tuples (items:=vs.toArray) (items2:=I.toArray) ⟨_,hs _ _ g,rfl,_,rfl⟩ ⟨_,hs _ _ g',rfl,_,rfl⟩ BD (gK ih l Y hz);rw[(dS hz).2];simp only[size_toArray]at this;rw[l.length,Y.length]at this;exact this
noncomputable def nG(x:Int):List D->Option Bool
 |[]=>some false
 |d::ys=>d.fW λy=>(nG x ys).map (y==x|| ·)
noncomputable def ij(z:CmpOp)(a b:D):Option Bool:=match z with
 | .Eq=>a.on no (λx=>b.fW λy=>some (x==y)) (λx=>b.D6 λy=>some (cmp x y==some .eq)) (λx=>b.Fm λy=>some (x==y))
   (λxs=>b.Ik λys=>if xs.length==ys.length then dB (pT 8) xs ys else some false) λxs=>b.Kf λys=>(dB (pT 8) xs ys).map (· &&xs.length==ys.length)
 | .NotEq=>a.on no (λx=>b.fW λy=>some (!(x==y))) no (λx=>b.Fm λy=>some (!(x==y)))
   (λxs=>b.Ik λys=>if xs.length==ys.length then(dB (pT 8) xs ys).map (!·)else some true) λxs=>b.Kf λys=>(dB (pT 8) xs ys).map λb=> !(b&&xs.length==ys.length)
 | .Lt=>a.fW λx=>b.fW λy=>some (decide (x<y))
 | .LtE=>a.on no (λx=>b.fW λy=>some (decide (x<=y))) (λx=>b.D6 λy=>some (cmp x y==some .lt||cmp x y==some .eq)) no no no
 | .Gt=>a.fW λx=>b.fW λy=>some (decide (y<x))
 | .GtE=>a.fW λx=>b.fW λy=>some (decide (x>=y))
 | .In=>(match b with
   | .xH ys=>a.fW λx=>some (ys.contains x)
   | .fG ks _=>a.Fm λx=>some (ks.contains x)
   | .list ys=>a.fW λx=>nG x ys
   |_=>none)
 | .IsNot=>(match b with
   | .none=>(match a with
     | .none=>some false
     | .str _=>some true
     |_=>none)
   |_=>none)
 |_=>none
theorem wF{xs ys:List D}:ij .Eq (.tup xs) (.tup ys)=(dB (pT 8) xs ys).map (· &&xs.length==ys.length):=rfl
theorem DE{xs ys:List D}:ij .Eq (.list xs) (.list ys)=if xs.length==ys.length then dB (pT 8) xs ys else some false:=rfl
theorem wC{xs ys:List D}:ij .NotEq (.tup xs) (.tup ys)=(dB (pT 8) xs ys).map λb=> !(b&&xs.length==ys.length):=rfl
theorem wD{xs ys:List D}:ij .NotEq (.list xs) (.list ys)=if xs.length==ys.length then(dB (pT 8) xs ys).map (!·)else some true:=rfl
noncomputable def Oo(x:Int)(y:Value):Bool:=match y with| .int a _=>a==x|_=>false
theorem nF{x:Int}:∀{ys:List D}{vs:List Value}{b:Bool},aE w C G ys vs->nG x ys=some b->(∀v∈vs,∃a t,v= .int a t)/\vs.any (Oo x)=b
 |[],_,_,l,h=>by subst l;exact⟨λy hy=>(nomatch hy),bg h⟩
 |d::ys,vs,b,l,h=>by
  refine bD l ?_;clear l;intro v r I q l;obtain rfl:=I;refine D.cI h q λy t h=>?_;refine aq (mA h) λb' hb I=>?_;obtain rfl:=I;obtain⟨Y,J⟩:=nF l hb;refine⟨λz hz=>?_,congrArg (y==x|| ·) J⟩;rcases dg hz with rfl|hz
  .exact⟨y,t,rfl⟩
  .exact Y z hz
theorem aE.mem{ds:List D}{vs:List Value}(h:aE w C G ds vs){v:Value}(z:v∈vs):∃d∈ds,Rep w C G d v:=by
 induction ds generalizing vs with
 |nil=>subst h;cases z
 |cons d ds Y=>
  refine bD h λv' r I q l=>?_;clear h;obtain rfl:=I;rcases dg z with rfl|z
  .exact⟨d,.head _,q⟩
  .refine aq (Y l z) λe he J=>?_;exact⟨e,.tail _ he,J⟩
theorem mH{K:Type} [DecidableEq K] [BEq K] [LawfulBEq K] {ks:List K}{vs:List Value}(h:ks.length=vs.length)(k:K):(valueAt (ks.zip vs) k).isSome=ks.contains k:=by
 induction ks generalizing vs with
 |nil=>rfl
 |cons a ks z=>
  cases vs with
  |nil=>exact Nat.noConfusion h
  |cons v vs=>
   have z:=z (vs:=vs) (Nat.succ.inj h);simp only[valueAt,zip_cons_cons,List.find?_cons,List.contains_cons]at z⊢;by_cases D:a=k
   .subst D;simp
   .have:(k==a)=false:=by simpa using λe=>D e.symm
    simp only[decide_eq_false D,this,Bool.false_or];exact z
theorem oR.dictOf{K:Type} [DecidableEq K] {knd:KeyKind PW w K}{o:Obj}{kvs:List (K×Value)}(h:oR knd o kvs){z:Heap}{a:Addr}(ho:z.get? a=some o):z.DictOf knd a kvs:=by obtain⟨h1,es,ep,Y,J,I,D⟩:=h;exact⟨o,es,ep,ho,h1,Y,J,I,D⟩
theorem AU{op:CmpOp}{a b:D}{va vb:Value}{r:Bool}(h:ij op a b=some r)(hs:∀a o,G a o->s.heap.get? a=some o)(hb:NoneBooked s.heap)(hu:A.units<9000)
 (ra:Rep w C G a va)(rb:Rep w C G b vb):
 wpAny (model PW w) A (compareOp op va vb) (λv U=>v= .bool r/\∃k,U={s with toks:=k}) E s:=by
 have BD:A.units<cLine:=by have:cLine=9900:=rfl;exact aM 0xb26ac420232842112a10b112a10 [_,_] [] hu (ju this)
 have ih:=λd e v u b=>wx (w:=w) (C:=C) hs hb 8 A.in1 d e v u b (by show A.units+1+8<cLine;have:cLine=9900:=rfl;exact aM 0xb26ac420232842112a10b112812112a1110 [_,_] [] hu (ju this))
 suffices hq:∀{Q:Value->Shared->Prop},(∀k,Q (.bool r) {s with toks:=k})->wpAny (model PW w) A (compareOp op va vb) Q E s from hq λk=>⟨rfl,k,rfl⟩
 intro Q done;have I:=done s.toks;clear hu;cases op with
 |Eq=>
  refine D.cE h ra (λ_=>ns) (λx t h=>?_) (λx t _ h=>?_) (λx t h=>?_) (λxs a vs k g l h=>?_) λxs a vs k g l h=>?_
  .refine D.cI h rb λy u h=>?_;obtain rfl:=bg h;exact PyProof.Rows.eq_int I
  .refine D.cF h rb λy u _ h=>?_;obtain rfl:=bg h;exact AutoFloatOps.eq_0 I
  .refine D.cS h rb λy u h=>?_;obtain rfl:=bg h;exact RcAt.str_str _ _ _ _ _ _ _ _ I
  .refine D.cL h rb λys a' J k' g' l' h=>?_;have i1:s.heap.IsList a vs.toArray:=⟨_,hs _ _ g,rfl,_,rfl⟩;have i2:s.heap.IsList a' J.toArray:=⟨_,hs _ _ g',rfl,_,rfl⟩;cases hl:xs.length==ys.length with
   |true=>rw[hl]at h;refine eq_listAt i1 i2 (l.length.trans ((eq_of_beq hl).trans l'.length.symm)) BD (gK ih l l' h) ?_;rw[<-qS l hl,<-(dS h).2];exact I
   |false=>rw[hl]at h;obtain rfl:=bg h;exact eq_list_lengthsAt i1 i2 (uH l l' hl) BD I
  .refine D.cT h rb λys a' J k' g' l' h=>?_;refine aq (mA h) λb' hz Y=>?_;obtain rfl:=Y;refine eq_tupleAt (items:=vs.toArray) (items2:=J.toArray) ⟨_,hs _ _ g,rfl,_,rfl⟩ ⟨_,hs _ _ g',rfl,_,rfl⟩ BD (gK ih l l' hz) ?_;rw[(dS hz).2]at I;simp only[size_toArray];rw[l.length,l'.length];exact I
 |NotEq=>
  refine D.cE h ra (λ_=>ns) (λx t h=>?_) (λ_ _ _=>ns) (λx t h=>?_) (λxs a vs k g l h=>?_) λxs a vs k g l h=>?_
  .refine D.cI h rb λy u h=>?_;obtain rfl:=bg h;exact PyProof.Rows.ne_int I
  .refine D.cS h rb λy u h=>?_;obtain rfl:=bg h;exact RcNeAt.str_str _ _ _ _ _ _ _ _ I
  .refine D.cL h rb λys a' J k' g' l' h=>?_;have i1:s.heap.IsList a vs.toArray:=⟨_,hs _ _ g,rfl,_,rfl⟩;have i2:s.heap.IsList a' J.toArray:=⟨_,hs _ _ g',rfl,_,rfl⟩;cases hl:xs.length==ys.length with
   |true=>rw[hl]at h;refine aq (mA h) λb' hz Y=>?_;obtain rfl:=Y;refine RcNeAt.lists i1 i2 (l.length.trans ((eq_of_beq hl).trans l'.length.symm)) BD (gK ih l l' hz) _ _ _ _ ?_;rw[<-qS l hl,<-(dS hz).2];exact I
   |false=>rw[hl]at h;obtain rfl:=bg h;exact RcNeAt.lists_lengths i1 i2 (uH l l' hl) BD _ _ _ _ I
  .refine D.cT h rb λys a' J k' g' l' h=>?_;refine aq (mA h) λb' hz Y=>?_;obtain rfl:=Y;refine RcNeAt.tuples (items:=vs.toArray) (items2:=J.toArray) ⟨_,hs _ _ g,rfl,_,rfl⟩ ⟨_,hs _ _ g',rfl,_,rfl⟩ BD (gK ih l l' hz) _ _ _ _ ?_;rw[(dS hz).2]at I;simp only[size_toArray];rw[l.length,l'.length];exact I
 |Lt=>refine D.cI h ra λx t h=>?_;refine D.cI h rb λy u h=>?_;obtain rfl:=bg h;exact PyProof.Rows.lt_int I
 |LtE=>
  refine D.cE h ra (λ_=>ns) (λx t h=>?_) (λx t _ h=>?_) (λ_ _=>ns) (λ_ _ _ _ _ _=>ns) λ_ _ _ _ _ _=>ns
  .refine D.cI h rb λy u h=>?_;obtain rfl:=bg h;exact P.le_int I
  .refine D.cF h rb λy u _ h=>?_;obtain rfl:=bg h;exact AutoFloatOps.le_0 I
 |Gt=>refine D.cI h ra λx t h=>?_;refine D.cI h rb λy u h=>?_;obtain rfl:=bg h;exact PyProof.Rows.gt_int I
 |GtE=>refine D.cI h ra λx t h=>?_;refine D.cI h rb λy u h=>?_;obtain rfl:=bg h;exact P.ge_int I
 |In=>
  cases b with
  |xH ys=>refine D.cI h ra λx t h=>?_;obtain rfl:=bg h;obtain⟨a,o,rfl,g,h1,es,ep,tb,h2,h3,h4,h5,h6⟩:=rb;exact wpAny_inSet_of (knd:=intKind PW w) (k:=x) (S:=λk=>ys.contains k) (n:=es.size) (by show Value.isInt x (.int x t)=true;simp[Value.isInt]) rfl ⟨o,es,ep,tb,hs _ _ g,h1,h2,h3,h4,h5,h6,rfl⟩ (done _)
  |fG ks xs=>refine D.cS h ra λx t h=>?_;obtain rfl:=bg h;refine jT rb λa o vs mh z g h1 h2 _=>?_;clear rb;obtain rfl:=mh;refine wpAny_in_of (knd:=strKind PW w) (k:=x) (by show Value.isStrOf x (.str x t)=true;simp[Value.isStrOf]) z ((h1.dictOf (hs _ _ g)).mapOf) ?_;rw[mH h2 x];exact done _
  |list ys=>
   refine D.cI h ra λx t h=>?_;refine dR rb λa' J k' mh g' l'=>?_;clear rb;obtain rfl:=mh;obtain⟨i1,i2⟩:=nF l' h;refine in_listAt (Oo x) (items:=J.toArray) ⟨_,hs _ _ g',rfl,_,rfl⟩ (λy hy=>?_) ?_
   .refine oM (i1 y (by simpa using hy)) λa u Y=>?_;obtain rfl:=Y;exact EqAt.int_int _ _ _ _
   .rw[List.any_toArray,i2];exact I
  |_=>exact ns h
 |IsNot=>
  cases b with
  |none=>
   subst rb;cases a with
   |none=>subst ra;obtain rfl:=bg h;exact wpAny_isNot_plain rfl I
   |str _=>obtain⟨t,rfl⟩:=ra;obtain rfl:=bg h;exact wpAny_isNot_plain rfl I
   |_=>exact ns h
  |_=>exact ns h
 |_=>exact ns h
structure Cx where
 w:World
 C:Addr
 h₀:Heap
 mg:Str->Option Value
 mb:Str->Option Value
noncomputable abbrev Cx.B(c:Cx):Prop:=Base c.w c.C c.h₀ c.mg c.mb
def rJ(O:Env)(h:Heap)(x:Str)(v:Value):Prop:=
 (O.kindOf x=some .local/\∃m,h.Ns O.locals m/\m x=some v)\/
 ((O.kindOf x=some .cell\/(O.kindOf x=some .free/\(x==("__classdict__":Str))=false))/\∃a,O.cells.lookup x=some a/\h.IsCell a (some v))
theorem rJ.keeps{O:Env}{h h':Heap}{x:Str}{v:Value}(k:∀b o,h.get? b=some o->h'.get? b=some o)(i:rJ O h x v):rJ O h' x v:=by
 rcases i with⟨a,m,n,e⟩|⟨a,c,n,e⟩
 .exact .inl ⟨a,m,n.keeps k,e⟩
 .exact .inr ⟨a,c,n,e.keeps k⟩
structure Vw(c:Cx)(O:Env)(ρ:List (Str×D))(G:PH)(s:Shared):Prop where
 sub:∀a o,G a o->s.heap.get? a=some o
 base:∀a o,c.h₀.get? a=some o->G a o
 toks:0<s.toks
 kind:O.scope.kind= .function
 glob:O.globals=mainGlobals
 fq:O.builtins=builtinsNs
 vars:∀x d,ρ.lookup x=some d->∃v,rJ O s.heap x v/\Rep c.w c.C G d v
 apart:∀x y a,O.cells.lookup x=some a->O.cells.lookup y=some a->x=y
 cells:∀x a,O.cells.lookup x=some a->∃o,s.heap.get? a=some o
variable{c:Cx}{O:Env}{ρ:List (Str×D)}{k:Nat}
theorem Vw.keeps(V:Vw c O ρ G s)(h:Keeps s U)(t:s.toks<=U.toks):Vw c O ρ G U where
 sub:=λa o g=>dH h _ _ (V.sub a o g)
 base:=V.base
 toks:=lt_of_lt_of_le V.toks t
 kind:=V.kind
 glob:=V.glob
 fq:=V.fq
 vars:=λx d e=>let⟨v,i,r⟩:=V.vars x d e;⟨v,i.keeps (dH h),r⟩
 apart:=V.apart
 cells:=λx a e=>let⟨o,q⟩:=V.cells x a e;⟨o,dH h _ _ q⟩
theorem Vw.old(V:Vw c O ρ G s):∀a o,c.h₀.get? a=some o->s.heap.get? a=some o:=λa o e=>V.sub a o (V.base a o e)
theorem Vw.nb(V:Vw c O ρ G s)(B:c.B):NoneBooked s.heap:=NoneBooked.uJ B.booked V.old
theorem eH(k0:Keeps s U):∀a o,grow G U cP a o->grow G s cP a o:=by
 rintro a o (h|h)
 .exact .inl h
 .refine .inr ⟨h.1,?_⟩;exact oN λo' e=>Lw.sn ((dH k0 _ _ e).symm.trans h.2)
structure Ev(c:Cx)(A:Around)(O:Env)(ρ:List (Str×D))(G:PH)(e:Expr)(d:D):Prop where
 h:∀E s,Vw c O ρ G s->wpAny (model PW c.w) A (eval e O) (cf c.w c.C G s d) E s
structure jt(c:Cx)(A:Around)(O:Env)(ρ:List (Str×D))(G:PH)(e:Expr)(b:Bool):Prop where
 h:∀E s,Vw c O ρ G s->wpAny (model PW c.w) A (isTrue e O (eval e O)) (λr U=>r=b/\Keeps s U) E s
structure oQ(c:Cx)(A:Around)(O:Env)(ρ:List (Str×D))(G:PH)(es:List Expr)(ds:List D):Prop where
 h:∀E s pos,Vw c O ρ G s->wpAny (model PW c.w) A (spliced (backTo pos (starEach es O))) (λvs U=>Keeps s U/\aE c.w c.C (grow G s U) ds vs) E s
theorem Ev.run{e:Expr}{d:D}{Q:Value->Shared->Prop}(h:Ev c A O ρ G e d)(V:Vw c O ρ G s)(k:∀v U,cf c.w c.C G s d v U->Vw c O ρ G U->Q v U):
 wpAny (model PW c.w) A (eval e O) Q E s:=
 wpAny_mono (wpAny_toks (h.1 E s V)) (λv U p=>k v U p.2 (V.keeps p.2.1 p.1)) λ_ _ p=>p.2
theorem oQ.run{es:List Expr}{ds:List D}{pos:Pos}{Q:List Value->Shared->Prop}(h:oQ c A O ρ G es ds)(V:Vw c O ρ G s)(k:∀vs U,Keeps s U->aE c.w c.C (grow G s U) ds vs->Vw c O ρ G U->Q vs U):
 wpAny (model PW c.w) A (spliced (backTo pos (starEach es O))) Q E s:=
 wpAny_mono (wpAny_toks (h.1 E s pos V)) (λv U p=>k v U p.2.1 p.2.2 (V.keeps p.2.1 p.1)) λ_ _ p=>p.2
theorem jt.run{e:Expr}{b:Bool}{Q:Bool->Shared->Prop}(h:jt c A O ρ G e b)(V:Vw c O ρ G s)(k:∀U,Keeps s U->Vw c O ρ G U->Q b U):
 wpAny (model PW c.w) A (isTrue e O (eval e O)) Q E s:=
 wpAny_mono (wpAny_toks (h.1 E s V)) (λv U p=>by rw[p.2.1];exact k U p.2.2 (V.keeps p.2.2 p.1)) λ_ _ p=>p.2
theorem cf.join{d:D}{v:Value}(k:Keeps s U)(p:cf c.w c.C (grow G s U) U d v cP):cf c.w c.C G s d v cP:=cf.trans k p
theorem cf.two{a b:D}{I z:Value}(p:cf c.w c.C G s a I U)(q:cf c.w c.C G U b z cP):
 Keeps s cP/\Rep c.w c.C (grow G s cP) a I/\Rep c.w c.C (grow G s cP) b z:=
 ⟨aQ p.1 q.1,p.2.mono (cz q.1),q.2.mono (eH p.1)⟩
theorem Vw.gG(V:Vw c O ρ G s)(k:Keeps s U):∀a o,grow G s U a o->U.heap.get? a=some o:=km V.sub k
theorem aa{x:Str}{p:Pos}{d:D}(h:ρ.lookup x=some d)(z:(x==("__debug__":Str))=false:=by decide):Ev c A O ρ G (.Name x p) d:= .mk λE s V=>by
 refine aq (V.vars x d h) λv i r=>?_;have q:cf c.w c.C G s d v s:=⟨bj _,r.mono dM⟩;rcases i with⟨a,m,n,e⟩|⟨a|a,b,n,e⟩
 .exact wpAny_Name (wpAny_loadName_local V.kind a n e q) z
 .exact wpAny_Name (wpAny_loadName_cell V.kind a n e q) z
 .exact wpAny_Name (wpAny_loadName_free V.kind a.1 n e q a.2) z
theorem rr(B:c.B){x:Str}{p:Pos}{d:D}{v:Value}(J:O.kindOf x=some .globalImplicit)(I:c.mg x=some v)(z:Rep c.w c.C G d v)(Y:(x==("__debug__":Str))=false:=by decide):
 Ev c A O ρ G (.Name x p) d:= .mk λE s V=>
 Calls.Name_function_global V.kind J (Calls.loadGlobal_global (V.glob▸B.g.keeps V.old) I ⟨bj _,z.mono dM⟩) Y
theorem nY(B:c.B){x:Str}{p:Pos}{d:D}{v:Value}(J:O.kindOf x=some .globalImplicit)(I:c.mg x=some v)(z:Rep c.w c.C (λa o=>c.h₀.get? a=some o) d v)(Y:(x==("__debug__":Str))=false:=by decide):
 Ev c A O ρ G (.Name x p) d:= .mk λE s V=>
 Calls.Name_function_global V.kind J (Calls.loadGlobal_global (V.glob▸B.g.keeps V.old) I ⟨bj _,z.mono λa o e=> .inl (V.base a o e)⟩) Y
theorem aj{i:Int}{n:Nat}{p:Pos}:Ev c A O ρ G (.Constant (.int i) n p) (.int i):= .mk λE s V=>wpAny_Constant_int (post_int s _ _ _)
theorem eh{x:Str}{n:Nat}{p:Pos}:Ev c A O ρ G (.Constant (.str x) n p) (.str x):= .mk λE s V=>wpAny_Constant_str (post_str s _ _ _)
theorem mr{b:Bool}{n:Nat}{p:Pos}:Ev c A O ρ G (.Constant (.bool b) n p) (.bool b):= .mk λE s V=>wpAny_Constant_bool (post_bool s _)
theorem wm{n:Nat}{p:Pos}:Ev c A O ρ G (.Constant .none n p) .none:= .mk λE s V=>wpAny_Constant_none (xh s)
theorem dD{x:UInt64}{n:Nat}{p:Pos}:Ev c A O ρ G (.Constant (.float x) n p) (.aV x):= .mk λE s V=>(λ_ _ _=>eQ s x s.toks (s.toks+1) (ne_of_gt V.toks):wpAny (model PW c.w) A (eval (.Constant (.float x) n p) O) (cf c.w c.C G s (.aV x)) E s)
theorem ag{op:Operator}{l r:Expr}{pos:Pos}{a b d:D}(hl:Ev c A O ρ G l a)(hr:Ev c A O ρ G r b)(h:gf op a b=some d):Ev c A O ρ G (.BinOp l op r pos) d:= .mk λE s V=>
 wpAny_BinOp (hl.run V λva s₁ I Y=>hr.run Y λvb ay z J=>by refine eJ (I.two z) λk ra rb=>?_;exact wpAny_mono (GS h J.toks (V.gG k) ra rb) (λv bB p=>p.join k) λ_ _ e=>e)
noncomputable def PJ(z:UnaryOp)(a:D):Option D:=match z with
 | .USub=>a.fW λx=>some (.int (-x))
 | .Invert=>a.fW λx=>some (.int (Builtin.bitNot x))
 |_=>none
theorem gN{I:UnaryOp}{x:Expr}{pos:Pos}{a d:D}(Y:Ev c A O ρ G x a)(h:PJ I a=some d):Ev c A O ρ G (.UnaryOp I x pos) d:= .mk λE s V=>
 wpAny_UnaryOp (Y.run V λva s₁ z J=>by
  have k:=z.1;have r:=z.2;cases I with
  |USub=>refine D.cI h r λx t h=>?_;obtain rfl:=bg h;exact PyProof.Rows.neg_int ((post_int s₁ _ _ _).join k)
  |Invert=>refine D.cI h r λx t h=>?_;obtain rfl:=bg h;exact invert_int ((post_int s₁ _ _ _).join k)
  |_=>exact ns h)
theorem CN{v:Value}{r:Bool}(h:v= .bool r/\∃k,U={s with toks:=k}):cf c.w c.C G s (.bool r) v U:=by obtain⟨rfl,k,rfl⟩:=h;exact uy s r k
theorem ia(B:c.B)(R:aL A k){op:CmpOp}{l r:Expr}{pos:Pos}{a b:D}{t:Bool}(hl:Ev c A O ρ G l a)(hr:Ev c A O ρ G r b)(h:ij op a b=some t)
 (hm:behindInMarks op r=false:=by with_unfolding_all rfl):Ev c A O ρ G (.Compare l [op] [r] pos) (.bool t):= .mk λE s V=>
 wpAny_Compare1 (hl.run V λva s₁ I Y=>hr.run Y λvb ay z J=>by refine eJ (I.two z) λk ra rb=>?_;exact wpAny_mono (AU h (V.gG k) (J.nb B) (by have:=R.units;exact ao 0x232842112ba13a110232842112a10 [_,_] [] this) ra rb) (λv bB p=>(CN p).join k) λ_ _ e=>e) hm
noncomputable def H4(a:D):Option Bool:=match a with
 | .bool b=>some b
 | .int x=>some (x !=0)
 | .str x=>if sizeOk x.length then some (x.length !=0)else none
 | .list xs=>if sizeOk xs.length then some (!xs.isEmpty)else none
 | .none=>some false
 |_=>none
theorem ER{a:D}{v:Value}{r:Bool}(h:H4 a=some r)(hs:∀a o,G a o->s.heap.get? a=some o)(ra:Rep c.w c.C G a v):
 wpAny (model PW c.w) A (truthy v) (λt U=>t=r/\Keeps s U) E s:=by
 cases a with
 |bool b=>obtain rfl:=bg h;obtain rfl:=ra;exact wpAny_truthy_bool ⟨rfl,bj _⟩
 |int x=>obtain rfl:=bg h;exact ra.elim λt e=>e▸PyProof.Rows.truthy_int ⟨rfl,bj _⟩
 |str x=>refine iF (bw h) λhz e=>?_;subst e;refine ra.elim λt e=>?_;subst e;refine P.truthy_str (by exact G8 (ao 0x100000072a03f2215112a718 [_] [] (le_of_ble_eq_true hz))) ⟨?_,bM _ _⟩;rw[Bool.eq_iff_iff];simp
 |list xs=>refine iF (bw h) λhz e=>?_;subst e;refine dR ra λl vs n z g I=>?_;clear ra;obtain rfl:=z;refine wpAny_truthy_list ⟨_,hs _ _ g,rfl,_,rfl⟩ (by simp only[size_toArray];rw[I.length];exact ao 0x100000072a03f2215112a718 [_] [] (le_of_ble_eq_true hz)) ⟨?_,bM _ _⟩;have:=I.length;cases xs<;>cases vs<;>first|rfl|cases this
 |none=>obtain rfl:=bg h;obtain rfl:=ra;exact truthy_none ⟨rfl,bj _⟩
 |_=>exact ns h
theorem gU{e:Expr}{a:D}{r:Bool}(he:Ev c A O ρ G e a)(h:H4 a=some r)(ht:∀z:Sem Value,isTrue e O z=(do let v<-z;standAt e.pos;holding [v] (truthy v)):=by intro _;rfl):
 jt c A O ρ G e r:= .mk λE s V=>
 wpAny_isTrue_value (he.run V λv s₁ p I=>wpAny_mono (ER h (V.gG p.1) p.2) (λt ay q=>⟨q.1,aQ p.1 q.2⟩) λ_ _ e=>e) (ht _)
theorem aC(B:c.B)(R:aL A k){op:CmpOp}{l r:Expr}{pos:Pos}{a b:D}{t:Bool}(hl:Ev c A O ρ G l a)(hr:Ev c A O ρ G r b)(h:ij op a b=some t)
 (hm:behindInMarks op r=false:=by with_unfolding_all rfl):jt c A O ρ G (.Compare l [op] [r] pos) t:= .mk λE s V=>
 wpAny_isTrue_Compare1 (hl.run V λva s₁ I Y=>hr.run Y λvb ay z J=>by obtain⟨k,ra,rb⟩:=I.two z;refine wpAny_mono (AU h (V.gG k) (J.nb B) (by have:=R.units;exact ao 0x232842112ba13a110232842112a10 [_,_] [] this) ra rb) (λv bB p=>?_) λ_ _ e=>e;obtain⟨rfl,kk,rfl⟩:=p;exact wpAny_truthy_bool ⟨rfl,aQ k (bM _ _)⟩) hm
theorem BZ{x:Expr}{pos:Pos}{b z:Bool}(h:jt c A O ρ G x b)(e:(!b)=z):jt c A O ρ G (.UnaryOp .Not x pos) z:= .mk λE s V=>wpAny_isTrue_Not (h.run V λs₁ k _=>⟨e,k⟩)
theorem rV{x:Expr}{rest:List Expr}{pos:Pos}(h:jt c A O ρ G x false):jt c A O ρ G (.BoolOp .And (x::rest) pos) false:= .mk λE s V=>wpAny_isTrue_BoolOp (wpAny_allTrue_And_cons (h.run V λs₁ k _=>by rw[if_neg Bool.false_ne_true];exact⟨rfl,k⟩))
theorem rU{x y:Expr}{pos:Pos}{b:Bool}(h:jt c A O ρ G x true)(h':jt c A O ρ G y b):jt c A O ρ G (.BoolOp .And [x,y] pos) b:= .mk λE s V=>
 wpAny_isTrue_BoolOp (wpAny_allTrue_And_cons (h.run V λs₁ k D=>by
  rw[if_pos rfl];refine wpAny_allTrue_And_cons (h'.run D λay z _=>?_);cases b
  .rw[if_neg Bool.false_ne_true];exact⟨rfl,aQ k z⟩
  .rw[if_pos rfl];exact wpAny_allTrue_And_nil ⟨rfl,aQ k z⟩))
theorem mi{x y:Expr}{pos:Pos}{b:Bool}(h:jt c A O ρ G x false)(h':jt c A O ρ G y b):jt c A O ρ G (.BoolOp .Or [x,y] pos) b:= .mk λE s V=>
 wpAny_isTrue_BoolOp (wpAny_allTrue_Or_cons (h.run V λs₁ k D=>by
  rw[if_neg Bool.false_ne_true];refine wpAny_allTrue_Or_cons (h'.run D λay z _=>?_);cases b
  .rw[if_neg Bool.false_ne_true];exact wpAny_allTrue_Or_nil ⟨rfl,aQ k z⟩
  .rw[if_pos rfl];exact⟨rfl,aQ k z⟩))
theorem Dl{x y:Expr}{pos:Pos}{d:D}(h:Ev c A O ρ G x (.bool true))(h':Ev c A O ρ G y d):Ev c A O ρ G (.BoolOp .And [x,y] pos) d:= .mk λE s V=>
 wpAny_And2 (h.run V λv s₁ p z=>by have r:=p.2;subst r;refine wpAny_truthy_bool ?_;rw[if_pos rfl];exact h'.run z λv ay q _=>⟨aQ p.1 q.1,q.2.mono (eH p.1)⟩)
theorem pR{test x y:Expr}{pos:Pos}{b:Bool}{d:D}(h:jt c A O ρ G test b)(J:b=true->Ev c A O ρ G x d)(I:b=false->Ev c A O ρ G y d):Ev c A O ρ G (.IfExp test x y pos) d:= .mk λE s V=>
 wpAny_IfExp (h.run V λs₁ k z=>by
  cases b
  .rw[if_neg Bool.false_ne_true];exact(I rfl).run z λv ay q _=>⟨aQ k q.1,q.2.mono (eH k)⟩
  .rw[if_pos rfl];exact(J rfl).run z λv ay q _=>⟨aQ k q.1,q.2.mono (eH k)⟩)
theorem ai:oQ c A O ρ G [] []:= .mk λE s pos V=>wpAny_items_nil ⟨bj _,by exact rfl⟩
theorem ae{e:Expr}{es:List Expr}{d:D}{ds:List D}(h:Ev c A O ρ G e d)(h':oQ c A O ρ G es ds)
 (he:starEach (e::es) O=(false,eval e O)::starEach es O:=by rfl):oQ c A O ρ G (e::es) (d::ds):= .mk λE s pos V=>
 wpAny_items_cons (h.run V λv s₁ p z=>h'.run z λvs ay k l I=>⟨aQ p.1 k,by show ∃_,_;exact⟨v,vs,rfl,p.2.mono (cz k),l.mono (eH p.1)⟩⟩) he
theorem bb{es:List Expr}{n:Nat}{pos:Pos}{ds:List D}(h:oQ c A O ρ G es ds)(hz:sizeOk ds.length=true:=by rfl):Ev c A O ρ G (.Tuple es n pos) (.tup ds):= .mk λE s V=>wpAny_Tuple (h.run V λvs s₁ k l z=>⟨by rw[l.length];exact le_trans (le_of_ble_eq_true hz) (by rw[sizeLine_eq];decide),(sx s₁ l).join k⟩)
theorem bq{es:List Expr}{pos:Pos}{ds:List D}(h:oQ c A O ρ G es ds)(hz:sizeOk ds.length=true:=by rfl):Ev c A O ρ G (.List es pos) (.list ds):= .mk λE s V=>wpAny_List (h.run V λvs s₁ k l z=>⟨by rw[l.length];exact le_trans (le_of_ble_eq_true hz) (by rw[sizeLine_eq];decide),(jn s₁ l).join k⟩)
structure Gd(c:Cx)(G:PH)(s:Shared):Prop where
 sub:∀a o,G a o->s.heap.get? a=some o
 base:∀a o,c.h₀.get? a=some o->G a o
 toks:0<s.toks
def Callee(c:Cx)(A:Around)(f:Value)(ds:List D)(d:D):Prop:=
 ∀E s G vs,Gd c G s->aE c.w c.C G ds vs->wpAny (model PW c.w) A (call f vs) (cf c.w c.C G s d) E s
inductive Plain(c:Cx):Value->Prop
 |b (id:String):Plain c (.builtin id)
 |t (T:String):Plain c (.type T)
 |f (a:Addr) (o:Obj) (fd:FuncData) (h:c.h₀.get? a=some o) (z:o.data= .func fd):Plain c (.ref a)
variable{af:Shared}
theorem Vw.gd(V:Vw c O ρ G s):Gd c G s:=⟨V.sub,V.base,V.toks⟩
theorem Gd.old(g:Gd c G s):∀a o,c.h₀.get? a=some o->s.heap.get? a=some o:=λa o e=>g.sub a o (g.base a o e)
theorem Gd.nb(g:Gd c G s)(B:c.B):NoneBooked s.heap:=NoneBooked.uJ B.booked g.old
theorem bN{M:Model}{f:Value}{args:List (Bool×Sem Value)}{Q:Args->Shared->Prop}(z:args.any (·.1)=false)
 (h:wpAny M A (spliced args) (λvs U=>Q ⟨vs,[]⟩ U) E s):wpAny M A (evalArgs f true args []) Q E s:=by
 cases args with
 |nil=>unfold evalArgs;show wpAny M A (spliced []>>=_) Q E s;refine wpAny_bind (wpAny_mono h (λvs U h'=>?_) λ_ _ x=>x);refine wpAny_bind (wpAny_pure ?_);refine wpAny_holding ?_;exact wpAny_bind (wpAny_pure (wpAny_bind (wpAny_pure (wpAny_pure h'))))
 |cons x rest=>
  obtain⟨b,x⟩:=x;cases b with
  |false=>exact Calls.evalArgs_plain h
  |true=>simp at z
theorem iq{pos:Pos}:∀{l:List (Bool×Sem Value)},l.any (·.1)=false->(backTo pos l).any (·.1)=false
 |[],_=>rfl
 |(b,x)::r,h=>by simp only[List.any_cons,Bool.or_eq_false_iff]at h;exact Bool.or_eq_false_iff.mpr ⟨h.1,iq h.2⟩
theorem eV{f:Value}{es:List Expr}{first:List Value}{ds0 ds:List D}{d:D}{pos:Pos}(hp:Plain c f)(k0:Keeps af s)(h0:∀a o,G a o->af.heap.get? a=some o)(V:Vw c O ρ G s)
 (hf:aE c.w c.C (grow G af s) ds0 first)(ha:oQ c A O ρ G es ds)(iC:(starEach es O).any (·.1)=false)(hc:Callee c A f (ds0++ds) d):
 wpAny (model PW c.w) A (callWith pos f first (backTo pos (starEach es O)) []) (cf c.w c.C G af d) E s:=by
 have Y:wpAny (model PW c.w) A (spliced (backTo pos (starEach es O))) (λvs s₁=>Vw c O ρ G s₁/\wpAny (model PW c.w) A (call f (first++vs)) (cf c.w c.C G af d) E s₁) E s:=
  ha.run V λvs s₁ I Fy J=>⟨J,by have kk:=aQ k0 I;refine wpAny_mono (hc E s₁ (grow G af s₁) (first++vs) ⟨km h0 kk,λa o e=> .inl (V.base a o e),J.toks⟩ ((hf.mono (cz I)).append (Fy.mono (eH k0)))) (λv ay p=>cf.trans kk p) λ_ _ e=>e⟩
 have z:=iq (pos:=pos) iC;cases hp with
 |b id=>exact Calls.callWith_builtin z (bN z (wpAny_mono Y (λ_ _ h=>h.2) λ_ _ e=>e))
 |t T=>exact PySem.callWith_type z (bN z (wpAny_mono Y (λ_ _ h=>h.2) λ_ _ e=>e))
 |f a o fd h hd=>exact Calls.callWith_function (bN z (wpAny_mono Y (λ_ s₁ h'=>⟨⟨h'.1.old a o h,hd⟩,h'.2⟩) λ_ _ e=>e))
theorem aF(B:c.B){x:Str}{f:Value}{p pos:Pos}{es:List Expr}{ds:List D}{d:D}(hk:O.kindOf x=some .globalImplicit)(Y:c.mg x=none)(hb:bootBuiltins x=some f)(I:x≠"__name__")
 (J:Plain c f)(ha:oQ c A O ρ G es ds)(z:(starEach es O).any (·.1)=false)(hc:Callee c A f ds d)(hd:(x==("__debug__":Str))=false:=by decide):
 Ev c A O ρ G (.Call (.Name x p) es [] pos) d:= .mk λE s V=>
 wpAny_Call_NameR (Calls.Name_function_global V.kind hk (Calls.loadGlobal_builtin (V.glob▸B.g.keeps V.old) Y (V.fq▸B.b.keeps V.old) ((B.builtins x I).trans hb)
  (eV (ds0:=[]) J (bj s) V.sub V (by exact rfl) ha z hc)) hd)
theorem bz(B:c.B){x:Str}{f:Value}{p pos:Pos}{es:List Expr}{ds:List D}{d:D}(Y:O.kindOf x=some .globalImplicit)(J:c.mg x=some f)
 (I:Plain c f)(ha:oQ c A O ρ G es ds)(z:(starEach es O).any (·.1)=false)(hc:Callee c A f ds d)(hd:(x==("__debug__":Str))=false:=by decide):
 Ev c A O ρ G (.Call (.Name x p) es [] pos) d:= .mk λE s V=>
 wpAny_Call_NameR (Calls.Name_function_global V.kind Y (Calls.loadGlobal_global (V.glob▸B.g.keeps V.old) J
  (eV (ds0:=[]) I (bj s) V.sub V (by exact rfl) ha z hc)) hd)
structure EB(T:String)(name:Str)(id:String):Prop where
 pa:PlainAttrs T
 slot:Slot T name id
 ty:typeOf (.builtin id)=pure (.type "method_descriptor")
noncomputable def Kb:D->String
 | .int _=>"int"
 | .str _=>"str"
 | .list _=>"list"
 | .bT _ _=>"dict"
 | .fG _ _=>"dict"
 | .tup _=>"tuple"
 |_=>"?"
theorem H0{d:D}{v:Value}(r:Rep c.w c.C G d v)(hs:∀a o,G a o->s.heap.get? a=some o)(h:Kb d≠"?"):s.TypeIs v (Kb d)/\∀a,v= .ref a->∃I,s.heap.get? a=some I/\I.dict=none:=by
 cases d with
 |int i=>obtain⟨t,rfl⟩:=r;exact⟨typeIs_int _ _ _,λ_ e=>nomatch e⟩
 |str x=>obtain⟨t,rfl⟩:=r;exact⟨typeIs_str _ _ _,λ_ e=>nomatch e⟩
 |list xs=>refine dR r λa vs n z g _=>?_;clear r;obtain rfl:=z;exact⟨⟨_,hs _ _ g,rfl⟩,λ_ e=>by cases e;exact⟨_,hs _ _ g,rfl⟩⟩
 |tup xs=>refine dR r λa vs n z g _=>?_;clear r;obtain rfl:=z;exact⟨⟨_,hs _ _ g,rfl⟩,λ_ e=>by cases e;exact⟨_,hs _ _ g,rfl⟩⟩
 |bT ks xs=>refine yb r λa o vs z _ g k _=>?_;clear r;obtain rfl:=z;exact⟨⟨_,hs _ _ g,k.1.1⟩,λ_ e=>by cases e;exact⟨_,hs _ _ g,k.1.2.1⟩⟩
 |fG ks xs=>refine yb r λa o vs z _ g k _=>?_;clear r;obtain rfl:=z;exact⟨⟨_,hs _ _ g,k.1.1⟩,λ_ e=>by cases e;exact⟨_,hs _ _ g,k.1.2.1⟩⟩
 |_=>exact absurd rfl h
theorem dA{o:Expr}{name:Str}{z pos:Pos}{es:List Expr}{id:String}{d0 d:D}{ds:List D}(M:EB (Kb d0) name id)(h0:(Kb d0=="?")=false)(he:Ev c A O ρ G o d0)(ha:oQ c A O ρ G es ds)
 (iC:(starEach es O).any (·.1)=false)(hc:Callee c A (.builtin id) (d0::ds) d)
 (J:attributeBase o name O (eval o O)=eval o O)
 (Y:((backTo pos (starEach es O)).all (λx=> !x.1)&&(backToKw pos (keywordEach [] O)).all (λx=>x.1.isSome)
  &&decide (es.length+([]:List Keyword).length+(if([]:List Keyword).isEmpty then 0 else 1)<30))=true)
 (I:(z.endLine==pos.line)=true):Ev c A O ρ G (.Call (.Attribute o name z) es [] pos) d:= .mk λE s V=>
 wpAny_Call_method J Y I M.pa M.slot M.ty (he.run V λov s₁ p ou=>by obtain⟨t1,t2⟩:=H0 p.2 (V.gG p.1) (by simpa using h0);refine⟨t1,t2,eV (.b id) p.1 V.sub ou (ds0:=[d0]) ?_ ha iC hc⟩;show ∃_,_;exact⟨ov,[],rfl,p.2,rfl⟩)
theorem aE.one{w:World}{C:Addr}{d:D}{vs:List Value}(h:aE w C G [d] vs):∃v,vs=[v]/\Rep w C G d v:=by refine bD h λv r I q z=>?_;clear h;obtain rfl:=I;obtain rfl:=z;exact⟨v,rfl,q⟩
theorem aE.two{w:World}{C:Addr}{d e:D}{vs:List Value}(h:aE w C G [d,e] vs):∃v u,vs=[v,u]/\Rep w C G d v/\Rep w C G e u:=by obtain⟨v,r,rfl,q,u,I,rfl,z,rfl⟩:=h;exact⟨v,u,rfl,q,z⟩
theorem aE.three{w:World}{C:Addr}{d e f:D}{vs:List Value}(h:aE w C G [d,e,f] vs):∃v u x,vs=[v,u,x]/\Rep w C G d v/\Rep w C G e u/\Rep w C G f x:=by obtain⟨v,r,rfl,q,u,Y,rfl,J,x,I,rfl,z,rfl⟩:=h;exact⟨v,u,x,rfl,q,J,z⟩
theorem aE.ints{w:World}{C:Addr}:∀{ns:List Int}{vs:List Value},aE w C G (ns.map .int) vs->IntsAre vs ns
 |[],vs,h=>by subst h;exact .nil
 |n::ns,vs,h=>by refine bD h λv r D z l=>?_;clear h;obtain rfl:=D;obtain⟨t,rfl⟩:=z;exact .cons n t (aE.ints l)
theorem aE.strs{w:World}{C:Addr}:∀{ns:List Str}{vs:List Value},aE w C G (ns.map .str) vs->StrsAre vs ns
 |[],vs,h=>by subst h;exact .nil
 |n::ns,vs,h=>by refine bD h λv r D z l=>?_;clear h;obtain rfl:=D;obtain⟨t,rfl⟩:=z;exact .cons n t (aE.strs l)
theorem lst{w:World}{C:Addr}{xs:List D}{v:Value}(hs:∀a o,G a o->s.heap.get? a=some o)(h:Rep w C G (.list xs) v):∃a vs,v= .ref a/\s.heap.IsList a vs.toArray/\aE w C G xs vs:=by refine dR h λa vs n z g l=>?_;clear h;obtain rfl:=z;exact⟨a,vs,rfl,⟨_,hs _ _ g,rfl,_,rfl⟩,l⟩
theorem Kc{w:World}{C:Addr}{xs:List D}{v:Value}(hs:∀a o,G a o->s.heap.get? a=some o)(h:Rep w C G (.tup xs) v):∃a vs,v= .ref a/\IsTup s.heap a vs.toArray/\aE w C G xs vs:=by refine dR h λa vs n z g l=>?_;clear h;obtain rfl:=z;exact⟨a,vs,rfl,⟨_,hs _ _ g,rfl,_,rfl⟩,l⟩
theorem fJ{d:D}{v:Value}{h':Heap}{tk:Nat}(z:∀b o,s.heap.get? b=some o->h'.get? b=some o)(r:Rep c.w c.C (grow G s {s with heap:=h',toks:=tk}) d v):
 cf c.w c.C G s d v {s with heap:=h',toks:=tk}:=⟨⟨h',tk,rfl,z⟩,r⟩
theorem m7{i:Int}{t:Tok}{h':Heap}{tk:Nat}(z:∀b o,s.heap.get? b=some o->h'.get? b=some o):cf c.w c.C G s (.int i) (.int i t) {s with heap:=h',toks:=tk}:=
 fJ z (by exact Exists.intro _ rfl)
noncomputable def Fz:D->Option Int
 | .list xs=>if sizeOk xs.length then some xs.length else none
 | .tup xs=>if sizeOk xs.length then some xs.length else none
 | .str x=>if sizeOk x.length then some x.length else none
 |_=>none
theorem gP{d:D}{n:Int}(h:Fz d=some n):Callee c A (.builtin "len") [d] (.int n):=λE s G vs g l=>by
 refine aq l.one λv z r=>?_;obtain rfl:=z;cases d with
 |list xs=>refine iF (bw h) λhz w=>?_;subst w;refine bD (lst g.sub r) λa vs w J I=>?_;subst w;have e:=I.length;refine PySem.Calls.call_len_list J (by simp only[size_toArray];exact aM 0x100000072b0ba03f2215112a718 [_,_] [] (dX e) (le_of_ble_eq_true hz)) ?_;simp only[size_toArray,e];exact post_int s _ _ _
 |tup xs=>refine iF (bw h) λhz w=>?_;subst w;refine bD (Kc g.sub r) λa vs w J I=>?_;subst w;have e:=I.length;refine len_tuple J (by simp only[size_toArray];exact aM 0x100000072b0ba03f2215112a718 [_,_] [] (dX e) (le_of_ble_eq_true hz)) ?_;simp only[size_toArray,e];exact post_int s _ _ _
 |str x=>refine iF (bw h) λhz w=>?_;subst w;refine r.elim λt w=>?_;subst w;exact PySem.P.len_str (by exact G8 (ao 0x100000072a03f2215112a718 [_] [] (le_of_ble_eq_true hz))) (post_int s _ _ _)
 |_=>exact ns h
theorem rA(R:aL A k){ns:List Int}{M:Int}(Y:M∈ns)(h2:∀a∈ns,a<=M):Callee c A (.builtin "max") [.list (ns.map .int)] (.int M):=λE s G vs g l=>by
 refine aq l.one λv D r=>?_;obtain rfl:=D;obtain⟨a,vs,rfl,I,l⟩:=lst g.sub r;have hi:=l.ints;obtain⟨xs,J⟩:=hi.allInts.items;have z:0<vs.length:=by rw[hi.length];exact List.length_pos_of_mem Y
 rw[J]at I;have hn:xs.toList.map (·.1)=ns:=by rw[<-nums_intItems,<-J];exact hi.numsOf
 have hsz:xs.size=ns.length:=by rw[<-hn];simp
 refine max_intList R.handled I (by rw[hsz,<-hi.length];exact z) λv h' tk hv hk=>?_;obtain⟨t,rfl⟩:=intItems_at hv;obtain⟨q1,q2⟩:=argBest_gt (numAt xs) (xs.size-1);have e:numAt xs (argBest (λi j=>decide (numAt xs i>numAt xs j)) (xs.size-1))=M:=by
  apply le_antisymm
  .rw[numAt_eq,hn];exact h2 _ (getD_mem (by have:=hi.length;exact cU 0xbd0d112c10ca0b112a10 [_,_,_,_] [] q1 (dE (cU 0xb1120210ac0cb0a1120 [_,_,_] [] (dX this) (ju hsz) z)) (dX hsz)))
  .refine aq (mem_getD Y) λj hj e=>?_;have:=q2 j (by exact cU 0x112b1d0dc0c112a10ba0 [_,_,_,_] [] hj (ju hsz) eC);rw[numAt_eq xs j,hn,e]at this;exact this
 rw[e];exact m7 hk
theorem GJ(R:aL A k){ns:List Int}{M:Int}(Y:M∈ns)(h2:∀a∈ns,M<=a):Callee c A (.builtin "min") [.list (ns.map .int)] (.int M):=λE s G vs g l=>by
 refine aq l.one λv D r=>?_;obtain rfl:=D;obtain⟨a,vs,rfl,I,l⟩:=lst g.sub r;have hi:=l.ints;obtain⟨xs,J⟩:=hi.allInts.items;have z:0<vs.length:=by rw[hi.length];exact List.length_pos_of_mem Y
 rw[J]at I;have hn:xs.toList.map (·.1)=ns:=by rw[<-nums_intItems,<-J];exact hi.numsOf
 have hsz:xs.size=ns.length:=by rw[<-hn];simp
 refine min_intList R.handled I (by rw[hsz,<-hi.length];exact z) λv h' tk hv hk=>?_;obtain⟨t,rfl⟩:=intItems_at hv;obtain⟨q1,q2⟩:=argBest_lt (numAt xs) (xs.size-1);have e:numAt xs (argBest (λi j=>decide (numAt xs i<numAt xs j)) (xs.size-1))=M:=by
  apply le_antisymm
  .refine aq (mem_getD Y) λj hj e=>?_;have:=q2 j (by exact cU 0x112b1d0dc0c112a10ba0 [_,_,_,_] [] hj (ju hsz) eC);rw[numAt_eq xs j,hn,e]at this;exact this
  .rw[numAt_eq,hn];exact h2 _ (getD_mem (by have:=hi.length;exact cU 0xbd0d112c10ca0b112a10 [_,_,_,_] [] q1 (dE (cU 0xb1120210ac0cb0a1120 [_,_,_] [] (dX this) (ju hsz) z)) (dX hsz)))
 rw[e];exact m7 hk
theorem vh(R:aL A k){a b:Int}:Callee c A (.builtin "max") [.int a,.int b] (.int (if b>a then b else a)):=λE s G vs g l=>by refine bD l.two λv u z I D=>?_;obtain rfl:=z;obtain⟨t,rfl⟩:=I;obtain⟨Y,rfl⟩:=D;refine max_two_ints R.handled λh' tk J=>?_;split<;>exact m7 J
theorem GK(R:aL A k){a b:Int}:Callee c A (.builtin "min") [.int a,.int b] (.int (if b<a then b else a)):=λE s G vs g l=>by refine bD l.two λv u z I D=>?_;obtain rfl:=z;obtain⟨t,rfl⟩:=I;obtain⟨Y,rfl⟩:=D;refine min_two_ints R.handled λh' tk J=>?_;split<;>exact m7 J
theorem Bf(R:aL A k){ns:List Int}:Callee c A (.builtin "sum") [.list (ns.map .int)] (.int ns.sum):=λE s G vs g l=>by
 refine aq l.one λv z r=>?_;obtain rfl:=z;obtain⟨a,vs,rfl,D,l⟩:=lst g.sub r;have hi:=l.ints;obtain⟨xs,I⟩:=hi.allInts.items;rw[I]at D;have hn:xs.toList.map (·.1)=ns:=by rw[<-nums_intItems,<-I];exact hi.numsOf
 refine sum_intListG R.handled D λh' tk Y J=>?_;rw[preSum_eq,hn,take_of_length_le (by rw[<-hn];simp)];exact m7 J
theorem tP{x:Nat}:Callee c A (.builtin "ord") [.str ⟨#[x]⟩] (.int x):=λE s G vs g l=>by refine aq l.one λv z r=>?_;obtain rfl:=z;obtain⟨t,rfl⟩:=r;exact PySem.P.ord_of_char (post_int s _ _ _)
theorem JT{i:Int}(h:(decide (i<0)||decide (i>0x10FFFF))=false):Callee c A (.builtin "chr") [.int i] (.str ⟨#[i.toNat]⟩):=λE s G vs g l=>by refine aq l.one λv z r=>?_;obtain rfl:=z;obtain⟨t,rfl⟩:=r;exact PySem.P.chr_of_int h (post_str s _ _ _)
theorem Bl{a b:Int}(h:fe b=true):Callee c A (.builtin "divmod") [.int a,.int b] (.tup [.int (a.fdiv b),.int (a.fmod b)]):=λE s G vs g l=>by refine bD l.two λv u z I D=>?_;obtain rfl:=z;simp only[fe,and_eq_true,not_eq_true',beq_eq_false_iff_ne]at h;obtain⟨t,rfl⟩:=I;obtain⟨J,rfl⟩:=D;refine divmod_int h.1 ?_ (.inl (PyProof.noPylong_of_log2 (le_of_ble_eq_true h.2)));refine⟨⟨_,_,rfl,λ_ _ e=>get?_push_of_some _ e⟩,?_⟩;show ∃_,_;exact⟨_,[.int (a.fdiv b) s.toks,.int (a.fmod b) (s.toks+1)],0,rfl,.inr (gv s _),by show ∃_,_;exact⟨_,_,rfl,⟨_,rfl⟩,_,_,rfl,⟨_,rfl⟩,rfl⟩⟩
theorem vj{a:Int}:Callee c A (.builtin "int.bit_length") [.int a] (.int (intBits a:Nat)):=λE s G vs g l=>by refine aq l.one λv z r=>?_;obtain rfl:=z;obtain⟨t,rfl⟩:=r;exact call_gives F.slot_int_bit_length (typeIs_int s a t) F.entry_int_bit_length (F.args_int_bit_length_1 _) (AutoIntG2.int_bit_length_int_0 a t) (post_int s _ _ _)
theorem Bj{x:Str}{ys:List Str}(D:(ys.map (·.length)).sum+ys.length*x.length<=16777216):Callee c A (.builtin "str.join") [.str x,.list (ys.map .str)] (.str (Txt.join x ys)):=λE s G vs g l=>by refine bD l.two λv u z J I=>?_;obtain rfl:=z;refine bD (lst g.sub I) λa vs z il Y=>?_;obtain rfl:=z;obtain⟨t,rfl⟩:=J;exact PyProof.Rows.join_list il Y.strs D λt' k=>post_str s _ _ _
theorem wJ{x y:Str}:Callee c A (.builtin "str.count") [.str x,.str y] (.int (Builtin.Str.occurrences x y 0 x.length (x.length+1)).length):=λE s G vs g l=>by refine bD l.two λv u z J I=>?_;obtain rfl:=z;obtain⟨t,rfl⟩:=J;obtain⟨D,rfl⟩:=I;exact call_gives F.slot_str_count (typeIs_str s x t) F.entry_str_count (F.args_str_count_2 _ _) (gives_str_count x y t D) (post_int s _ _ _)
theorem DJ{x y:Str}{i:Nat}{rest:List Nat}(h:Builtin.Str.occurrences x y 0 x.length 1=i::rest):Callee c A (.builtin "str.index") [.str x,.str y] (.int i):=λE s G vs g l=>by refine bD l.two λv u z J I=>?_;obtain rfl:=z;obtain⟨t,rfl⟩:=J;obtain⟨D,rfl⟩:=I;exact call_gives F.slot_str_index (typeIs_str s x t) F.entry_str_index (F.args_str_index_2 _ _) (gives_str_index x y t D i rest h) (post_int s _ _ _)
theorem DI{x:Str}(h:Builtin.Str.tooLong (placed x λi _=>Unicode.lowerAt x.cps i).size=false):Callee c A (.builtin "str.lower") [.str x] (.str ⟨placed x λi _=>Unicode.lowerAt x.cps i⟩):=λE s G vs g l=>by
 refine aq l.one λv z r=>?_;obtain rfl:=z;obtain⟨t,rfl⟩:=r;exact call_gives F.slot_str_lower (typeIs_str s x t) F.entry_str_lower (F.args_str_lower_1 _) (gives_str_lower x t h) ⟨by show Str.length ⟨placed x λi _=>Unicode.lowerAt x.cps i⟩<=sizeLine;exact PySem.fit_le h,post_str s _ _ _⟩
theorem Bi{ns:List Int}{i:Int}:Callee c A (.builtin "list.count") [.list (ns.map .int),.int i] (.int (ns.count i:Nat)):=λE s G vs g l=>by refine bD l.two λv u z I D=>?_;obtain rfl:=z;refine bD (lst g.sub I) λa vs z Y J=>?_;obtain rfl:=z;obtain⟨t,rfl⟩:=D;exact count_list_ints Y J.ints (post_int s _ _ _)
noncomputable def aO{K:Type} [DecidableEq K]:List K->K->Option Nat
 |[],_=>none
 |a::r,k=>if a=k then some 0 else(aO r k).map (· +1)
theorem cW{K:Type} [DecidableEq K] {a:K}{r:List K}{k:K}:aO (a::r) k=if a=k then some 0 else(aO r k).map (· +1):=rfl
theorem d8{K:Type} [DecidableEq K] {ks:List K}{vs:List Value}(h:ks.length=vs.length)(k:K):valueAt (ks.zip vs) k=(aO ks k).bind (vs[·]?):=by
 induction ks generalizing vs with
 |nil=>rfl
 |cons a ks z=>
  refine lO (P:=λvs=>valueAt ((a::ks).zip vs) k=(aO (a::ks) k).bind (vs[·]?)) h.symm λv vs h=>?_;have z:=z h.symm;simp only[valueAt,zip_cons_cons,List.find?_cons,cW]at z⊢;by_cases D:a=k
  .subst D;simp
  .simp only[decide_eq_false D,if_neg D];rw[z];cases aO ks k<;>simp
noncomputable def mK(o i:D):Option D:=match o with
 | .list xs=>i.fW λi=>if(decide (0<=i)&&decide (i<2^62))=true then xs[i.toNat]? else none
 | .tup xs=>i.fW λi=>if(decide (0<=i)&&decide (i<2^62))=true then xs[i.toNat]? else none
 | .str x=>i.fW λi=>if(decide (0<=i)&&decide (i<2^62))=true then(x.cps[i.toNat]?).map λc=> .str ⟨#[c]⟩else none
 | .bT ks xs=>i.fW λi=>(aO ks i).bind (xs[·]?)
 | .fG ks xs=>i.Fm λx=>(aO ks x).bind (xs[·]?)
 |_=>none
theorem in_of{i:Int}(h:(decide (0<=i)&&decide (i<2^62))=true):0<=i/\i<2^62:=
 (Hc h).imp of_decide_eq_true of_decide_eq_true
theorem zD{i:Int}(D:0<=i)(z:i<2^62):(decide (0<=i)&&decide (i<2^62))=true:=
 (and_eq_true _ _).mpr ⟨decide_eq_true D,decide_eq_true z⟩
theorem yT{xs:List D}{i:Int}(I:0<=i)(z:i<2^62):mK (.list xs) (.int i)=xs[i.toNat]? :=if_pos (zD I z)
theorem EU{xs:List D}{i:Int}(I:0<=i)(z:i<2^62):mK (.tup xs) (.int i)=xs[i.toNat]? :=if_pos (zD I z)
theorem EV{x:Str}{i:Int}(D:0<=i)(z:i<2^62):mK (.str x) (.int i)=(x.cps[i.toNat]?).map λc=> .str ⟨#[c]⟩:=if_pos (zD D z)
theorem y'{i:Int}{n:Nat}(D:0<=i)(z:i.toNat<n):seqIndex? i n=some i.toNat:=by unfold seqIndex?;rw[if_neg (show ¬i<0 by exact vq (ao 2687017000 [] [_] D))];have:(decide (0<=i)&&decide (i< (n:Int)))=true:=(and_eq_true _ _).mpr ⟨decide_eq_true D,decide_eq_true (by exact aM 0xa112b10b7a8a7112a18 [_,_] [_] uc z)⟩;rw[if_pos this]
theorem pC{α:Type}{a:Array α}{i:Nat}{x:α}(e:a[i]? =some x):i<a.size:=(Array.getElem?_eq_some_iff.mp e).1
noncomputable def dn(xs:List D)(lo hi st:Option Int):List D:=
 (sliceRange (sliceBounds lo hi st xs.length).1 (sliceBounds lo hi st xs.length).2.1 (sliceBounds lo hi st xs.length).2.2).filterMap (xs[·]?)
noncomputable def dm(x:Str)(lo hi st:Option Int):Str:=
 if(st.getD 1==1&&(Builtin.Str.strSliceIndices lo hi (st.getD 1) x.length).length==x.length)=true then x
 else⟨((Builtin.Str.strSliceIndices lo hi (st.getD 1) x.length).filterMap (x.cps[·]?)).toArray⟩
noncomputable def y7(o:D)(lo hi st:Option Int):Option D:=match o with
 | .list xs=>if sizeOk xs.length then some (.list (dn xs lo hi st))else none
 | .str x=>if sizeOk (dm x lo hi st).length then some (.str (dm x lo hi st))else none
 |_=>none
theorem aE.xR{w:World}{C:Addr}{ds:List D}{vs:List Value}(h:aE w C G ds vs){i:Nat}{d:D}(z:ds[i]? =some d):∃v,vs.toArray[i]? =some v/\Rep w C G d v:=by refine aq (h.get z) λv e r=>?_;exact⟨v,by simpa using e,r⟩
theorem aE.none{w:World}{C:Addr}{ds:List D}{vs:List Value}(h:aE w C G ds vs){i:Nat}(z:ds[i]? =none):vs[i]? =none:=by rw[List.getElem?_eq_none_iff]at z⊢;rw[h.length];exact z
theorem aE.pick{w:World}{C:Addr}{ds:List D}{vs:List Value}(h:aE w C G ds vs):∀z:List Nat,aE w C G (z.filterMap (ds[·]?)) (z.filterMap (vs[·]?))
 |[]=>by exact rfl
 |i::z=>by
  have J:=aE.pick h z;cases I:ds[i]? with
  |none=>rw[List.filterMap_cons_none I,List.filterMap_cons_none (h.none I)];exact J
  |some d=>refine aq (h.get I) λv e r=>?_;rw[List.filterMap_cons_some I,List.filterMap_cons_some e];show ∃_,_;exact⟨v,_,rfl,r,J⟩
theorem aS{J I:Expr}{pos:Pos}{o i d:D}(hv:Ev c A O ρ G J o)(hi:Ev c A O ρ G I i)(h:mK o i=some d)
 (hs:∀o i,subscripted I false o i=operate [o,i] (getItem o i):=by intro _ _;rfl):Ev c A O ρ G (.Subscript J I pos) d:= .mk λE s V=>
 Subscript_ (hv.run V λvo s₁ Co ou=>hi.run ou λvi ay Li DS=>by
  refine eJ (Co.two Li) λkk ro ri=>?_;have sub:=V.gG kk;cases o with
  |list xs=>refine D.cI h ri λi t h=>?_;refine iF (qZ h) λhc h=>?_;have hc:=in_of hc;refine bD (lst sub ro) λa vs w il l=>?_;subst w;refine aq (l.xR h) λx e r=>?_;exact tail_any il.typeIs slot_list_getitem.lookup (wpAny_getItem_list il hc.1 (by exact ao 0x3e2215112a183f2215112a18 [] [_] hc.2) e ⟨kk,r⟩) (hs _ _)
  |tup xs=>refine D.cI h ri λi t h=>?_;refine iF (qZ h) λhc h=>?_;have hc:=in_of hc;refine bD (Kc sub ro) λa vs w il l=>?_;subst w;refine aq (l.xR h) λx e r=>?_;exact tail_any il.typeIs slot_tuple_getitem.lookup (PyProof.Rows.getItem_tuple il (by exact ao 0xa028a3f221588 [] [_] hc.1) (by exact ao 0x3e2215112a183f2215112a18 [] [_] hc.2) (j:=i.toNat) (y' hc.1 (pC e)) e ⟨kk,r⟩) (hs _ _)
  |str x=>
   refine D.cI h ri λi t h=>?_;refine iF (qZ h) λhc h=>?_;have hc:=in_of hc;refine aq (mA h) λch yu gD=>?_;subst gD;refine ro.elim λt' w=>?_;subst w;refine tail_any (typeIs_str _ _ _) F.slot_str_getitem.lookup (PySem.P.getItem_str (c:=ch) ?_ ?_ ((post_str ay _ _ _).join kk)) (hs _ _)
   .rw[decide_eq_false (by exact vq (ao 0xa028a3f221588 [] [_] hc.1)),decide_eq_false (by exact G8 (ao 0x3e2215112a183f2215112a18 [] [_] hc.2))];rfl
   .rw[show seqIndex? i x.length=some i.toNat from y' hc.1 (pC yu)];exact yu
  |bT ks xs=>refine D.cI h ri λi t h=>?_;refine jT ro λa ob vs Y z g dk hl l=>?_;clear ro;subst Y;refine aq (bind_eq_some_iff.mp h) λj hx h=>?_;refine aq (l.get h) λx e r=>?_;have md:=(dk.dictOf (sub _ _ g)).mapOf;refine tail_any md.typeIs slot_dict_getitem.lookup (wpAny_getItem_of (knd:=intKind PW c.w) (k:=i) (v:=x) (intKind_is _ _ _ _) md ((d8 hl _).trans (by rw[hx];exact e)) ⟨aQ kk (bM _ _),r.mono (λa o q=>q)⟩) (hs _ _)
  |fG ks xs=>refine D.cS h ri λi t h=>?_;refine jT ro λa ob vs Y z g dk hl l=>?_;clear ro;subst Y;refine aq (bind_eq_some_iff.mp h) λj hx h=>?_;refine aq (l.get h) λx e r=>?_;have md:=(dk.dictOf (sub _ _ g)).mapOf;refine tail_any md.typeIs slot_dict_getitem.lookup (wpAny_getItem_of (knd:=strKind PW c.w) (k:=i) (v:=x) (strKind_is _ _ _ _) md ((d8 hl _).trans (by rw[hx];exact e)) ⟨aQ kk (bM _ _),r.mono (λa o q=>q)⟩) (hs _ _)
  |_=>exact ns h)
noncomputable def J4(c:Cx)(A:Around)(O:Env)(ρ:List (Str×D))(G:PH):Option Expr->Option Int->Prop
 |none,none=>True
 |some e,some i=>Ev c A O ρ G e (.int i)
 |_,_=>False
theorem J4.run{x:Option Expr}{i:Option Int}{Q:Value->Shared->Prop}(h:J4 c A O ρ G x i)(V:Vw c O ρ G s)
 (k:∀p U,p.map (·.1)=i->Keeps s U->Vw c O ρ G U->Q (partValue p) U):wpAny (model PW c.w) A (evalPart x O) Q E s:=by
 cases x with
 |none=>
  cases i with
  |none=>rw[evalPart_none];exact wpAny_pure (k none s rfl (bj s) V)
  |some i=>cases h
 |some e=>
  cases i with
  |none=>cases h
  |some i=>
   rw[evalPart_some];exact Ev.run h V λv U p z=>by have r:=p.2;obtain⟨t,rfl⟩:=r;exact k (some (i,t)) U rfl p.1 z
theorem kX(p:Option (Int×Tok)):IsPart (partValue p) (p.map (·.1)):=by
 cases p with
 |none=>exact .none
 |some q=>exact .int q.1 q.2
theorem cK{value:Expr}{Y J step:Option Expr}{p pos:Pos}{o d:D}{lo hi st:Option Int}(hv:Ev c A O ρ G value o)(hl:J4 c A O ρ G Y lo)(hu:J4 c A O ρ G J hi)
 (iC:J4 c A O ρ G step st)(h:y7 o lo hi st=some d)(h0:st≠some 0:=by decide):Ev c A O ρ G (.Subscript value (.Slice Y J step p) pos) d:= .mk λE s V=>
 Subscript_ (hv.run V λvo s₁ Co ou=>wpAny_Slice (hl.run ou λpl ay el k₂ DS=>hu.run DS λpu bB eu IC NC=>iC.run NC λps I es IB RL=>by
  have kk:Keeps s I:=aQ Co.1 (aQ k₂ (aQ IC IB));have r4:Rep c.w c.C (grow G s I) o vo:=Co.2.mono (cz (aQ k₂ (aQ IC IB)));have sub:=V.gG kk;have CT:∃ops,subscripted (.Slice Y J step p) false vo (.ref I.heap.objs.size)=operate ops (getItem vo (.ref I.heap.objs.size)):=by cases step<;>exact⟨_,rfl⟩
  obtain⟨ops,CT⟩:=CT;have k5:Keeps s {I with heap:=I.heap.push {cls:= .type "slice",data:= .fields #[partValue pl,partValue pu,partValue ps]}}:=aQ kk (aZ _ _);cases o with
  |list xs=>
   refine iF (bw h) λhz w=>?_;subst w;have CR:=le_of_ble_eq_true hz;refine bD (lst sub r4) λa vs gD il l=>?_;subst gD;refine tail_any (il.push _).typeIs slot_list_getitem.lookup (wpAny_getItem_list_slice (il.push _) (Heap.IsSliceOf.new ..) (kX pl) (kX pu) (kX ps) (by rw[es];exact h0) ?_ (by simp only[size_toArray];rw[l.length];exact le_trans CR (by rw[sizeLine_eq];decide))) CT;rw[el,eu,es];have e:slicePick vs.toArray lo hi st=((sliceRange (sliceBounds lo hi st xs.length).1 (sliceBounds lo hi st xs.length).2.1 (sliceBounds lo hi st xs.length).2.2).filterMap (vs[·]?)).toArray:=by unfold slicePick;simp only[size_toArray,l.length,getElem?_toArray]
   rw[e];exact(jn _ ((l.mono (cz (aZ _ _))).pick _)).join k5
  |str x=>
   refine iF (bw h) λhz w=>?_;subst w;have CR:=le_of_ble_eq_true hz;refine r4.elim λt w=>?_;subst w;refine tail_any (typeIs_str _ _ _) F.slot_str_getitem.lookup (wpAny_getItem_str_slice (l:=pl) (u:=pu) (st:=ps) ⟨_,get?_push_size _ rfl,rfl,rfl⟩ (by rw[es];cases st with|none=>rfl|some z=>simpa using h0) ?_) CT;unfold sliceMade slicePicked;rw[el,eu,es];unfold dm at CR⊢;split
   .exact⟨k5,⟨_,rfl⟩⟩
   .rename_i jQ;rw[if_neg jQ]at CR;exact⟨le_trans CR (by rw[sizeLine_eq];decide),(post_str _ _ _ _).join k5⟩
  |_=>exact ns h))
section
open PySem.Flt
noncomputable def t8(x y:UInt64):Bool:=cmp x y==some .lt
noncomputable def aH(x y z:UInt64):UInt64:=if t8 (if t8 x y then y else x) z then z else(if t8 x y then y else x)
noncomputable def aY(x y z:UInt64):UInt64:=if t8 z (if t8 y x then y else x)then z else(if t8 y x then y else x)
theorem JZ{z:Nat->Nat->Bool}{a b c v:Value}(h:(#[a,b,c])[argBest z 2]? =some v){P:Value->Prop}(h0:z 1 0=false->z 2 0=false->P a)(h1:z 1 0=true->z 2 1=false->P b)(Y:z 1 0=true->z 2 1=true->P c)(J:z 1 0=false->z 2 0=true->P c):P v:=by
 have e:argBest z 2=if z 2 (if z 1 0 then 1 else 0)then 2 else if z 1 0 then 1 else 0:=rfl
 rw[e]at h;cases I:z 1 0 with
 |false=>
  rw[I]at h;cases D:z 2 0 with
  |false=>rw[show z 2 (if false=true then 1 else 0)=false from D]at h;exact bg h▸h0 I D
  |true=>rw[show z 2 (if false=true then 1 else 0)=true from D]at h;exact bg h▸J I D
 |true=>
  rw[I]at h;cases D:z 2 1 with
  |false=>rw[show z 2 (if true=true then 1 else 0)=false from D]at h;exact bg h▸h1 I D
  |true=>rw[show z 2 (if true=true then 1 else 0)=true from D]at h;exact bg h▸Y I D
theorem Bh(R:aL A k){x y z:UInt64}:Callee c A (.builtin "max") [.aV x,.aV y,.aV z] (.aV (aH x y z)):=λE s G vs g l=>by
 refine k8 l.three λv u w' mh r1 r2 r3=>?_;obtain rfl:=mh;refine aq r1 λt I ht=>?_;clear r1;obtain rfl:=I;refine aq r2 λY I LO=>?_;clear r2;obtain rfl:=I;refine aq r3 λD I J=>?_;clear r3;obtain rfl:=I;have hT:(s.heap.push {cls:= .type "tuple",data:= .seq #[.float x t,.float y Y,.float z D]}).IsTuple s.heap.objs.size #[.float x t,.float y Y,.float z D]:=⟨_,get?_push_size _ rfl,rfl,0,rfl⟩;refine call_max_three (wpAny_pyIter_tuple hT ?_);have hsz:(s.heap.push {cls:= .type "tuple",data:= .seq #[.float x t,.float y Y,.float z D]}).objs.size=s.heap.objs.size+1:=size_push ..
 refine⟨_,[_,s.heap.objs.size],[_],_,_,_,_,rfl,Walks.tuple (A:=A.in1) R.handled _ s.heap.objs.size (by rw[hsz];exact ne_of_lt (lt_succ_self _)) #[.float x t,.float y Y,.float z D],
  ⟨⟨_,get?_push_size _ rfl,rfl,rfl⟩,hT.push _⟩,λd hd=>?_,by simp,cmpOf_gt #[.float x t,.float y Y,.float z D] (by intro v hv;simp only[List.mem_toArray,mem_cons,not_mem_nil,or_false]at hv;rcases hv with rfl|rfl|rfl<;>exact .float _ _),λv h' tk hP hk=>?_⟩
 .show d< ((s.heap.push _).push _).objs.size;rw[size_push,hsz];rcases dg hd with rfl|hd
  .rw[hsz];exact lt_succ_self _
  .rcases dg hd with rfl|hd
   .exact Nat.lt_succ_of_lt (lt_succ_self _)
   .cases hd
 .have hold:∀d o,s.heap.get? d=some o->h'.get? d=some o:=λd o e=>by
   refine hk d o (λhm=>?_) (get?_push_of_some _ (get?_push_of_some _ e));rcases dg hm with e1|hm
   .have:=lt_size e;rw[e1,hsz]at this;exact lt_irrefl _ (Nat.lt_of_succ_lt this)
   .cases hm
  refine fJ hold ?_;show ∃_,_;refine JZ (P:=λv=>∃u,v= .float (aH x y z) u/\u≠0) hP (λe f=>⟨t,?_,ht⟩) (λe f=>⟨Y,?_,LO⟩) (λe f=>⟨D,?_,J⟩) λe f=>⟨D,?_,J⟩
  .unfold aH;rw[show t8 x y=false from e];exact congrArg (Value.float · t) (if_neg (eq_false_iff.mp f)).symm
  .unfold aH;rw[show t8 x y=true from e];exact congrArg (Value.float · Y) (if_neg (eq_false_iff.mp f)).symm
  .unfold aH;rw[show t8 x y=true from e];exact congrArg (Value.float · D) (if_pos f).symm
  .unfold aH;rw[show t8 x y=false from e];exact congrArg (Value.float · D) (if_pos f).symm
theorem Bg(R:aL A k){x y z:UInt64}:Callee c A (.builtin "min") [.aV x,.aV y,.aV z] (.aV (aY x y z)):=λE s G vs g l=>by
 refine k8 l.three λv u w' mh r1 r2 r3=>?_;obtain rfl:=mh;refine aq r1 λt I ht=>?_;clear r1;obtain rfl:=I;refine aq r2 λY I LO=>?_;clear r2;obtain rfl:=I;refine aq r3 λD I J=>?_;clear r3;obtain rfl:=I;have hT:(s.heap.push {cls:= .type "tuple",data:= .seq #[.float x t,.float y Y,.float z D]}).IsTuple s.heap.objs.size #[.float x t,.float y Y,.float z D]:=⟨_,get?_push_size _ rfl,rfl,0,rfl⟩;refine call_min_three (wpAny_pyIter_tuple hT ?_);have hsz:(s.heap.push {cls:= .type "tuple",data:= .seq #[.float x t,.float y Y,.float z D]}).objs.size=s.heap.objs.size+1:=size_push ..
 refine⟨_,[_,s.heap.objs.size],[_],_,_,_,_,rfl,Walks.tuple (A:=A.in1) R.handled _ s.heap.objs.size (by rw[hsz];exact ne_of_lt (lt_succ_self _)) #[.float x t,.float y Y,.float z D],
  ⟨⟨_,get?_push_size _ rfl,rfl,rfl⟩,hT.push _⟩,λd hd=>?_,by simp,cmpOf_lt #[.float x t,.float y Y,.float z D] (by intro v hv;simp only[List.mem_toArray,mem_cons,not_mem_nil,or_false]at hv;rcases hv with rfl|rfl|rfl<;>exact .float _ _),λv h' tk hP hk=>?_⟩
 .show d< ((s.heap.push _).push _).objs.size;rw[size_push,hsz];rcases dg hd with rfl|hd
  .rw[hsz];exact lt_succ_self _
  .rcases dg hd with rfl|hd
   .exact Nat.lt_succ_of_lt (lt_succ_self _)
   .cases hd
 .have hold:∀d o,s.heap.get? d=some o->h'.get? d=some o:=λd o e=>by
   refine hk d o (λhm=>?_) (get?_push_of_some _ (get?_push_of_some _ e));rcases dg hm with e1|hm
   .have:=lt_size e;rw[e1,hsz]at this;exact lt_irrefl _ (Nat.lt_of_succ_lt this)
   .cases hm
  refine fJ hold ?_;show ∃_,_;refine JZ (P:=λv=>∃u,v= .float (aY x y z) u/\u≠0) hP (λe f=>⟨t,?_,ht⟩) (λe f=>⟨Y,?_,LO⟩) (λe f=>⟨D,?_,J⟩) λe f=>⟨D,?_,J⟩
  .unfold aY;rw[show t8 y x=false from e];exact congrArg (Value.float · t) (if_neg (eq_false_iff.mp f)).symm
  .unfold aY;rw[show t8 y x=true from e];exact congrArg (Value.float · Y) (if_neg (eq_false_iff.mp f)).symm
  .unfold aY;rw[show t8 y x=true from e];exact congrArg (Value.float · D) (if_pos f).symm
  .unfold aY;rw[show t8 y x=false from e];exact congrArg (Value.float · D) (if_pos f).symm
theorem wI(R:aL A k){x:UInt64}(h:isFinite x=true)(I:Float64.isNaN x=false)(D:isInf x=false):Callee c A (.builtin "round") [.aV x] (.int (toInt nearestOf x)):=λE s G vs g l=>by refine aq l.one λv z r=>?_;obtain rfl:=z;refine aq r λt z _=>?_;clear r;obtain rfl:=z;exact call_round_float R.handled (λe=>by rw[I]at e;exact ft e) (λe=>by rw[D]at e;exact ft e) (λ_=>post_int s _ _ _)
theorem lH{w:World}{C:Addr}{h:Heap}:∀{bs:List Bool}{vs:List Value},aE w C G (bs.map .bool) vs->ReadsAll h vs (bs.map .bool) []
 |[],vs,l=>by subst l;exact .nil
 |b::bs,vs,l=>by refine bD l ?_;clear l;intro v r D z l;obtain rfl:=D;obtain rfl:=z;exact .cons (.bool b) (lH l)
theorem mW{w:World}{C:Addr}{h:Heap}:∀{bs:List Int}{vs:List Value},aE w C G (bs.map .int) vs->ReadsAll h vs (bs.map .int) []
 |[],vs,l=>by subst l;exact .nil
 |b::bs,vs,l=>by refine bD l ?_;clear l;intro v r D z l;obtain rfl:=D;obtain⟨t,rfl⟩:=z;exact .cons (.int b t) (mW l)
theorem mV{w:World}{C:Addr}{h:Heap}(hs:∀a o,G a o->h.get? a=some o):∀{bs:List (List Int)}{vs:List Value},aE w C G (bs.map λb=> .tup (b.map .int)) vs->ReadsAll h vs (bs.map λb=> .tuple (b.map .int)) []
 |[],vs,l=>by subst l;exact .nil
 |b::bs,vs,l=>by refine bD l ?_;clear l;intro v r D z l;obtain rfl:=D;obtain⟨a,J,n,rfl,g,I⟩:=z;exact .cons (.tuple (hs _ _ g) rfl rfl (mW I)) (mV hs l)
noncomputable def jZ(bs:List Bool):Str:=(PyData.list (bs.map .bool)).shown
noncomputable def mQ(bs:List (List Int)):Str:=(PyData.list (bs.map λb=> .tuple (b.map .int))).shown
theorem vg(R:aL A k){bs:List Bool}(hs:(PyData.list (bs.map .bool)).showable=true)(Y:(PyData.list (bs.map .bool)).hasDict=false)(hp:(PyData.list (bs.map .bool)).depth<20)(hz:(jZ bs).length<=16777216):
 Callee c A (.type "str") [.list (bs.map .bool)] (.str (jZ bs)):=λE s G vs g l=>by
 refine aq l.one λv D r=>?_;obtain rfl:=D;refine dR r λa us n z gg I=>?_;clear r;obtain rfl:=z;have rd:Reads s.heap (.ref a) (.list (bs.map .bool)) [a]:= .list (g.sub _ _ gg) rfl rfl (lH I)
 exact str_of_reads rd hs (PyData.noDict_hsm Y) R.guards (by have:=R.units;have:cLine=9900:=rfl;lia) (λ_ _ e=>e)
  (λh' u tk J=>fJ J (Exists.intro _ rfl)) (le_trans hz (by rw[sizeLine_eq];decide))
theorem GI(R:aL A k){bs:List (List Int)}(hs:(PyData.list (bs.map λb=> .tuple (b.map .int))).showable=true)(Y:(PyData.list (bs.map λb=> .tuple (b.map .int))).hasDict=false)
 (hp:(PyData.list (bs.map λb=> .tuple (b.map .int))).depth<20)(hz:(mQ bs).length<=16777216):
 Callee c A (.type "str") [.list (bs.map λb=> .tup (b.map .int))] (.str (mQ bs)):=λE s G vs g l=>by
 refine aq l.one λv D r=>?_;obtain rfl:=D;refine dR r λa us n z gg I=>?_;clear r;obtain rfl:=z;have rd:Reads s.heap (.ref a) (.list (bs.map λb=> .tuple (b.map .int))) [a]:= .list (g.sub _ _ gg) rfl rfl (mV g.sub I)
 exact str_of_reads rd hs (PyData.noDict_hsm Y) R.guards (by have:=R.units;have:cLine=9900:=rfl;lia) (λ_ _ e=>e)
  (λh' u tk J=>fJ J (Exists.intro _ rfl)) (le_trans hz (by rw[sizeLine_eq];decide))
theorem Bk{ks:List Int}{xs:List D}{i:Int}{d:D}(h:((aO ks i).bind (xs[·]?)).getD .none=d):Callee c A (.builtin "dict.get") [.bT ks xs,.int i] d:=λE s G vs g l=>by
 refine bD l.two λv u I r1 r2=>?_;obtain rfl:=I;obtain⟨t,rfl⟩:=r2;obtain⟨a,ob,vs,rfl,z,gg,dk,hl,l⟩:=r1;have J:=(dk.dictOf (g.sub _ _ gg)).mapOf;refine call_meetsIn F.slot_dict_get J.typeIs F.entry_dict_get (F.args_dict_get_2 _ _) (meets_dict_get (intKind PW c.w) a (intKind_is PW c.w i t) z) ⟨_,J,?_⟩;refine⟨bM _ _,?_⟩;show Rep c.w c.C _ d ((valueAt (ks.zip vs) i).getD .none);rw[d8 hl];subst h;cases hx:aO ks i with
 |none=>exact rfl
 |some j=>
  simp only[Option.bind_some];cases Y:xs[j]? with
  |none=>rw[l.none Y];exact rfl
  |some d=>refine aq (l.get Y) λv e r=>?_;rw[e];exact r.mono dM
theorem GL{ks:List Int}{xs:List D}{i:Int}{e0 d:D}(h:((aO ks i).bind (xs[·]?)).getD e0=d):Callee c A (.builtin "dict.get") [.bT ks xs,.int i,e0] d:=λE s G vs g l=>by
 refine k8 l.three λv u x I r1 r2 J=>?_;obtain rfl:=I;obtain⟨t,rfl⟩:=r2;obtain⟨a,ob,vs,rfl,z,gg,dk,hl,l⟩:=r1;have Y:=(dk.dictOf (g.sub _ _ gg)).mapOf;refine call_meetsIn F.slot_dict_get Y.typeIs F.entry_dict_get (F.args_dict_get_3 _ _ _) (meets_dict_get_default (intKind PW c.w) a (intKind_is PW c.w i t) z x) ⟨_,Y,?_⟩;refine⟨bM _ _,?_⟩;show Rep c.w c.C _ d ((valueAt (ks.zip vs) i).getD x);rw[d8 hl];subst h;cases hx:aO ks i with
 |none=>exact J.mono dM
 |some j=>
  simp only[Option.bind_some];cases hd:xs[j]? with
  |none=>rw[l.none hd];exact J.mono dM
  |some d=>refine aq (l.get hd) λv e r=>?_;rw[e];exact r.mono dM
theorem DH{xs:List D}(hz:sizeOk xs.length=true):Callee c A (.type "tuple") [.list xs] (.tup xs):=λE s G vs g l=>by refine aq l.one λv z r=>?_;obtain rfl:=z;obtain⟨a,vs,rfl,I,l⟩:=lst g.sub r;refine call_tuple_list I (λh' J=>?_) (by simp only[size_toArray];rw[l.length];exact le_trans (le_of_ble_eq_true hz) (by rw[sizeLine_eq];decide));have k1:Keeps s {s with heap:=h'}:=bI s J;exact(sx {s with heap:=h'} (l.mono (dM (s:=s) (U:={s with heap:=h'})))).join k1
end
noncomputable def aX(ah:PH)(af:Shared)(X:List Addr)(s:Shared):PH:=λa o=>ah a o\/(s.heap.get? a=some o/\af.heap.get? a=none/\a∉X)
inductive OD where
 |lst(ds:List D)
 |rN(ks:List Int)(ds:List D)
noncomputable def OD.d:OD->D
 | .lst ds=> .list ds
 | .rN ks ds=> .bT ks ds
noncomputable def cg(c:Cx)(G:PH)(a:Addr):OD->Obj->Prop
 | .lst ds,o=>∃vs n,o={cls:= .type "list",data:= .seq (toArray vs) n}/\aE c.w c.C G ds vs
 | .rN ks ds,o=>(a==sysModules)=false/\∃vs,oR (intKind PW c.w) o (ks.zip vs)/\ks.length=vs.length/\aE c.w c.C G ds vs
theorem cg.mono{c:Cx}{G G':PH}{a:Addr}{od:OD}{o:Obj}(h:∀a o,G a o->G' a o)(x:cg c G a od o):cg c G' a od o:=by
 cases od with
 |lst ds=>refine cC x λvs n e l=>?_;clear x;exact⟨vs,n,e,l.mono h⟩
 |rN ks ds=>obtain⟨z,vs,d,e,l⟩:=x;exact⟨z,vs,d,e,l.mono h⟩
structure Hd where
 X:List Addr
 Z:List Addr
 Y:List Str
 fp:List Addr
 J:Heap->Prop
structure Fs(c:Cx)(ah:PH)(af:Shared)(H:Hd)(O:Env)(ρ:List (Str×D))(own:List (Str×Addr×OD))(s:Shared):Prop where
 gd:Gd c ah af
 rest:s={af with heap:=s.heap,toks:=s.toks}
 old:∀b o,af.heap.get? b=some o->s.heap.get? b=some o
 new:∀x∈H.X,af.heap.get? x=none
 ex:∀x∈H.X,∃o,s.heap.get? x=some o
 view:Vw c O ρ (aX ah af H.X s) s
 own:∀e∈own,e.2.1∈H.Z/\rJ O s.heap e.1 (.ref e.2.1)/\e.2.1≠O.locals/\∃o,s.heap.get? e.2.1=some o/\cg c (aX ah af H.X s) e.2.1 e.2.2 o
 frame:O.locals∈H.Z/\∃m,s.heap.Ns O.locals m
 gR:∀x∈H.Y,O.kindOf x=some .cell/\∃a v,O.cells.lookup x=some a/\a∈H.Z/\s.heap.IsCell a v
 zx:∀a∈H.Z,a∈H.X
 inv:H.J s.heap
 eS:∀h h',H.J h->(∀b∈H.fp,∀o,h.get? b=some o->h'.get? b=some o)->H.J h'
 jz:∀b∈H.fp,b∉H.Z
 gQ:∀b∈H.fp,∃o,s.heap.get? b=some o
 apart:∀x y a,O.cells.lookup x=some a->O.cells.lookup y=some a->x=y
 dt:∀x a,O.cells.lookup x=some a->(∃o,s.heap.get? a=some o)/\(a∉H.X\/a∈H.Z)
variable{bP:List (Str×D)}{own:List (Str×Addr×OD)}{ah:PH}{X:List Addr}{H:Hd}
theorem bF(hX:∀x∈X,∃o,s.heap.get? x=some o)(ho:∀b o,af.heap.get? b=some o->s.heap.get? b=some o)(I:Keeps s U):∀a o,grow (aX ah af X s) s U a o->aX ah af X U a o:=by
 rintro a o ((h|⟨D,z,Y⟩)|⟨D,z⟩)
 .exact .inl h
 .exact .inr ⟨dH I _ _ D,z,Y⟩
 .refine .inr ⟨D,?_,λJ=>?_⟩
  .exact oN λo' e=>Lw.sn ((ho _ _ e).symm.trans z)
  .obtain⟨o',e⟩:=hX a J;rw[e]at z;exact sn z
theorem Fs.keeps(F:Fs c ah af H O ρ own s)(I:Keeps s U)(tk:s.toks<=U.toks):Fs c ah af H O ρ own U:=by
 have up:∀a o,aX ah af H.X s a o->aX ah af H.X U a o:=λa o h=>bF F.ex F.old I a o (.inl h);have z:=dH I;refine cC I λh' k' J _=>?_;clear I;obtain rfl:=J
 exact{
  gd:=F.gd
  rest:=by have:=F.rest;rw[this]
  old:=λb o e=>z b o (F.old b o e)
  new:=F.new
  ex:=λx Y=>let⟨o,e⟩:=F.ex x Y;⟨o,z _ _ e⟩
  view:={sub:=by
          rintro a o (h|⟨D,_,_⟩)
          .exact z _ _ (F.old _ _ (F.gd.sub _ _ h))
          .exact D
         base:=λa o e=>up _ _ (F.view.base a o e)
         toks:=lt_of_lt_of_le F.view.toks tk
         kind:=F.view.kind
         glob:=F.view.glob
         fq:=F.view.fq
         vars:=λx d e=>let⟨v,i,r⟩:=F.view.vars x d e;⟨v,i.keeps z,r.mono up⟩
         apart:=F.apart
         cells:=λx a h=>let⟨o,e⟩:=(F.dt x a h).1;⟨o,z _ _ e⟩}
  own:=λe he=>let⟨D,h2,h3,o,h4,h5⟩:=F.own e he;⟨D,h2.keeps z,h3,o,z _ _ h4,h5.mono up⟩
  frame:=⟨F.frame.1,let⟨m,n⟩:=F.frame.2;⟨m,n.keeps z⟩⟩
  gR:=λx Y=>let⟨D,a,v,h2,h3,h4⟩:=F.gR x Y;⟨D,a,v,h2,h3,h4.keeps z⟩
  zx:=F.zx
  inv:=F.eS _ _ F.inv λb _ o e=>z b o e
  eS:=F.eS
  jz:=F.jz
  gQ:=λb hb=>let⟨o,e⟩:=F.gQ b hb;⟨o,z _ _ e⟩
  apart:=F.apart
  dt:=λx a h=>⟨let⟨o,e⟩:=(F.dt x a h).1;⟨o,z _ _ e⟩,(F.dt x a h).2⟩}
theorem Fs.up(F:Fs c ah af H O ρ own s){d:D}{v:Value}(p:cf c.w c.C (aX ah af H.X s) s d v U):Rep c.w c.C (aX ah af H.X U) d v:=
 p.2.mono (bF F.ex F.old p.1)
theorem gk(Y:∀a∈X,a∉X->False){a:Addr}(ha:a∈X)(D:Heap.SameBut a s.heap U.heap):∀b o,aX ah af X s b o->aX ah af X U b o:=by
 rintro b o (h|⟨J,I,z⟩)
 .exact .inl h
 .exact .inr ⟨(D.2 b (λe=>z (e▸ha))).trans J,I,z⟩
theorem rJ.other{h h':Heap}{a:Addr}{x:Str}{v:Value}(i:rJ O h x v)(z:Heap.SameBut a h h')(I:O.kindOf x=some .local->O.locals≠a)(D:∀b,O.cells.lookup x=some b->b≠a):rJ O h' x v:=by
 rcases i with⟨q,m,n,e⟩|⟨q,b,n,e⟩
 .exact .inl ⟨q,m,n.sameBut z (I q),e⟩
 .exact .inr ⟨q,b,n,e.sameBut z (D b n)⟩
theorem iW{h:Heap}{a:Addr}{m:Str->Option Value}{v:Option Value}(n:h.Ns a m)(c:h.IsCell a v):False:=by refine dR n λo es Y J I _=>?_;clear n;refine aq c λo' D z=>?_;clear c;rw[J]at D;obtain rfl:=bg D;rw[I]at z;cases z
theorem Fs.fF(F:Fs c ah af H O ρ own s){x:Str}{d:D}{v:Value}{h':Heap}{tk:Nat}{m:Str->Option Value}(hx:O.kindOf x=some .local)(r:Rep c.w c.C (aX ah af H.X s) d v)
 (hn:s.heap.Ns O.locals m)(z:h'.Ns O.locals (λy=>if y=x then some v else m y))(sb:Heap.SameBut O.locals s.heap h')(tk':s.toks<=tk)(ho:own.all (λe=> !(e.1==x))=true):
 Fs c ah af H O ((x,d)::ρ) own {s with heap:=h',toks:=tk}:=by
 have up:∀a o,aX ah af H.X s a o->aX ah af H.X {s with heap:=h',toks:=tk} a o:=gk (λa h h'=>h' h) (F.zx _ F.frame.1) sb;have J:∀b o,b≠O.locals->s.heap.get? b=some o->h'.get? b=some o:=λb o hb e=>(sb.2 b hb).trans e;have I:∀b o,af.heap.get? b=some o->b≠O.locals:=λb o e h=>by rw[h,F.new _ (F.zx _ F.frame.1)]at e;exact ns e
 have other:∀y u,y≠x->rJ O s.heap y u->rJ O h' y u:=λy u Y i=>by
  rcases i with⟨q,m',n,e⟩|⟨q,b,n,e⟩
  .refine .inl ⟨q,_,z,?_⟩;show(if y=x then some v else m y)=some u;rw[if_neg Y];refine k8 n λo1 Sn Ss a1 a2 _ a4=>?_;clear n;refine k8 hn λo2 Sm Sr b1 b2 _ b4=>?_;clear hn;rw[a1]at b1;obtain rfl:=bg b1;rw[a2]at b2;cases b2;rw[<-b4,a4];exact e
  .exact .inr ⟨q,b,n,e.sameBut sb (λh=>iW hn (h▸e))⟩
 exact{
  gd:=F.gd
  rest:=by have:=F.rest;rw[this]
  old:=λb o e=>J b o (I b o e) (F.old b o e)
  new:=F.new
  ex:=λy Y=>by
   by_cases h:y=O.locals
   .subst h;refine fR z λo _ _ e _=>?_;clear z;exact⟨o,e⟩
   .obtain⟨o,e⟩:=F.ex y Y;exact⟨o,J y o h e⟩
  view:={sub:=by
          rintro a o (h|⟨h1,_,_⟩)
          .exact J a o (I a o (F.gd.sub _ _ h)) (F.old _ _ (F.gd.sub _ _ h))
          .exact h1
         base:=λa o e=>up _ _ (F.view.base a o e)
         toks:=lt_of_lt_of_le F.view.toks tk'
         kind:=F.view.kind
         glob:=F.view.glob
         fq:=F.view.fq
         vars:=λy d' e=>by
          simp only[lookup_cons]at e;by_cases h:y=x
          .subst h;simp only[BEq.rfl]at e;obtain rfl:=bg e;exact⟨v,.inl ⟨hx,_,z,if_pos rfl⟩,r.mono up⟩
          .rw[show(y==x)=false from by simpa using h]at e;refine aq (F.view.vars y d' e) λu i q=>?_;exact⟨u,other y u h i,q.mono up⟩
         apart:=F.apart
         cells:=λy a h=>by
          by_cases q:a=O.locals
          .subst q;refine fR z λo _ _ e _=>?_;clear z;exact⟨o,e⟩
          .obtain⟨o,e⟩:=(F.dt y a h).1;exact⟨o,J a o q e⟩}
  own:=λe he=>by
   obtain⟨h1,h2,h3,o,h4,h5⟩:=F.own e he;have jQ:e.1≠x:=by have:=gB ho e he;simpa using this
   exact⟨h1,other _ _ jQ h2,h3,o,J _ o h3 h4,h5.mono up⟩
  frame:=⟨F.frame.1,_,z⟩
  gR:=λy Y=>by obtain⟨h1,a,u,h2,h3,h4⟩:=F.gR y Y;exact⟨h1,a,u,h2,h3,h4.sameBut sb (λh=>iW hn (h▸h4))⟩
  zx:=F.zx
  inv:=F.eS _ _ F.inv λb hb o e=>J b o (λh=>F.jz b hb (h▸F.frame.1)) e
  eS:=F.eS
  jz:=F.jz
  gQ:=λb hb=>let⟨o,e⟩:=F.gQ b hb;⟨o,J b o (λh=>F.jz b hb (h▸F.frame.1)) e⟩
  apart:=F.apart
  dt:=λy a h=>⟨by
   by_cases q:a=O.locals
   .subst q;refine fR z λo _ _ e _=>?_;clear z;exact⟨o,e⟩
   .obtain⟨o,e⟩:=(F.dt y a h).1;exact⟨o,J a o q e⟩,(F.dt y a h).2⟩}
theorem Fs.setCell(F:Fs c ah af H O ρ own s){x:Str}{d:D}{v:Value}{h':Heap}{tk:Nat}{a:Addr}{HX:Option Value}(hx:O.kindOf x=some .cell)(r:Rep c.w c.C (aX ah af H.X s) d v)
 (hl:O.cells.lookup x=some a)(ha:a∈H.Z)(hc:s.heap.IsCell a HX)(z:h'.IsCell a (some v))(sb:Heap.SameBut a s.heap h')(tk':s.toks<=tk)
 (ho:own.all (λe=> !(e.1==x))=true):
 Fs c ah af H O ((x,d)::ρ) own {s with heap:=h',toks:=tk}:=by
 have up:∀a o,aX ah af H.X s a o->aX ah af H.X {s with heap:=h',toks:=tk} a o:=gk (λa h h'=>h' h) (F.zx _ ha) sb;have Y:∀b o,b≠a->s.heap.get? b=some o->h'.get? b=some o:=λb o hb e=>(sb.2 b hb).trans e;have J:∀b o,af.heap.get? b=some o->b≠a:=λb o e h=>by rw[h,F.new _ (F.zx _ ha)]at e;exact ns e
 have I:O.locals≠a:=λh=>by obtain⟨m,n⟩:=F.frame.2;exact iW (h▸n) hc
 have other:∀y u,y≠x->rJ O s.heap y u->rJ O h' y u:=λy u hy i=>i.other sb (λ_=>I) (λb hb e=>hy (F.apart y x a (e▸hb) hl))
 exact{
  gd:=F.gd
  rest:=by have:=F.rest;rw[this]
  old:=λb o e=>Y b o (J b o e) (F.old b o e)
  new:=F.new
  ex:=λy hy=>by
   by_cases h:y=a
   .subst h;refine aq z λo e _=>?_;clear z;exact⟨o,e⟩
   .obtain⟨o,e⟩:=F.ex y hy;exact⟨o,Y y o h e⟩
  view:={sub:=by
          rintro b o (h|⟨h1,_,_⟩)
          .exact Y b o (J b o (F.gd.sub _ _ h)) (F.old _ _ (F.gd.sub _ _ h))
          .exact h1
         base:=λb o e=>up _ _ (F.view.base b o e)
         toks:=lt_of_lt_of_le F.view.toks tk'
         kind:=F.view.kind
         glob:=F.view.glob
         fq:=F.view.fq
         vars:=λy d' e=>by
          simp only[lookup_cons]at e;by_cases h:y=x
          .subst h;simp only[BEq.rfl]at e;obtain rfl:=bg e;exact⟨v,.inr ⟨.inl hx,a,hl,z⟩,r.mono up⟩
          .rw[show(y==x)=false from by simpa using h]at e;refine aq (F.view.vars y d' e) λu i q=>?_;exact⟨u,other y u h i,q.mono up⟩
         apart:=F.apart
         cells:=λy b h=>by
          by_cases q:b=a
          .subst q;refine aq z λo e _=>?_;clear z;exact⟨o,e⟩
          .obtain⟨o,e⟩:=(F.dt y b h).1;exact⟨o,Y b o q e⟩}
  own:=λe he=>by
   obtain⟨h1,h2,h3,o,h4,h5⟩:=F.own e he;have jQ:e.1≠x:=by have:=gB ho e he;simpa using this
   have h6:e.2.1≠a:=λh=>by
    refine aq hc λoc CU hd=>?_;clear hc;rw[h,CU]at h4;obtain rfl:=bg h4;cases Hr:e.2.2 with
    |lst ds=>rw[Hr]at h5;refine cC h5 λvs n e _=>?_;clear h5;subst e;cases hd
    |rN ks ds=>rw[Hr]at h5;obtain⟨_,vs,⟨_,es,ep,h,_⟩,_⟩:=h5;rw[h]at hd;cases hd
   exact⟨h1,other _ _ jQ h2,h3,o,Y _ o h6 h4,h5.mono up⟩
  frame:=⟨F.frame.1,let⟨m,n⟩:=F.frame.2;⟨m,n.sameBut sb I⟩⟩
  gR:=λy hy=>by
   obtain⟨h1,b,u,h2,h3,h4⟩:=F.gR y hy;by_cases h:b=a
   .subst h;exact⟨h1,b,_,h2,h3,z⟩
   .exact⟨h1,b,u,h2,h3,h4.sameBut sb h⟩
  zx:=F.zx
  inv:=F.eS _ _ F.inv λb hb o e=>Y b o (λh=>F.jz b hb (h▸ha)) e
  eS:=F.eS
  jz:=F.jz
  gQ:=λb hb=>let⟨o,e⟩:=F.gQ b hb;⟨o,Y b o (λh=>F.jz b hb (h▸ha)) e⟩
  apart:=F.apart
  dt:=λy b h=>⟨by
   by_cases q:b=a
   .subst q;refine aq z λo e _=>?_;clear z;exact⟨o,e⟩
   .obtain⟨o,e⟩:=(F.dt y b h).1;exact⟨o,Y b o q e⟩,(F.dt y b h).2⟩}
mutual
noncomputable def flat:D->Bool
 | .none=>true
 | .bool _=>true
 | .int _=>true
 | .aV _=>true
 | .str _=>true
 | .tup xs=>nR xs
 | .adr _=>true
 |_=>false
noncomputable def nR:List D->Bool
 |[]=>true
 |d::ds=>flat d&&nR ds
end
variable{cq:List (Str×Addr×OD)}{G':PH}
mutual
theorem Rep.flatten{w:World}{C:Addr}(h:∀a o,G' a o->G a o\/o.cls≠ .type "tuple"):∀{d:D}{v:Value},flat d=true->Rep w C G' d v->Rep w C G d v
 | .none,_,_,r=>r
 | .bool _,_,_,r=>r
 | .int _,_,_,r=>r
 | .aV _,_,_,r=>r
 | .str _,_,_,r=>r
 | .adr _,_,_,r=>r
 | .tup xs,_,f,r=>by
   show ∃_,_;refine dR r λa vs n e g l=>?_;clear r;rcases h _ _ g with g|g
   .exact⟨a,vs,n,e,g,aE.flatten h f l⟩
   .exact absurd rfl g
 | .list _,_,f,_=>ft f
 | .bT _ _,_,f,_=>ft f
 | .fG _ _,_,f,_=>ft f
 | .xH _,_,f,_=>ft f
 | .obj _,_,f,_=>ft f
theorem aE.flatten{w:World}{C:Addr}(h:∀a o,G' a o->G a o\/o.cls≠ .type "tuple"):∀{ds:List D}{vs:List Value},nR ds=true->aE w C G' ds vs->aE w C G ds vs
 |[],_,_,r=>r
 |d::ds,_,f,r=>by have f:=Hc f;show ∃_,_;refine bD r λv t e q l=>?_;clear r;exact⟨v,t,e,Rep.flatten h f.1 q,aE.flatten h f.2 l⟩
end
theorem Fs.run{e:Expr}{d:D}{Q:Value->Shared->Prop}(he:∀G,Ev c A O ρ G e d)(F:Fs c ah af H O ρ own s)(k:∀v U,Fs c ah af H O ρ own U->Rep c.w c.C (aX ah af H.X U) d v->Q v U):
 wpAny (model PW c.w) A (eval e O) Q E s:=
 wpAny_mono (wpAny_toks ((he _).1 E s F.view)) (λv U p=>k v U (F.keeps p.2.1 p.1) (F.up p.2)) λ_ _ p=>p.2
theorem Fs.test{e:Expr}{b:Bool}{Q:Bool->Shared->Prop}(he:∀G,jt c A O ρ G e b)(F:Fs c ah af H O ρ own s)(k:∀U,Fs c ah af H O ρ own U->Q b U):
 wpAny (model PW c.w) A (isTrue e O (eval e O)) Q E s:=
 wpAny_mono (wpAny_toks ((he _).1 E s F.view)) (λv U p=>by rw[p.2.1];exact k U (F.keeps p.2.2 p.1)) λ_ _ p=>p.2
noncomputable def l7(own:List (Str×Addr×OD)):List (Str×D):=own.map λe=>(e.1,e.2.2.d)
theorem nx:∀{own:List (Str×Addr×OD)}{x:Str}{d:D},(l7 own).lookup x=some d->∃e∈own,e.1=x/\e.2.2.d=d
 |[],_,_,h=>by exact ns h
 |e::r,x,d,h=>by
  simp only[l7,map_cons,lookup_cons]at h;by_cases z:x=e.1
  .rw[show(x==e.1)=true from by simpa using z]at h;cases h;exact⟨e,.head _,z.symm,rfl⟩
  .rw[show(x==e.1)=false from by simpa using z]at h;refine aq (nx (own:=r) h) λY J I=>?_;exact⟨Y,.tail _ J,I⟩
noncomputable def HZ(G:PH)(own:List (Str×Addr×OD))(s:Shared):PH:=λa o=>G a o\/∃e∈own,e.2.1=a/\s.heap.get? a=some o
theorem cg.rep{a:Addr}{od:OD}{o:Obj}(x:cg c G a od o)(hG:∀b p,G b p->G' b p)(hg:G' a o):Rep c.w c.C G' od.d (.ref a):=by
 cases od with
 |lst ds=>refine cC x λvs n D l=>?_;clear x;obtain rfl:=D;show ∃_,_;exact⟨a,vs,n,rfl,hg,l.mono hG⟩
 |rN ks ds=>obtain⟨z,vs,J,I,l⟩:=x;show ∃_,_;exact⟨a,o,vs,rfl,z,hg,J,I,l.mono hG⟩
theorem cg.cls{a:Addr}{od:OD}{o:Obj}(x:cg c G a od o):o.cls≠ .type "tuple":=by
 cases od with
 |lst ds=>refine cC x λvs n D l=>?_;clear x;obtain rfl:=D;simp
 |rN ks ds=>obtain⟨z,vs,I,J,l⟩:=x;rw[I.1.1];simp
theorem Fs.hW(F:Fs c ah af H O ρ own s):Vw c O (l7 own++ρ) (HZ (aX ah af H.X s) own s) s where
 sub:=by
  rintro a o (h|⟨e,he,rfl,h⟩)
  .exact F.view.sub _ _ h
  .exact h
 base:=λa o e=> .inl (F.view.base a o e)
 toks:=F.view.toks
 kind:=F.view.kind
 glob:=F.view.glob
 fq:=F.view.fq
 vars:=λx d e=>by
  rw[lookup_append]at e;cases h:(l7 own).lookup x with
  |some d'=>rw[h]at e;cases e;refine jU (nx h) λe he D z=>?_;obtain rfl:=D;obtain rfl:=z;obtain⟨_,Y,_,o,J,I⟩:=F.own e he;exact⟨_,Y,I.rep (λ_ _ q=> .inl q) (.inr ⟨e,he,rfl,J⟩)⟩
  |none=>rw[h]at e;refine aq (F.view.vars x d (by simpa using e)) λv i r=>?_;exact⟨v,i,r.mono λ_ _ q=> .inl q⟩
 apart:=F.view.apart
 cells:=F.view.cells
theorem Fs.qJ{e:Expr}{d:D}{Q:Value->Shared->Prop}(he:∀G,Ev c A O (l7 own++ρ) G e d)(I:flat d=true)(F:Fs c ah af H O ρ own s)
 (k:∀v U,Fs c ah af H O ρ own U->Rep c.w c.C (aX ah af H.X U) d v->Q v U):wpAny (model PW c.w) A (eval e O) Q E s:=
 wpAny_mono (wpAny_toks ((he _).1 E s F.hW)) (λv U p=>k v U (F.keeps p.2.1 p.1) (p.2.2.flatten (by
  rintro a o ((h|⟨e,he,rfl,h⟩)|h)
  .exact .inl (bF F.ex F.old p.2.1 _ _ (.inl h))
  .obtain⟨_,_,_,o',z,J⟩:=F.own e he;rw[h]at z;cases z;exact .inr J.cls
  .exact .inl (bF F.ex F.old p.2.1 _ _ (.inr h))) I)) λ_ _ p=>p.2
theorem Fs.H5{e:Expr}{b:Bool}{Q:Bool->Shared->Prop}(he:∀G,jt c A O (l7 own++ρ) G e b)(F:Fs c ah af H O ρ own s)(k:∀U,Fs c ah af H O ρ own U->Q b U):
 wpAny (model PW c.w) A (isTrue e O (eval e O)) Q E s:=
 wpAny_mono (wpAny_toks ((he _).1 E s F.hW)) (λv U p=>by rw[p.2.1];exact k U (F.keeps p.2.2 p.1)) λ_ _ p=>p.2
def kK(O:Env)(H:Hd)(x:Str):Prop:=O.kindOf x=some .local\/x∈H.Y
theorem Fs.store{x:Str}{d:D}{v:Value}{Q:Unit->Shared->Prop}(F:Fs c ah af H O ρ own s)(hb:kK O H x)(r:Rep c.w c.C (aX ah af H.X s) d v)(ho:own.all (λe=> !(e.1==x))=true)
 (k:∀U,Fs c ah af H O ((x,d)::ρ) own U->Q () U):wpAny (model PW c.w) A (storeName O x v) Q E s:=by
 have hp:(O.scope.kind== .class||(O.scope.kind== .module&&O.locals !=O.globals))=false:=by rw[F.view.kind];rfl
 rcases hb with h|h
 .obtain⟨m,n⟩:=F.frame.2;exact wpAny_storeName_local h n (λh' I z=>k _ (F.fF h r n I z (le_succ _) ho)) hp
 .obtain⟨h1,a,Y,h2,h3,h4⟩:=F.gR x h;exact wpAny_storeName_cell F.view.kind h1 h2 h4 (λh' J z=>k _ (F.setCell h1 r h2 h3 h4 J z (le_refl _) ho))
def wQ(c:Cx)(A:Around)(H:Hd)(O:Env)(own:List (Str×Addr×OD))(t:Expr)(d:D)(ρ bP:List (Str×D)):Prop:=
 ∀ah af E s v,Fs c ah af H O ρ own s->Rep c.w c.C (aX ah af H.X s) d v->wpAny (model PW c.w) A (assign t O v) (λ_ U=>Fs c ah af H O bP own U/\∀b o,b∉H.Z->s.heap.get? b=some o->U.heap.get? b=some o) E s
def Bw(c:Cx)(A:Around)(H:Hd)(O:Env)(own:List (Str×Addr×OD))(ts:List Expr)(ds:List D)(ρ bP:List (Str×D)):Prop:=
 ∀ah af E s vs,Fs c ah af H O ρ own s->aE c.w c.C (aX ah af H.X s) ds vs->
  wpAny (model PW c.w) A (assignInOrder ((assignEach ts O).map (·.2)) vs) (λ_ U=>Fs c ah af H O bP own U/\∀b o,b∉H.Z->s.heap.get? b=some o->U.heap.get? b=some o) E s
theorem gT(zx:∀a∈H.Z,a∈H.X)(I:∀b o,b∉H.Z->s.heap.get? b=some o->U.heap.get? b=some o):∀a o,aX ah af H.X s a o->aX ah af H.X U a o:=by
 rintro a o (h|⟨Y,J,z⟩)
 .exact .inl h
 .exact .inr ⟨I a o (λD=>z (zx a D)) Y,J,z⟩
theorem Fs.gy{x:Str}{d:D}{v:Value}{Q:Unit->Shared->Prop}(F:Fs c ah af H O ρ own s)(hb:kK O H x)(r:Rep c.w c.C (aX ah af H.X s) d v)(ho:own.all (λe=> !(e.1==x))=true)
 (k:∀U,Fs c ah af H O ((x,d)::ρ) own U->(∀b o,b∉H.Z->s.heap.get? b=some o->U.heap.get? b=some o)->Q () U):wpAny (model PW c.w) A (storeName O x v) Q E s:=by
 have hp:(O.scope.kind== .class||(O.scope.kind== .module&&O.locals !=O.globals))=false:=by rw[F.view.kind];rfl
 rcases hb with h|h
 .obtain⟨m,n⟩:=F.frame.2;exact wpAny_storeName_local h n (λh' I z=>k _ (F.fF h r n I z (le_succ _) ho) (λb o hb e=>(z.2 b (λq=>hb (q▸F.frame.1))).trans e)) hp
 .obtain⟨h1,a,Y,h2,h3,h4⟩:=F.gR x h;exact wpAny_storeName_cell F.view.kind h1 h2 h4 (λh' J z=>k _ (F.setCell h1 r h2 h3 h4 J z (le_refl _) ho) (λb o hb e=>(z.2 b (λq=>hb (q▸h3))).trans e))
theorem au{x:Str}{p:Pos}{d:D}(hb:kK O H x)(ho:own.all (λe=> !(e.1==x))=true):wQ c A H O own (.Name x p) d ρ ((x,d)::ρ):=λah af E s v F r=>wpAny_assign_Name (F.gy hb r ho λU z u=>⟨z,u⟩)
theorem bA:Bw c A H O own [] [] ρ ρ:=λah af E s vs F r=>wpAny_pure ⟨F,λ_ _ _ h=>h⟩
theorem aA{t:Expr}{ts:List Expr}{d:D}{ds:List D}{ρ₁:List (Str×D)}(h:wQ c A H O own t d ρ ρ₁)(h':Bw c A H O own ts ds ρ₁ bP)
 (he:assignEach (t::ts) O=(false,assign t O)::assignEach ts O:=by rfl):Bw c A H O own (t::ts) (d::ds) ρ bP:=λah af E s vs F r=>by
 refine bD r λv vr Y q l=>?_;clear r;obtain rfl:=Y;rw[he];show wpAny (model PW c.w) A (do holding vr (assign t O v);assignInOrder ((assignEach ts O).map (·.2)) vr) _ E s;refine wpAny_bind (wpAny_holding (wpAny_mono (h ah af E s v F q) (λ_ s₁ I=>?_) λ_ _ e=>e));exact wpAny_mono (h' ah af E s₁ vr I.1 (l.mono (gT F.zx I.2))) (λ_ ay J=>⟨J.1,λa o z q=>J.2 _ _ z (I.2 _ _ z q)⟩) λ_ _ e=>e
theorem bU{ts:List Expr}{n:Nat}{p:Pos}{ds:List D}(R:aL A k)(h:Bw c A H O own ts ds ρ bP)(hn:(assignEach ts O).length=ds.length)(J:(assignEach ts O).findIdx? (·.1)=none):
 wQ c A H O own (.Tuple ts n p) (.tup ds) ρ bP:=λah af E s v F r=>by
 refine bD (Kc F.view.sub r) λa vs Y it l=>?_;obtain rfl:=Y;refine assign_Tuple_tuple R.handled it (by rw[hn];simp only[size_toArray];exact l.length.symm) J λh' he=>?_;have kp:Keeps s {s with heap:=h'}:=bI s λb o e=>he b o (ne_of_lt (lt_size e)) e;have up:∀a o,aX ah af H.X s a o->aX ah af H.X {s with heap:=h'} a o:=λa o q=>bF F.ex F.old kp _ _ (.inl q);exact wpAny_mono (h ah af E _ vs (F.keeps kp (le_refl _)) (l.mono up)) (λ_ ay I=>⟨I.1,λa o z q=>I.2 _ _ z (dH kp _ _ q)⟩) λ_ _ e=>e
theorem av{x:Str}{p pos:Pos}{e:Expr}{d:D}{rest:List Stmt}{Q:Flow->Shared->Prop}(F:Fs c ah af H O ρ own s)(he:∀G,Ev c A O ρ G e d)(hb:kK O H x)(ho:own.all (λe=> !(e.1==x))=true)
 (hs:swapsWith e (some (.Name x p)) pos.line O=pure false)(k:∀U,Fs c ah af H O ((x,d)::ρ) own U->wpAny (model PW c.w) A (execs rest O) Q E U):
 wpAny (model PW c.w) A (execs (.Assign [.Name x p] e pos::rest) O) Q E s:=
 wpAny_execs_cons (wpAny_Assign_Name (F.run he λv U z r=>z.store hb r ho k) hs)
structure gh(P:Prop):Prop where
 out:P
theorem bS{x:Str}{p pos:Pos}{e:Expr}{d:D}{rest:List Stmt}{Q:Flow->Shared->Prop}(F:Fs c ah af H O ρ own s)(he:∀G,Ev c A O ρ G e d)(hb:kK O H x)(ho:own.all (λe=> !(e.1==x))=true)
 (hs:swapsWith e (some (.Name x p)) pos.line O=pure false)(k:∀U,Fs c ah af H O ((x,d)::ρ) own U->wpAny (model PW c.w) A (execs rest O) Q E U):
 gh (wpAny (model PW c.w) A (execs (.Assign [.Name x p] e pos::rest) O) Q E s):=⟨av F he hb ho hs k⟩
theorem E7{x:Str}{p pos:Pos}{e:Expr}{d:D}{rest:List Stmt}{Q:Flow->Shared->Prop}(F:Fs c ah af H O ρ own s)(he:∀G,Ev c A O (l7 own++ρ) G e d)(z:flat d=true)(hb:kK O H x)(ho:own.all (λe=> !(e.1==x))=true)
 (hs:swapsWith e (some (.Name x p)) pos.line O=pure false)(k:∀U,Fs c ah af H O ((x,d)::ρ) own U->wpAny (model PW c.w) A (execs rest O) Q E U):
 wpAny (model PW c.w) A (execs (.Assign [.Name x p] e pos::rest) O) Q E s:=
 wpAny_execs_cons (wpAny_Assign_Name (F.qJ he z λv U I r=>I.store hb r ho k) hs)
theorem fv{ts:List Expr}{n:Nat}{p pos:Pos}{e:Expr}{d:D}{rest:List Stmt}{Q:Flow->Shared->Prop}(F:Fs c ah af H O ρ own s)(he:∀G,Ev c A O ρ G e d)(ha:wQ c A H O own (.Tuple ts n p) d ρ bP)
 (k:∀U,Fs c ah af H O bP own U->wpAny (model PW c.w) A (execs rest O) Q E U)
 (hs:swapsWithSole [.Tuple ts n p] e pos.line O=pure false:=by rfl)(I:swappedStores [.Tuple ts n p] e O=pure none:=by rfl):
 wpAny (model PW c.w) A (execs (.Assign [.Tuple ts n p] e pos::rest) O) Q E s:=
 wpAny_execs_cons (PyProof.Rows.Assign_Tuple (F.run he λv U J r=>wpAny_mono (ha _ _ _ _ _ J r) (λ_ ay z=>k ay z.1) λ_ _ e=>e) hs I)
theorem EY{ts:List Expr}{n:Nat}{p pos:Pos}{e:Expr}{d:D}{rest:List Stmt}{Q:Flow->Shared->Prop}(F:Fs c ah af H O ρ own s)(he:∀G,Ev c A O (l7 own++ρ) G e d)(J:flat d=true)(ha:wQ c A H O own (.Tuple ts n p) d ρ bP)
 (k:∀U,Fs c ah af H O bP own U->wpAny (model PW c.w) A (execs rest O) Q E U)
 (hs:swapsWithSole [.Tuple ts n p] e pos.line O=pure false:=by rfl)(I:swappedStores [.Tuple ts n p] e O=pure none:=by rfl):
 wpAny (model PW c.w) A (execs (.Assign [.Tuple ts n p] e pos::rest) O) Q E s:=
 wpAny_execs_cons (PyProof.Rows.Assign_Tuple (F.qJ he J λv U Y r=>wpAny_mono (ha _ _ _ _ _ Y r) (λ_ ay z=>k ay z.1) λ_ _ e=>e) hs I)
theorem vw{x y:Str}{v:Value}{d1 d2:D}{Q:Unit->Shared->Prop}(R:aL A k)(F:Fs c ah af H O ρ own s)(r:Rep c.w c.C (aX ah af H.X s) (.tup [d1,d2]) v)
 (hx:kK O H x)(hy:kK O H y)(ox:own.all (λe=> !(e.1==x))=true)(oy:own.all (λe=> !(e.1==y))=true)
 (kk:∀U,Fs c ah af H O ((x,d1)::(y,d2)::ρ) own U->Q () U):
 wpAny (model PW c.w) A (unpackItems v 2 none) (λitems ay=>wpAny (model PW c.w) A (assignInOrder [λu=>bindName O y u,λu=>bindName O x u] items.reverse) Q E ay) E s:=by
 refine bD (Kc F.view.sub r) λa vs z it l=>?_;obtain rfl:=z;refine bD l.two λv1 v2 z r1 r2=>?_;obtain rfl:=z;have h2:(2:Nat)=(toArray [v1,v2]).size:=rfl;rw[h2];refine unpackItems_tuple R.handled it λh' he=>?_;have kp:Keeps s {s with heap:=h'}:=bI s λb o e=>he b o (ne_of_lt (lt_size e)) e;have up:∀a o,aX ah af H.X s a o->aX ah af H.X {s with heap:=h'} a o:=λa o q=>bF F.ex F.old kp _ _ (.inl q);have F2:=F.keeps kp (le_refl _);have hr:(toArray [v1,v2]).toList.reverse=[v2,v1]:=rfl;rw[hr];refine wpAny_bind (wpAny_holding (wpAny_bindName (F2.gy hy (r2.mono up) oy λbB oP I=>?_)));refine wpAny_bind (wpAny_holding (wpAny_bindName (oP.gy hx ((r1.mono up).mono (gT F2.zx I)) ox λJ Y _=>?_)));exact wpAny_pure (kk J Y)
theorem iQ{x y:Str}{ts:List Expr}{n:Nat}{p pos:Pos}{e:Expr}{d1 d2:D}{rest:List Stmt}{Q:Flow->Shared->Prop}(R:aL A k)(F:Fs c ah af H O ρ own s)(he:∀G,Ev c A O ρ G e (.tup [d1,d2]))
 (hx:kK O H x)(Y:kK O H y)(I:own.all (λe=> !(e.1==x))=true)(z:own.all (λe=> !(e.1==y))=true)
 (hw:swappedStores [.Tuple ts n p] e O=pure (some [x,y]))(J:∀U,Fs c ah af H O ((x,d1)::(y,d2)::ρ) own U->wpAny (model PW c.w) A (execs rest O) Q E U)
 (hs:swapsWithSole [.Tuple ts n p] e pos.line O=pure false:=by rfl):
 wpAny (model PW c.w) A (execs (.Assign [.Tuple ts n p] e pos::rest) O) Q E s:=
 wpAny_execs_cons (PyProof.Rows.Assign_Tuple_swapped (names:=[x,y]) (F.run he λv U F' r=>vw R F' r hx Y I z J) hs hw)
theorem Hf{x y:Str}{ts:List Expr}{n:Nat}{p pos:Pos}{e:Expr}{d1 d2:D}{rest:List Stmt}{Q:Flow->Shared->Prop}(R:aL A k)(F:Fs c ah af H O ρ own s)(he:∀G,Ev c A O (l7 own++ρ) G e (.tup [d1,d2]))
 (hf:flat (.tup [d1,d2])=true)
 (hx:kK O H x)(Y:kK O H y)(I:own.all (λe=> !(e.1==x))=true)(z:own.all (λe=> !(e.1==y))=true)
 (hw:swappedStores [.Tuple ts n p] e O=pure (some [x,y]))(J:∀U,Fs c ah af H O ((x,d1)::(y,d2)::ρ) own U->wpAny (model PW c.w) A (execs rest O) Q E U)
 (hs:swapsWithSole [.Tuple ts n p] e pos.line O=pure false:=by rfl):
 wpAny (model PW c.w) A (execs (.Assign [.Tuple ts n p] e pos::rest) O) Q E s:=
 wpAny_execs_cons (PyProof.Rows.Assign_Tuple_swapped (names:=[x,y]) (F.qJ he hf λv U F' r=>vw R F' r hx Y I z J) hs hw)
theorem bK{test:Expr}{body z:List Stmt}{pos:Pos}{rest:List Stmt}{b:Bool}{Q:Flow->Shared->Prop}(F:Fs c ah af H O ρ own s)(he:∀G,jt c A O ρ G test b)
 (k:∀U,Fs c ah af H O ρ own U->wpAny (model PW c.w) A (execs (bif b then body else z) O) (λf U=>match f with| .next=>wpAny (model PW c.w) A (execs rest O) Q E U|f=>Q f U) E U):
 wpAny (model PW c.w) A (execs (.If test body z pos::rest) O) Q E s:=
 wpAny_execs_cons (wpAny_If (F.test he λU D=>by cases b<;>exact k U D))
theorem E4{test:Expr}{body z:List Stmt}{pos:Pos}{rest:List Stmt}{b:Bool}{Q:Flow->Shared->Prop}(F:Fs c ah af H O ρ own s)(he:∀G,jt c A O (l7 own++ρ) G test b)
 (k:∀U,Fs c ah af H O ρ own U->wpAny (model PW c.w) A (execs (bif b then body else z) O) (λf U=>match f with| .next=>wpAny (model PW c.w) A (execs rest O) Q E U|f=>Q f U) E U):
 wpAny (model PW c.w) A (execs (.If test body z pos::rest) O) Q E s:=
 wpAny_execs_cons (wpAny_If (F.H5 he λU D=>by cases b<;>exact k U D))
theorem aK{e:Expr}{pos:Pos}{d:D}{rest:List Stmt}{Q:Flow->Shared->Prop}(F:Fs c ah af H O ρ own s)(he:∀G,Ev c A O ρ G e d)
 (k:∀v U,Fs c ah af H O ρ own U->Rep c.w c.C (aX ah af H.X U) d v->Q (.ret v) U):wpAny (model PW c.w) A (execs (.Return (some e) pos::rest) O) Q E s:=
 wpAny_execs_cons (wpAny_Return_some (F.run he λv U z r=>k v U z r))
theorem EZ{e:Expr}{pos:Pos}{d:D}{rest:List Stmt}{Q:Flow->Shared->Prop}(F:Fs c ah af H O ρ own s)(he:∀G,Ev c A O (l7 own++ρ) G e d)(z:flat d=true)
 (k:∀v U,Fs c ah af H O ρ own U->Rep c.w c.C (aX ah af H.X U) d v->Q (.ret v) U):wpAny (model PW c.w) A (execs (.Return (some e) pos::rest) O) Q E s:=
 wpAny_execs_cons (wpAny_Return_some (F.qJ he z λv U I r=>k v U I r))
theorem Fs.less(F:Fs c ah af H O ρ own s)(h:∀x d,bP.lookup x=some d->ρ.lookup x=some d)(h':∀e∈cq,e∈own):Fs c ah af H O bP cq s:=
 {F with
  view:={F.view with vars:=λx d e=>F.view.vars x d (h x d e)}
  own:=λe he=>F.own e (h' e he)}
structure BQ(c:Cx)(A:Around)(O:Env)(ρ:List (Str×D))(G:PH)(e:Expr)(od:OD):Prop where
 h:∀E s,Vw c O ρ G s->wpAny (model PW c.w) A (eval e O) (λv U=>∃a o s₁,v= .ref a/\Keeps s s₁/\Keeps s₁ U/\s₁.heap.get? a=none/\U.heap.get? a=some o/\cg c (grow G s s₁) a od o) E s
theorem je{es:List Expr}{pos:Pos}{ds:List D}(h:oQ c A O ρ G es ds)(hz:sizeOk ds.length=true:=by rfl):BQ c A O ρ G (.List es pos) (.lst ds):= .mk λE s V=>
 wpAny_List (wpAny_mono (h.1 E s pos V) (λvs s₁ p=>⟨by rw[p.2.length];exact le_trans (le_of_ble_eq_true hz) (by rw[sizeLine_eq];decide),by have g:=gv s₁ {cls:= .type "list",data:= .seq vs.toArray};exact⟨_,_,s₁,rfl,p.1,aZ _ _,g.2,g.1,vs,0,rfl,p.2⟩⟩) λ_ _ p=>p)
theorem rp{l r:Expr}{pos:Pos}{ds:List D}{n:Int}(hl:Ev c A O ρ G l (.list ds))(hr:Ev c A O ρ G r (.int n))(h0:0<=n)(h1:n<2^20)(h2:ds.length*n.toNat<2^20):
 BQ c A O ρ G (.BinOp l .Mult r pos) (.lst (replicate n.toNat ds).flatten):= .mk λE s V=>
 wpAny_BinOp (hl.run V λva s₁ I J=>hr.run J λvb ay z DS=>by obtain⟨kk,ra,rb⟩:=I.two z;refine dR ra λa vs n' Y g1 l1=>?_;clear ra;obtain rfl:=Y;obtain⟨u,rfl⟩:=rb;have g:=gv ay {cls:= .type "list",data:= .seq (replicate n.toNat vs).flatten.toArray};refine pz (V.gG kk _ _ g1) h0 h1 (by rw[l1.length];exact h2) ?_;exact⟨_,_,ay,rfl,kk,aZ _ _,g.2,g.1,_,0,rfl,l1.rep _⟩)
theorem GN(B:c.B){ks:List Int}{ds:List D}(hz:sizeOk ks.length=true){vs:List Value}(g:Gd c G s)(l:aE c.w c.C G [.bT ks ds] vs):
 wpAny (model PW c.w) A (call (.type "dict") vs) (λv U=>∃a o,v= .ref a/\Keeps s U/\s.heap.get? a=none/\U.heap.get? a=some o/\cg c G a (.rN ks ds) o) E s:=by
 refine aq l.one λv I r=>?_;obtain rfl:=I;obtain⟨a,ob,us,rfl,z,gg,dk,hl,l⟩:=r;have hlen:(ks.zip us).length<=sizeLine:=by rw[List.length_zip,<-hl,min_self];exact le_trans (le_of_ble_eq_true hz) (by rw[sizeLine_eq];decide)
 refine PySem.kt_call_dict z (dk.dictOf (g.sub _ _ gg)) hlen λh' hd sb=>?_;obtain⟨o,es,ep,h1,h2,Y,J,h5,h6⟩:=hd;have gn:=gv s {cls:= .type "dict",data:= .dict #[]};refine⟨_,o,rfl,bI s λb p e=>(sb.2 b (ne_of_lt (lt_size e))).trans (get?_push_of_some _ e),gn.2,h1,?_,us,⟨h2,es,ep,Y,J,h5,h6⟩,hl,l⟩;have Y:mainGlobals<s.heap.objs.size:=(B.g.keeps g.old).lt;have J:sysModules<s.heap.objs.size:=lt_trans (by decide) Y;simpa using ne_of_gt J
noncomputable def Hd.add(H:Hd)(a:Addr):Hd:={H with X:=a::H.X,Z:=a::H.Z}
theorem Fs.hide(F:Fs c ah af H O ρ own s){a:Addr}{o:Obj}(kp:Keeps s U)(tk:s.toks<=U.toks)(ha:s.heap.get? a=none)(ho:U.heap.get? a=some o):Fs c ah af (H.add a) O ρ own U:=by
 have kk:=dH kp;have up:∀b p,aX ah af H.X s b p->aX ah af (a::H.X) U b p:=by
  rintro b p (h|⟨I,h2,Y⟩)
  .exact .inl h
  .refine .inr ⟨kk _ _ I,h2,λhm=>?_⟩;rcases dg hm with e|hm
   .rw[e,ha]at I;exact ns I
   .exact Y hm
 have D:=F.keeps kp tk;have OM:af.heap.get? a=none:=by exact oN λp e=>Lw.sn ((F.old _ _ e).symm.trans ha)
 have Jr:a∉H.X:=λhm=>by obtain⟨p,e⟩:=F.ex a hm;rw[e]at ha;exact sn ha
 exact{
  gd:=D.gd
  rest:=D.rest
  old:=D.old
  new:=λx J=>by
   rcases dg J with e|hm
   .rw[e];exact OM
   .exact F.new x hm
  ex:=λx J=>by
   rcases dg J with e|hm
   .exact⟨o,e▸ho⟩
   .exact D.ex x hm
  view:={sub:=by
          rintro b p (h|⟨I,_,_⟩)
          .exact D.view.sub _ _ (.inl h)
          .exact I
         base:=λb p e=>up _ _ (F.view.base b p e)
         toks:=D.view.toks
         kind:=D.view.kind
         glob:=D.view.glob
         fq:=D.view.fq
         vars:=λx d e=>let⟨v,i,r⟩:=F.view.vars x d e;⟨v,i.keeps kk,r.mono up⟩
         apart:=D.view.apart
         cells:=D.view.cells}
  own:=λe he=>let⟨I,h2,Y,p,h4,h5⟩:=F.own e he;⟨.tail _ I,h2.keeps kk,Y,p,kk _ _ h4,h5.mono up⟩
  frame:=⟨.tail _ D.frame.1,D.frame.2⟩
  gR:=λx J=>let⟨I,b,v,h2,Y,h4⟩:=D.gR x J;⟨I,b,v,h2,.tail _ Y,h4⟩
  zx:=λb hb=>by
   rcases dg hb with e|hm
   .rw[e];exact .head _
   .exact .tail _ (F.zx b hm)
  inv:=D.inv
  eS:=D.eS
  jz:=λb hb hm=>by
   rcases dg hm with e|hm
   .obtain⟨p,q⟩:=F.gQ b hb;rw[e,ha]at q;exact ns q
   .exact F.jz b hb hm
  gQ:=D.gQ
  apart:=D.apart
  dt:=λy b h=>⟨(D.dt y b h).1,by
   by_cases q:b=a
   .subst q;exact .inr (.head _)
   .rcases(F.dt y b h).2 with z|z
    .exact .inl λhm=>by
      rcases dg hm with e|hm
      .exact q e
      .exact z hm
    .exact .inr (.tail _ z)⟩}
theorem zv(F:Fs c ah af H O ρ own s){a:Addr}{od:OD}{o:Obj}{s₁:Shared}(k1:Keeps s s₁)(k2:Keeps s₁ U)(ha:s₁.heap.get? a=none)(ho:cg c (grow (aX ah af H.X s) s s₁) a od o):
 cg c (aX ah af (a::H.X) U) a od o:=ho.mono (by
 rintro b p h;rcases bF F.ex F.old k1 b p h with h|⟨z,I,D⟩
 .exact .inl h
 .refine .inr ⟨dH k2 _ _ z,I,λhm=>?_⟩;rcases dg hm with e|hm
  .rw[e,ha]at z;exact ns z
  .exact D hm)
theorem Fs.ot(F:Fs c ah af H O ρ own s){x:Str}{a:Addr}{od:OD}{o:Obj}(z:ρ.lookup x=some (.adr a))(ha:a∈H.Z)(D:a≠O.locals)(ho:s.heap.get? a=some o)(h:cg c (aX ah af H.X s) a od o):
 Fs c ah af H O ρ ((x,a,od)::own) s:=
 have q:∀e∈(x,a,od)::own,e.2.1∈H.Z/\rJ O s.heap e.1 (.ref e.2.1)/\e.2.1≠O.locals/\∃o,s.heap.get? e.2.1=some o/\cg c (aX ah af H.X s) e.2.1 e.2.2 o:=by
  intro e he;rcases dg he with rfl|he
  .refine aq (F.view.vars x _ z) λv i r=>?_;subst r;exact⟨ha,i,D,o,ho,h⟩
  .exact F.own e he
 {F with own:=q}
theorem iS{x:Str}{p pos:Pos}{e:Expr}{od:OD}{rest:List Stmt}{Q:Flow->Shared->Prop}(F:Fs c ah af H O ρ own s)(he:∀G,BQ c A O ρ G e od)(hb:kK O H x)(ho:own.all (λe=> !(e.1==x))=true)
 (hs:swapsWith e (some (.Name x p)) pos.line O=pure false)(kk:∀a U,a∉H.X->Fs c ah af (H.add a) O ((x,.adr a)::ρ) ((x,a,od)::own) U->wpAny (model PW c.w) A (execs rest O) Q E U):
 wpAny (model PW c.w) A (execs (.Assign [.Name x p] e pos::rest) O) Q E s:=
 wpAny_execs_cons (wpAny_Assign_Name (wpAny_mono (wpAny_toks ((he _).1 E s F.view)) (λv U q=>by
  obtain⟨tk,a,o,s₁,rfl,k1,k2,h1,h2,h3⟩:=q;have kp:=aQ k1 k2;have ha:s.heap.get? a=none:=by exact oN λp q=>Lw.sn ((dH k1 _ _ q).symm.trans h1)
  have Jr:a∉H.X:=λhm=>(F.ex _ hm).elim λp z=>Lw.ns (ha.symm.trans z);have I:=F.hide kp tk ha h2;have J:=zv F k1 k2 h1 h3;have hL:a≠O.locals:=λq=>by obtain⟨p,z⟩:=F.ex _ (F.zx _ F.frame.1);rw[<-q,ha]at z;exact ns z
  have OL:kK O (H.add a) x:=hb;have hp:(O.scope.kind== .class||(O.scope.kind== .module&&O.locals !=O.globals))=false:=by rw[F.view.kind];rfl
  rcases hb with h|h
  .obtain⟨m,n⟩:=I.frame.2;refine wpAny_storeName_local h n (λh' Hu D=>?_) hp;have F2:=I.fF (d:= .adr a) h (by exact rfl) n Hu D (le_succ _) ho;refine kk a _ Jr (F2.ot (by simp) (.head _) hL ((D.2 a hL).trans h2) (J.mono (gk (λa h h'=>h' h) (I.zx _ I.frame.1) D)))
  .obtain⟨q1,b,HX,q2,q3,q4⟩:=I.gR x h;have Kz:a≠b:=λq=>by
    refine aq q4 λoc Y hd=>?_;clear q4;rw[<-q,h2]at Y;obtain rfl:=bg Y;cases od with
    |lst ds=>refine cC J λvs n e _=>?_;clear J;subst e;cases hd
    |rN ks ds=>obtain⟨_,vs,⟨_,es,ep,h,_⟩,_⟩:=J;rw[h]at hd;cases hd
   refine wpAny_storeName_cell F.view.kind q1 q2 q4 (λh' QX D=>?_);have F2:=I.setCell (d:= .adr a) q1 (by exact rfl) q2 q3 q4 QX D (le_refl _) ho;exact kk a _ Jr (F2.ot (by simp) (.head _) hL ((D.2 a Kz).trans h2) (J.mono (gk (λa h h'=>h' h) (I.zx _ q3) D)))) λ_ _ q=>q.2) hs)
theorem Fs.mut{x:Str}{a:Addr}{od od':OD}(F:Fs c ah af H O ρ [(x,a,od)] s){h':Heap}{tk:Nat}{o':Obj}(sb:Heap.SameBut a s.heap h')(tk':s.toks<=tk)(ho:h'.get? a=some o')(oo:cg c (aX ah af H.X s) a od' o'):
 Fs c ah af H O ρ [(x,a,od')] {s with heap:=h',toks:=tk}:=by
 obtain⟨ha,J,hL,o,Hs,D⟩:=F.own (x,a,od) (.head _);simp only at ha J hL Hs D;have up:∀b p,aX ah af H.X s b p->aX ah af H.X {s with heap:=h',toks:=tk} b p:=gk (λa h h'=>h' h) (F.zx _ ha) sb;have Y:∀b p,b≠a->s.heap.get? b=some p->h'.get? b=some p:=λb p hb e=>(sb.2 b hb).trans e;have I:∀b p,af.heap.get? b=some p->b≠a:=λb p e h=>by rw[h,F.new _ (F.zx _ ha)]at e;exact ns e
 have z:∀{v},¬s.heap.IsCell a v:=λhc=>by
  refine aq hc λoc CU hd=>?_;clear hc;rw[Hs]at CU;obtain rfl:=bg CU;cases od with
  |lst ds=>refine cC D λvs n e _=>?_;clear D;subst e;cases hd
  |rN ks ds=>obtain⟨_,vs,⟨_,es,ep,h,_⟩,_⟩:=D;rw[h]at hd;cases hd
 have other:∀y u,rJ O s.heap y u->rJ O h' y u:=λy u i=>by
  rcases i with⟨q,m,n,e⟩|⟨q,b,n,e⟩
  .exact .inl ⟨q,m,n.sameBut sb (Ne.symm hL),e⟩
  .exact .inr ⟨q,b,n,e.sameBut sb (λh=>z (h▸e))⟩
 exact{
  gd:=F.gd
  rest:=by have:=F.rest;rw[this]
  old:=λb p e=>Y b p (I b p e) (F.old b p e)
  new:=F.new
  ex:=λy hy=>by
   by_cases h:y=a
   .subst h;exact⟨o',ho⟩
   .obtain⟨p,e⟩:=F.ex y hy;exact⟨p,Y y p h e⟩
  view:={sub:=by
          rintro b p (h|⟨h1,_,_⟩)
          .exact Y b p (I b p (F.gd.sub _ _ h)) (F.old _ _ (F.gd.sub _ _ h))
          .exact h1
         base:=λb p e=>up _ _ (F.view.base b p e)
         toks:=lt_of_lt_of_le F.view.toks tk'
         kind:=F.view.kind
         glob:=F.view.glob
         fq:=F.view.fq
         vars:=λy d e=>let⟨u,i,q⟩:=F.view.vars y d e;⟨u,other y u i,q.mono up⟩
         apart:=F.apart
         cells:=λy b h=>by
          by_cases q:b=a
          .subst q;exact⟨o',ho⟩
          .obtain⟨o,e⟩:=(F.dt y b h).1;exact⟨o,Y b o q e⟩}
  own:=λe he=>by
   rcases dg he with rfl|he
   .exact⟨ha,other _ _ J,hL,o',ho,oo.mono up⟩
   .cases he
  frame:=⟨F.frame.1,let⟨m,n⟩:=F.frame.2;⟨m,n.sameBut sb (Ne.symm hL)⟩⟩
  gR:=λy hy=>let⟨h1,b,u,h2,h3,h4⟩:=F.gR y hy;⟨h1,b,u,h2,h3,h4.sameBut sb (λh=>z (h▸h4))⟩
  zx:=F.zx
  inv:=F.eS _ _ F.inv λb hb o e=>Y b o (λh=>F.jz b hb (h▸ha)) e
  eS:=F.eS
  jz:=F.jz
  gQ:=λb hb=>let⟨o,e⟩:=F.gQ b hb;⟨o,Y b o (λh=>F.jz b hb (h▸ha)) e⟩
  apart:=F.apart
  dt:=λy b h=>⟨by
   by_cases q:b=a
   .subst q;exact⟨o',ho⟩
   .obtain⟨o,e⟩:=(F.dt y b h).1;exact⟨o,Y b o q e⟩,(F.dt y b h).2⟩}
noncomputable def Hd.del(H:Hd)(a:Addr):Hd:={H with X:=H.X.filter (· !=a),Z:=H.Z.filter (· !=a)}
theorem Hd.rG{H:Hd}{a:Addr}(h:a∉H.X)(h':a∉H.Z):(H.add a).del a=H:=by
 unfold Hd.add Hd.del;have e1:(a::H.X).filter (· !=a)=H.X:=by rw[filter_cons,if_neg (by simp)];exact oS λb hb=>by simp;rintro rfl;exact h hb
 have e2:(a::H.Z).filter (· !=a)=H.Z:=by rw[filter_cons,if_neg (by simp)];exact oS λb hb=>by simp;rintro rfl;exact h' hb
 simp only[e1,e2]
theorem gH{d Y:D}{x:Str}:∀{ys:List Str}{ρ:List (Str×D)},(ys.map (λy=>(y,d))++ρ).lookup x=some Y->(x∈ys/\Y=d)\/(x∉ys/\ρ.lookup x=some Y)
 |[],ρ,h=> .inr ⟨by simp,h⟩
 |y::ys,ρ,h=>by
  simp only[map_cons,cons_append,lookup_cons]at h;by_cases z:x=y
  .rw[show(x==y)=true from by simpa using z]at h;obtain rfl:=bg h;exact .inl ⟨by simp[z],rfl⟩
  .rw[show(x==y)=false from by simpa using z]at h;rcases gH (ys:=ys) h with⟨J,I⟩|⟨J,I⟩
   .exact .inl ⟨.tail _ J,I⟩
   .exact .inr ⟨by simp[z,J],I⟩
theorem Fs.freeze{x:Str}{a:Addr}{od:OD}(F:Fs c ah af H O ρ [(x,a,od)] s)(ys:List Str)(Y:∀y∈ys,ρ.lookup y=some (.adr a)):
 Fs c ah af (H.del a) O (ys.map (λy=>(y,od.d))++ρ) [] s:=by
 obtain⟨ha,z7,hL,o,Hs,D⟩:=F.own (x,a,od) (.head _);simp only at ha z7 hL Hs D;have sub:∀b,b∈H.X.filter (· !=a)->b∈H.X/\b≠a:=λb hb=>by simpa using hb
 have up:∀b p,aX ah af H.X s b p->aX ah af (H.X.filter (· !=a)) s b p:=by
  rintro b p (h|⟨I,h2,h3⟩)
  .exact .inl h
  .exact .inr ⟨I,h2,λhm=>h3 (sub b hm).1⟩
 have J:∀{v},¬s.heap.IsCell a v:=λhc=>by
  refine aq hc λoc CU hd=>?_;clear hc;rw[Hs]at CU;obtain rfl:=bg CU;cases od with
  |lst ds=>refine cC D λvs n e _=>?_;clear D;subst e;cases hd
  |rN ks ds=>obtain⟨_,vs,⟨_,es,ep,h,_⟩,_⟩:=D;rw[h]at hd;cases hd
 exact{
  gd:=F.gd
  rest:=F.rest
  old:=F.old
  new:=λy Y=>F.new y (sub y Y).1
  ex:=λy Y=>F.ex y (sub y Y).1
  view:={sub:=by
          rintro b p (h|⟨I,_,_⟩)
          .exact F.view.sub _ _ (.inl h)
          .exact I
         base:=λb p e=>up _ _ (F.view.base b p e)
         toks:=F.view.toks
         kind:=F.view.kind
         glob:=F.view.glob
         fq:=F.view.fq
         vars:=λy d e=>by
          rcases gH e with⟨I,rfl⟩|⟨I,h2⟩
          .refine aq (F.view.vars y _ (Y y I)) λu i q=>?_;subst q;exact⟨_,i,D.rep up (.inr ⟨Hs,F.new _ (F.zx _ ha),by simp[Hd.del]⟩)⟩
          .refine aq (F.view.vars y d h2) λu i q=>?_;exact⟨u,i,q.mono up⟩
         apart:=F.view.apart
         cells:=F.view.cells}
  own:=λe he=>nomatch he
  frame:=⟨by simp only[Hd.del,mem_filter];exact⟨F.frame.1,by simpa using Ne.symm hL⟩,F.frame.2⟩
  gR:=λy Y=>let⟨I,b,u,h2,h3,h4⟩:=F.gR y Y;⟨I,b,u,h2,by simp only[Hd.del,mem_filter];exact⟨h3,by simpa using λh=>J (h▸h4)⟩,h4⟩
  zx:=λb hb=>by simp only[Hd.del,mem_filter]at hb⊢;exact⟨F.zx b hb.1,hb.2⟩
  inv:=F.inv
  eS:=F.eS
  jz:=λb hb hm=>F.jz b hb (by simp only[Hd.del,mem_filter]at hm;exact hm.1)
  gQ:=F.gQ
  apart:=F.apart
  dt:=λy b h=>⟨(F.dt y b h).1,by
   simp only[Hd.del,mem_filter];by_cases q:b=a
   .subst q;exact .inl (by simp)
   .rcases(F.dt y b h).2 with z|z
    .exact .inl λhm=>z hm.1
    .exact .inr ⟨z,by simpa using q⟩⟩}
noncomputable def iD(z:Operator)(a b:D):Option D:=match z with
 | .Add=>a.fW λx=>b.fW λy=>some (.int (x+y))
 | .Sub=>a.fW λx=>b.fW λy=>some (.int (x-y))
 | .Mult=>a.fW λx=>b.fW λy=>if i5 x y=true then some (.int (x*y))else none
 | .FloorDiv=>a.fW λx=>b.fW λy=>if fe y=true then some (.int (x.fdiv y))else none
 |_=>none
theorem FP{z:Operator}{a b d:D}(h:iD z a b=some d):∃x,a= .int x:=by cases z<;>first|exact ns h|exact(D.Il h).elim λx h=>⟨x,h.1⟩
theorem IJ{I:Operator}{a b d:D}{Y J:Value}(h:iD I a b=some d)(ra:Rep c.w c.C G a Y)(rb:Rep c.w c.C G b J):
 wpAny (model PW c.w) A (inplaceOp I Y J) (cf c.w c.C G s d) E s:=by
 cases I with
 |Add=>refine D.cI h ra λx t h=>?_;refine D.cI h rb λy u h=>?_;obtain rfl:=bg h;exact PyProof.Rows.iadd_int (post_int s _ _ _)
 |Sub=>refine D.cI h ra λx t h=>?_;refine D.cI h rb λy u h=>?_;obtain rfl:=bg h;exact PySem.P.isub_int (post_int s _ _ _)
 |Mult=>refine D.cI h ra λx t h=>?_;refine D.cI h rb λy u h=>?_;refine iF (bw h) λz w=>?_;subst w;exact PyProof.Rows.imul_int (post_int s _ _ _) (λhc=>by rw[i5,hc]at z;exact ft z)
 |FloorDiv=>refine D.cI h ra λx t h=>?_;refine D.cI h rb λy u h=>?_;refine iF (bw h) λz w=>?_;subst w;simp only[fe,and_eq_true,not_eq_true',beq_eq_false_iff_ne]at z;refine AutoIntOps.ifloordiv_1 (by simpa using z.1) ?_ (post_int s _ _ _);rw[PyProof.noPylong_of_log2 (le_of_ble_eq_true z.2)];exact Bool.false_ne_true
 |_=>exact ns h
theorem mO{x:Str}{p pos:Pos}{op:Operator}{e:Expr}{a b d:D}{rest:List Stmt}{Q:Flow->Shared->Prop}(F:Fs c ah af H O ρ own s)(hx:ρ.lookup x=some a)(he:∀G,Ev c A O (l7 own++ρ) G e b)(hf:flat b=true)(hi:iD op a b=some d)(hb:kK O H x)(ho:own.all (λe=> !(e.1==x))=true)
 (kk:∀U,Fs c ah af H O ((x,d)::ρ) own U->wpAny (model PW c.w) A (execs rest O) Q E U)(hd:(x==("__debug__":Str))=false:=by decide):
 wpAny (model PW c.w) A (execs (.AugAssign (.Name x p) op e pos::rest) O) Q E s:=by
 refine wpAny_execs_cons (wpAny_AugAssign_Name ?_);refine aq (F.view.vars x a hx) λv i r=>?_
 have go:wpAny (model PW c.w) A (eval e O) (λv' ay=>wpAny (model PW c.w) A (inplaceOp op v v')
  (λr I=>wpAny (model PW c.w) A (storeName O x r) (λ_=>λU=>wpAny (model PW c.w) A (execs rest O) Q E U) E I) E ay) E s:=by
  have key:=wpAny_toks ((he _).1 E s F.hW);refine F.qJ he hf λv' ay z Y=>?_;have r':Rep c.w c.C (aX ah af H.X ay) a v:=by obtain⟨v2,i2,r2⟩:=z.view.vars x a hx;refine(FP hi).elim λx w=>?_;subst w;exact r
  refine wpAny_mono (wpAny_toks (IJ hi r' Y)) (λv3 I q=>?_) λ_ _ q=>q.2;have oP:=z.keeps q.2.1 q.1;exact oP.store hb (z.up q.2) ho kk
 rcases i with⟨J,m,n,e'⟩|⟨J|J,b',n,e'⟩
 .exact wpAny_loadName_local F.view.kind J n e' go
 .exact wpAny_loadName_cell F.view.kind J n e' go
 .exact wpAny_loadName_free F.view.kind J.1 n e' go J.2
theorem Fs.l8{x:Str}{a:Addr}{od:OD}(F:Fs c ah af H O ρ [(x,a,od)] s):∃o,s.heap.get? a=some o/\cg c (aX ah af H.X s) a od o:=
 (F.own _ (.head _)).2.2.2
theorem i9{x:Str}{p:Pos}{a:Addr}{od:OD}{Q:Value->Shared->Prop}(F:Fs c ah af H O ρ [(x,a,od)] s)(h:Q (.ref a) s)(D:(x==("__debug__":Str))=false:=by decide):
 wpAny (model PW c.w) A (eval (.Name x p) O) Q E s:=by
 obtain⟨_,i,_⟩:=F.own _ (.head _);simp only at i;rcases i with⟨z,m,n,e⟩|⟨z|z,b,n,e⟩
 .exact wpAny_Name (wpAny_loadName_local F.view.kind z n e h) D
 .exact wpAny_Name (wpAny_loadName_cell F.view.kind z n e h) D
 .exact wpAny_Name (wpAny_loadName_free F.view.kind z.1 n e h z.2) D
theorem jm{x:Str}{a:Addr}{ds:List D}{p I z pos:Pos}{e:Expr}{d:D}{rest:List Stmt}{Q:Flow->Shared->Prop}(F:Fs c ah af H O ρ [(x,a,.lst ds)] s)
 (he:∀G,Ev c A O (l7 [(x,a,.lst ds)]++ρ) G e d)(hf:flat d=true)(hz:sizeOk ds.length=true)
 (kk:∀U,Fs c ah af H O ρ [(x,a,.lst (ds++[d]))] U->wpAny (model PW c.w) A (execs rest O) Q E U)
 (hi:interactive O=false)(hs:swapsWith (.Call (.Attribute (.Name x p) "append" I) [e] [] z) none pos.line O=pure false)
 (kj:attributeBase (.Name x p) "append" O (eval (.Name x p) O)=eval (.Name x p) O)
 (uM:((backTo z (starEach [e] O)).all (λx=> !x.1)&&(backToKw z (keywordEach [] O)).all (λx=>x.1.isSome)
  &&decide (([e]:List Expr).length+([]:List Keyword).length+(if([]:List Keyword).isEmpty then 0 else 1)<30))=true)
 (sZ:(I.endLine==z.line)=true)(J:backTo z (starEach [e] O)=[(false,eval e O)])(hd:(x==("__debug__":Str))=false:=by decide):
 wpAny (model PW c.w) A (execs (.Expr (.Call (.Attribute (.Name x p) "append" I) [e] [] z) pos::rest) O) Q E s:=by
 refine wpAny_execs_cons (wpAny_Expr ?_ hi hs);refine wpAny_Call_append kj uM sZ J (i9 F ?_ hd);obtain⟨o,ho,vs,n,rfl,l⟩:=F.l8;refine⟨a,vs.toArray,rfl,⟨_,n,ho,rfl,rfl,rfl⟩,F.qJ he hf λv ay oA r=>?_⟩;obtain⟨Lm,I4,HY,zF,rfl,Y⟩:=oA.l8;refine wpAny_list_append_plain ⟨zF,I4⟩ (λh' hp sb=>?_) (by simp only[size_toArray];rw[Y.length];exact le_trans (le_of_ble_eq_true hz) (by rw[sizeLine_eq];decide));obtain⟨Lo,I3⟩:=hp;refine kk _ (oA.mut (od':= .lst (ds++[d])) sb (le_refl _) I3 ⟨HY++[v],Lo,by simp,Y.append (by show ∃_,_;exact⟨v,[],rfl,r,rfl⟩)⟩)
theorem aE.set{w:World}{C:Addr}{ds:List D}{vs:List Value}(h:aE w C G ds vs){d:D}{v:Value}(r:Rep w C G d v):∀i,aE w C G (ds.set i d) (vs.set i v):=by
 induction ds generalizing vs with
 |nil=>subst h;intro i;exact rfl
 |cons e ds I=>
  refine bD h λu t z q l=>?_;clear h;obtain rfl:=z;intro i;cases i with
  |zero=>simp only[List.set_cons_zero,aE];exact⟨v,t,rfl,r,l⟩
  |succ i=>simp only[List.set_cons_succ,aE];exact⟨u,_,rfl,q,I l i⟩
theorem set_own{x:Str}{a:Addr}{ds:List D}{i:Int}{t:Tok}{d:D}{v:Value}{Q:Unit->Shared->Prop}(F:Fs c ah af H O ρ [(x,a,.lst ds)] s)(r:Rep c.w c.C (aX ah af H.X s) d v)(Y:0<=i)(I:i<ds.length)(hz:sizeOk ds.length=true)
 (J:∀U,Fs c ah af H O ρ [(x,a,.lst (ds.set i.toNat d))] U->Q () U):wpAny (model PW c.w) A (setItem (.ref a) (.int i t) v) Q E s:=by
 obtain⟨o,ho,vs,n,rfl,l⟩:=F.l8;have z:=le_of_ble_eq_true hz;have hl:=l.length;refine PySem.W.ki_setAt ho Y (by exact aM 0x100000072a0a7112a183f2215112a18 [_] [_] I z) (by simp only[size_toArray];exact aM 0xab0b7112a18a7112a18 [_,_] [_] I (ju hl)) ?_;have u:=PySem.IsL.update ho (·.setIfInBounds i.toNat v);refine J _ (F.mut (od':= .lst (ds.set i.toNat d)) (Heap.SameBut.update ..) (le_refl _) u ⟨vs.set i.toNat v,n,?_,l.set r _⟩);simp
theorem qF{x:Str}{a:Addr}{ds:List D}{p I pos:Pos}{e i:Expr}{n:Int}{d:D}{rest:List Stmt}{Q:Flow->Shared->Prop}(F:Fs c ah af H O ρ [(x,a,.lst ds)] s)
 (he:∀G,Ev c A O (l7 [(x,a,.lst ds)]++ρ) G e d)(hf:flat d=true)(hi:∀G,Ev c A O (l7 [(x,a,.lst ds)]++ρ) G i (.int n))(h0:0<=n)(h1:n<ds.length)(hz:sizeOk ds.length=true)
 (kk:∀U,Fs c ah af H O ρ [(x,a,.lst (ds.set n.toNat d))] U->wpAny (model PW c.w) A (execs rest O) Q E U)
 (hs:swapsWith e (some (.Subscript (.Name x p) i I)) pos.line O=pure false:=by rfl)(hd:(x==("__debug__":Str))=false:=by decide):
 wpAny (model PW c.w) A (execs (.Assign [.Subscript (.Name x p) i I] e pos::rest) O) Q E s:=by
 refine wpAny_execs_cons (wpAny_Assign_Subscript (F.qJ he hf λv s₁ z r=>i9 z (wpAny_mono (wpAny_toks ((hi _).1 E s₁ z.hW)) (λvi ay q=>?_) λ_ _ q=>q.2) hd) hs);have J:=z.keeps q.2.1 q.1;have Y:=q.2.2;obtain⟨t,rfl⟩:=Y;exact set_own J (r.mono (λa o h=>bF z.ex z.old q.2.1 _ _ (.inl h))) h0 h1 hz kk
theorem wZ{x:Str}{a:Addr}{ds:List D}{p J pos:Pos}{op:Operator}{e i:Expr}{n m b:Int}{d:D}{rest:List Stmt}{Q:Flow->Shared->Prop}(F:Fs c ah af H O ρ [(x,a,.lst ds)] s)
 (hi:∀G,Ev c A O (l7 [(x,a,.lst ds)]++ρ) G i (.int n))(h0:0<=n)(h1:ds[n.toNat]? =some (.int m))(he:∀G,Ev c A O (l7 [(x,a,.lst ds)]++ρ) G e (.int b))(ho:iD op (.int m) (.int b)=some d)(hz:sizeOk ds.length=true)
 (kk:∀U,Fs c ah af H O ρ [(x,a,.lst (ds.set n.toNat d))] U->wpAny (model PW c.w) A (execs rest O) Q E U)
 (ha:∀ov iv new,augStore i ov iv new=(do holding [new,ov,iv] (setItem ov iv new);release [new,ov,iv] [];pure .next):=by intro _ _ _;rfl)(hd:(x==("__debug__":Str))=false:=by decide):
 wpAny (model PW c.w) A (execs (.AugAssign (.Subscript (.Name x p) i J) op e pos::rest) O) Q E s:=by
 refine wpAny_execs_cons (wpAny_AugAssign_Subscript_any (i9 F (wpAny_mono (wpAny_toks ((hi _).1 E s F.hW)) (λvi s₁ q=>?_) λ_ _ q=>q.2) hd) ha);have I:=F.keeps q.2.1 q.1;have ri:=q.2.2;obtain⟨t,rfl⟩:=ri;obtain⟨o,FX,vs,nn,rfl,l⟩:=I.l8;refine aq (l.xR h1) λvm em rm=>?_;have Y:n.toNat<ds.length:=by
  rcases lt_or_ge n.toNat ds.length with h|h
  .exact h
  .rw[List.getElem?_eq_none h]at h1;exact ns h1
 have CR:=le_of_ble_eq_true hz;obtain⟨tm,rfl⟩:=rm;refine wpAny_getItem_list ⟨_,FX,rfl,_,rfl⟩ h0 (by exact cU 0x100000072b0b112a10a7a83f2215112a18 [_,_] [_] uc Y CR) em ?_;refine I.qJ he rfl λv ay z r=>?_;have PT:Rep c.w c.C (aX ah af H.X ay) (.int m) (.int m tm):=by exact Exists.intro _ rfl
 refine wpAny_mono (wpAny_toks (IJ ho PT r)) (λv3 bB q'=>?_) λ_ _ q=>q.2;have oP:=z.keeps q'.2.1 q'.1;exact set_own oP (z.up q'.2) h0 (by exact aM 0xa112b10b7a8a7112a18 [_,_] [_] uc Y) hz kk
noncomputable def iV(T:String):Bool:= !(["enumerate","zip","dict_itemiterator","dict_reverseitemiterator","odict_iterator","itertools.zip_longest","itertools.pairwise"].contains T)
def wL(c:Cx)(A:Around)(G:PH)(s:Shared)(it:Value)(ds:List D)(s₁:Shared):Prop:=
 ∃I fp wr P St,it= .ref I/\Walks PW c.w A I fp wr ds.length P St/\St 0 s₁.heap/\(∀i h,St i h->∀b∈fp,∃o,h.get? b=some o)/\
  (∀b∈fp,(∃o,G b o)\/s.heap.get? b=none)/\(∀b∈wr,s.heap.get? b=none)/\(∀i v,i<ds.length->P i v->∃d,ds[i]? =some d/\Rep c.w c.C (λa o=>grow G s s₁ a o/\a∉wr) d v)/\
  ∃T,iV T=true/\∀i h,St i h->∃o,h.get? I=some o/\o.cls= .type T
def tZ(c:Cx)(A:Around)(O:Env)(ρ:List (Str×D))(G:PH)(e:Expr)(ds:List D):Prop:=
 ∀K E s,Vw c O ρ G s->(∀it s₁,Keeps s s₁->s.toks<=s₁.toks->wL c A G s it ds s₁->K it s₁)->wpAny (model PW c.w) A (eval e O) (λz U=>wpAny (model PW c.w) A (pyIter z) K E U) E s
theorem Ev.Cg{e:Expr}{d:D}{Q:Value->Shared->Prop}(h:Ev c A O ρ G e d)(V:Vw c O ρ G s)(k:∀v U,cf c.w c.C G s d v U->s.toks<=U.toks->Vw c O ρ G U->Q v U):
 wpAny (model PW c.w) A (eval e O) Q E s:=
 wpAny_mono (wpAny_toks (h.1 E s V)) (λv U p=>k v U p.2 p.1 (V.keeps p.2.1 p.1)) λ_ _ p=>p.2
theorem bu(k0:Keeps s U){b:Addr}(h:U.heap.get? b=none):s.heap.get? b=none:=by exact oN λo e=>Lw.sn ((dH k0 _ _ e).symm.trans h)
theorem wj{a:Addr}{o:Obj}(h:grow G s U a o):(∃o,G a o)\/s.heap.get? a=none:=h.elim (λg=> .inl ⟨o,g⟩) λg=> .inr g.2
theorem qQ{a:Addr}{o:Obj}(h:s.heap.get? a=some o):a≠s.heap.objs.size:=ne_of_lt (lt_size h)
theorem bH(s:Shared):s.heap.get? s.heap.objs.size=none:=(gv s {cls:= .none}).2
theorem aE.old{w:World}{C:Addr}(hs:∀a o,G a o->s.heap.get? a=some o){b:Addr}(hb:s.heap.get? b=Option.none){ds:List D}{vs:List Value}(h:aE w C G ds vs)(hg:∀a o,G a o->G' a o):
 aE w C (λa o=>G' a o/\a∉[b]) ds vs:=h.mono λa o g=>⟨hg a o g,λz=>by simp at z;rw[z]at g;rw[hs _ _ g]at hb;exact sn hb⟩
theorem ba(hh:A.handled=none){e:Expr}{ds:List D}(he:Ev c A O ρ G e (.list ds)):tZ c A O ρ G e ds:=λK E s V kk=>
 he.Cg V λv s₁ p tk ou=>by
   have sub:=V.gG p.1;have r:=p.2;refine dR r λa vs n I g l=>?_;clear r;obtain rfl:=I;have il:s₁.heap.IsList a vs.toArray:=⟨_,sub _ _ g,rfl,_,rfl⟩;have J:=qQ (sub _ _ g);refine wpAny_pyIter_list il (kk _ _ (aQ p.1 (aZ _ _)) tk ?_);have hsz:ds.length=vs.toArray.size:=by simp[l.length]
   refine⟨s₁.heap.objs.size,[s₁.heap.objs.size,a],[s₁.heap.objs.size],_,_,rfl,hsz▸Walks.list hh s₁.heap.objs.size a J vs.toArray,⟨⟨_,get?_push_size _ rfl,rfl,rfl⟩,il.push _⟩,?_,?_,?_,?_,?_⟩
   .intro i h w9;obtain⟨⟨o,h1,_⟩,⟨o',Y,_⟩⟩:=w9;intro b hb;simp only[mem_cons,not_mem_nil,or_false]at hb;rcases hb with rfl|rfl
    .exact⟨o,h1⟩
    .exact⟨o',Y⟩
   .intro b hb;simp only[mem_cons,not_mem_nil,or_false]at hb;rcases hb with rfl|rfl
    .exact .inr (bu p.1 (bH s₁))
    .exact wj g
   .intro b hb;simp at hb;subst hb;exact bu p.1 (bH s₁)
   .intro i v z hv;obtain⟨v',e1,r1⟩:=(l.old sub (bH s₁) (cz (aZ s₁ _))).get (getElem?_eq_getElem z);rw[getElem?_toArray,e1]at hv;obtain rfl:=bg hv;exact⟨_,getElem?_eq_getElem z,r1⟩
   .exact⟨"list_iterator",by decide,λi h q=>let⟨o,h1,Y,_⟩:=q.1;⟨o,h1,Y⟩⟩
theorem ke(hh:A.handled=none){e:Expr}{ds:List D}(he:Ev c A O ρ G e (.tup ds)):tZ c A O ρ G e ds:=λK E s V kk=>
 he.Cg V λv s₁ p tk ou=>by
   have sub:=V.gG p.1;have r:=p.2;refine dR r λa vs n I g l=>?_;clear r;obtain rfl:=I;have il:s₁.heap.IsTuple a vs.toArray:=⟨_,sub _ _ g,rfl,_,rfl⟩;have J:=qQ (sub _ _ g);refine wpAny_pyIter_tuple il (kk _ _ (aQ p.1 (aZ _ _)) tk ?_);have hsz:ds.length=vs.toArray.size:=by simp[l.length]
   refine⟨s₁.heap.objs.size,[s₁.heap.objs.size,a],[s₁.heap.objs.size],_,_,rfl,hsz▸Walks.tuple hh s₁.heap.objs.size a J vs.toArray,⟨⟨_,get?_push_size _ rfl,rfl,rfl⟩,il.push _⟩,?_,?_,?_,?_,?_⟩
   .intro i h w9;obtain⟨⟨o,h1,_⟩,⟨o',Y,_⟩⟩:=w9;intro b hb;simp only[mem_cons,not_mem_nil,or_false]at hb;rcases hb with rfl|rfl
    .exact⟨o,h1⟩
    .exact⟨o',Y⟩
   .intro b hb;simp only[mem_cons,not_mem_nil,or_false]at hb;rcases hb with rfl|rfl
    .exact .inr (bu p.1 (bH s₁))
    .exact wj g
   .intro b hb;simp at hb;subst hb;exact bu p.1 (bH s₁)
   .intro i v z hv;obtain⟨v',e1,r1⟩:=(l.old sub (bH s₁) (cz (aZ s₁ _))).get (getElem?_eq_getElem z);rw[getElem?_toArray,e1]at hv;obtain rfl:=bg hv;exact⟨_,getElem?_eq_getElem z,r1⟩
   .exact⟨"tuple_iterator",by decide,λi h q=>let⟨o,h1,Y,_⟩:=q.1;⟨o,h1,Y⟩⟩
noncomputable def gq(x:Str):List D:=x.cps.toList.map λz=> .str ⟨#[z]⟩
theorem vS(hh:A.handled=none){e:Expr}{x:Str}(he:Ev c A O ρ G e (.str x))(ha:x.cps.all (· <128)=true):tZ c A O ρ G e (gq x):=λK E s V Y=>
 he.Cg V λv s₁ p tk J=>by
   have r:=p.2;obtain⟨t,rfl⟩:=r;refine wpAny_pyIter_ascii ha (Y _ _ (aQ p.1 (aZ _ _)) tk ?_);have hsz:(gq x).length=x.cps.size:=by simp[gq]
   refine⟨s₁.heap.objs.size,[s₁.heap.objs.size],[s₁.heap.objs.size],_,_,rfl,hsz▸Walks.strAscii hh s₁.heap.objs.size x t,⟨_,get?_push_size _ rfl,rfl,rfl⟩,?_,?_,?_,?_,?_⟩
   .intro i h z;refine aq z λo D _=>?_;clear z;intro b hb;simp only[mem_cons,not_mem_nil,or_false]at hb;subst hb;exact⟨o,D⟩
   .intro b hb;simp at hb;subst hb;exact .inr (bu p.1 (bH s₁))
   .intro b hb;simp at hb;subst hb;exact bu p.1 (bH s₁)
   .intro i v _ z;refine cC z λch u D I=>?_;clear z;obtain rfl:=I;exact⟨.str ⟨#[ch]⟩,by simp[gq,D],by exact Exists.intro _ rfl⟩
   .exact⟨"str_ascii_iterator",by decide,λi h q=>let⟨o,D,h2,_⟩:=q;⟨o,D,h2⟩⟩
theorem sW(hh:A.handled=none){e:Expr}{ks:List Int}{ds:List D}(he:Ev c A O ρ G e (.bT ks ds)):tZ c A O ρ G e (ks.map .int):=λK E s V kk=>
 he.Cg V λv s₁ p tk ou=>by
   have sub:=V.gG p.1;have r:=p.2;refine jT r λa o vs mh z g J' hl l=>?_;clear r;obtain rfl:=mh;obtain⟨x1,es,ep,x2,x3,x4,x5⟩:=J';have jQ:=qQ (sub _ _ g);have hd:s₁.heap.DictAt (intKind PW c.w) a (ks.zip vs) ep:=⟨o,es,sub _ _ g,x1,x2,x3,x4,x5⟩;refine wpAny_pyIter_dict z hd (kk _ _ (aQ p.1 (aZ _ _)) tk ?_);have hsz:(ks.map D.int).length=(ks.zip vs).length:=by simp[hl]
   refine⟨s₁.heap.objs.size,[s₁.heap.objs.size,a],[s₁.heap.objs.size],_,(λi h=>h.IsKeyIter s₁.heap.objs.size a i (ks.zip vs).length ep/\h.DictAt (intKind PW c.w) a (ks.zip vs) ep),rfl,by rw[hsz];exact Walks.dictKeys hh s₁.heap.objs.size a jQ (ks.zip vs) ep,⟨⟨_,get?_push_size _ rfl,rfl,rfl⟩,hd.at' λo e=>get?_push_of_some _ e⟩,?_,?_,?_,?_,?_⟩
   .intro i h w9;obtain⟨⟨o,I,_⟩,⟨o',So,Y,_⟩⟩:=w9;intro b hb;simp only[mem_cons,not_mem_nil,or_false]at hb;rcases hb with rfl|rfl
    .exact⟨o,I⟩
    .exact⟨o',Y⟩
   .intro b hb;simp only[mem_cons,not_mem_nil,or_false]at hb;rcases hb with rfl|rfl
    .exact .inr (bu p.1 (bH s₁))
    .exact wj g
   .intro b hb;simp at hb;subst hb;exact bu p.1 (bH s₁)
   .intro i v _ w9;refine cC w9 λq y I Y=>?_;clear w9;have hq:ks[i]? =some q:=by rw[List.getElem?_zip_eq_some]at I;exact I.1
    refine⟨.int q,by simp[hq],?_⟩;have J:Value.isInt q v=true:=Y;cases v<;>simp[Value.isInt]at J;subst J;exact Exists.intro _ rfl
   .exact⟨"dict_keyiterator",by decide,λi h q=>let⟨o,I,Y,_⟩:=q.1;⟨o,I,Y⟩⟩
theorem Be{f:Value}{es:List Expr}{ds:List D}{pos:Pos}{Q:Value->Shared->Prop}(hp:Plain c f)(V:Vw c O ρ G s)(ha:oQ c A O ρ G es ds)(J:(starEach es O).any (·.1)=false)
 (Y:∀vs U,Keeps s U->s.toks<=U.toks->aE c.w c.C (grow G s U) ds vs->Vw c O ρ G U->wpAny (model PW c.w) A (call f vs) Q E U):
 wpAny (model PW c.w) A (callWith pos f [] (backTo pos (starEach es O)) []) Q E s:=by
 have I:wpAny (model PW c.w) A (spliced (backTo pos (starEach es O))) (λvs s₁=>Vw c O ρ G s₁/\wpAny (model PW c.w) A (call f vs) Q E s₁) E s:=
  wpAny_mono (wpAny_toks (ha.1 E s pos V)) (λvs s₁ p=>⟨V.keeps p.2.1 p.1,Y vs s₁ p.2.1 p.1 p.2.2 (V.keeps p.2.1 p.1)⟩) λ_ _ p=>p.2
 have z:=iq (pos:=pos) J;cases hp with
 |b id=>exact Calls.callWith_builtin z (bN z (wpAny_mono I (λ_ _ h=>h.2) λ_ _ e=>e))
 |t T=>exact PySem.callWith_type z (bN z (wpAny_mono I (λ_ _ h=>h.2) λ_ _ e=>e))
 |f a o fd h hd=>exact Calls.callWith_function (bN z (wpAny_mono I (λ_ s₁ h'=>⟨⟨h'.1.old a o h,hd⟩,h'.2⟩) λ_ _ e=>e))
theorem ik(B:c.B){x:Str}{f:Value}{p pos:Pos}{es:List Expr}{ds:List D}{Q:Value->Shared->Prop}(V:Vw c O ρ G s)(hk:O.kindOf x=some .globalImplicit)(hm:c.mg x=none)(hb:bootBuiltins x=some f)(J:x≠"__name__")
 (Y:Plain c f)(ha:oQ c A O ρ G es ds)(z:(starEach es O).any (·.1)=false)
 (I:∀vs U,Keeps s U->s.toks<=U.toks->aE c.w c.C (grow G s U) ds vs->Vw c O ρ G U->wpAny (model PW c.w) A (call f vs) Q E U)(hd:(x==("__debug__":Str))=false:=by decide):
 wpAny (model PW c.w) A (eval (.Call (.Name x p) es [] pos) O) Q E s:=
 wpAny_Call_NameR (Calls.Name_function_global V.kind hk (Calls.loadGlobal_builtin (V.glob▸B.g.keeps V.old) hm (V.fq▸B.b.keeps V.old) ((B.builtins x J).trans hb)
  (Be Y V ha z I)) hd)
noncomputable def aJ(a b:Int):List D:=(range (b-a).toNat).map λ(i:Nat)=> .int (a+i)
theorem mG(hh:A.handled=none){r:Addr}{a b:Int}{t u v:Tok}{K:Value->Shared->Prop}(hr:IsRange U.heap r a b 1 t u v)(ha: -(2^62)<=a)(J:a<2^62)(hb: -(2^62)<=b)(z:b<2^62)(I:Keeps s U)(tk:s.toks<=U.toks)
 (kk:∀it s₁,Keeps s s₁->s.toks<=s₁.toks->wL c A G s it (aJ a b) s₁->K it s₁):wpAny (model PW c.w) A (pyIter (.ref r)) K E U:=by
 refine wpAny_pyIter_range hr (small_one ha J hb z) (kk _ _ (aQ I (aZ _ _)) tk ?_);have hn:(aJ a b).length=(b-a).toNat:=by simp[aJ]
 have hsz:Builtin.Range.rangeSize a b 1=((b-a).toNat:Int):=by rw[rangeSize_one];split;rename_i Y;exact dq (ao 0xa7ba68a7ba68 [_] [_,_] uc) (ao 0xba6a78ba6a78 [_] [_,_] (rP (ao 0xa112b18ba6028 [] [_,_] Y)));rename_i Y;exact(Int.le_total 0 ((b)-(a))).elim (λD=>dq (aI 684072 [_] []) (aM 0xba8ba6a7802a78 [_] [_,_] (rP D) (G9 Y))) λD=>dq (aI 684072 [_] []) (ao 11400129144 [_] [] (KO D))
 refine⟨U.heap.objs.size,[U.heap.objs.size],[U.heap.objs.size],_,(λi h=>IsRangeIter h U.heap.objs.size (a+(i:Nat)*1) (((b-a).toNat:Int)-(i:Nat)) 1),rfl,by rw[hn];exact Walks.range hh U.heap.objs.size a 1 (b-a).toNat,?_,?_,?_,?_,?_,?_⟩
 .have e1:(a+((0:Nat):Int)*1)=a:=by simp
  have e2:(((b-a).toNat:Int)-((0:Nat):Int))=Builtin.Range.rangeSize a b 1:=by rw[hsz];simp
  show IsRangeIter _ _ (a+((0:Nat):Int)*1) (((b-a).toNat:Int)-((0:Nat):Int)) 1;rw[e1,e2];exact get?_push_size _ rfl
 .intro i h hi b' z;simp at z;subst z;exact⟨_,hi⟩
 .intro b' z;simp at z;subst z;exact .inr (bu I (bH U))
 .intro b' z;simp at z;subst z;exact bu I (bH U)
 .rintro i v hi ⟨t,rfl⟩;rw[hn]at hi;exact⟨.int (a+i*1),by simp[aJ,hi],by exact Exists.intro _ rfl⟩
 .exact⟨"range_iterator",by decide,λi h q=>⟨_,q,rfl⟩⟩
theorem dQ(B:c.B)(hh:A.handled=none){p pos:Pos}{e:Expr}{b:Int}(hk:O.kindOf "range"=some .globalImplicit)(Y:c.mg "range"=none)(he:Ev c A O ρ G e (.int b))
 (hs:starEach [e] O=[(false,eval e O)])(hb: -(2^62)<=b)(D:b<2^62):tZ c A O ρ G (.Call (.Name "range" p) [e] [] pos) (aJ 0 b):=λK E s V J=>
 ik B V hk Y boot_range (by decide) (.t _) (ae he ai hs) (by rw[hs];rfl) λvs U I tk l V'=>by refine aq l.one λv z r=>?_;obtain rfl:=z;obtain⟨t,rfl⟩:=r;exact call_range_1 (mG hh (IsRange.new ..) (by decide) (by decide) hb D (aQ I (jP U λ_ _ e=>get?_push_of_some _ e)) (le_trans tk (by show U.toks<=U.toks+1+1;exact aI 1177109008800 [_] [])) J)
theorem dw(B:c.B)(hh:A.handled=none){p pos:Pos}{e1 e2:Expr}{a b:Int}(hk:O.kindOf "range"=some .globalImplicit)(hm:c.mg "range"=none)(h1:Ev c A O ρ G e1 (.int a))(h2:Ev c A O ρ G e2 (.int b))
 (hs:starEach [e1,e2] O=[(false,eval e1 O),(false,eval e2 O)])(z:starEach [e2] O=[(false,eval e2 O)])(ha: -(2^62)<=a)(J:a<2^62)(hb: -(2^62)<=b)(I:b<2^62):
 tZ c A O ρ G (.Call (.Name "range" p) [e1,e2] [] pos) (aJ a b):=λK E s V kk=>
 ik B V hk hm boot_range (by decide) (.t _) (ae h1 (ae h2 ai z) (by rw[hs,z])) (by rw[hs];rfl) λvs U kp tk l V'=>by refine bD l.two λv u D r1 Y=>?_;obtain rfl:=D;obtain⟨t,rfl⟩:=r1;obtain⟨t',rfl⟩:=Y;exact call_range_2 (mG hh (IsRange.new ..) ha J hb I (aQ kp (jP U λ_ _ e=>get?_push_of_some _ e)) (le_trans tk (by show U.toks<=U.toks+1;exact aI 17998240 [_] [])) kk)
theorem CO(B:c.B)(hh:A.handled=none){p pos:Pos}{e:Expr}{ds:List D}(hk:O.kindOf "reversed"=some .globalImplicit)(hm:c.mg "reversed"=none)(he:Ev c A O ρ G e (.list ds))
 (hs:starEach [e] O=[(false,eval e O)])(hz:sizeOk ds.length=true):tZ c A O ρ G (.Call (.Name "reversed" p) [e] [] pos) ds.reverse:=λK E s V kk=>
 ik B V hk hm (show bootBuiltins "reversed"=some (.type "reversed") by decide+kernel) (by decide) (.t _) (ae he ai hs) (by rw[hs];rfl) λvs U J tk l V'=>by
  refine aq l.one λv Y r=>?_;obtain rfl:=Y;have sub:=V.gG J;obtain⟨a,vs,n,rfl,g,l⟩:=r;have il:U.heap.IsList a vs.toArray:=⟨_,sub _ _ g,rfl,_,rfl⟩;have jQ:=qQ (sub _ _ g);refine call_reversed_list il (wpAny_pyIter_revIter (i:=((vs.toArray.size:Int)-1)) ⟨_,get?_push_size _ rfl,rfl,rfl⟩ (kk _ _ (aQ J (aZ _ _)) tk ?_));have hsz:ds.reverse.length=vs.toArray.size:=by simp[l.length]
  refine⟨U.heap.objs.size,[U.heap.objs.size,a],[U.heap.objs.size],_,(λi h=>i<=vs.toArray.size/\h.IsRevIter U.heap.objs.size a ((vs.toArray.size:Int)-1-(i:Int))/\h.IsList a vs.toArray),rfl,by rw[hsz];exact Walks.listRev hh U.heap.objs.size a jQ vs.toArray,
   ⟨zero_le _,⟨_,get?_push_size _ rfl,rfl,congrArg (λi=>Data.fields #[.ref a,rawInt i]) (Int.sub_zero _).symm⟩,il.push _⟩,?_,?_,?_,?_,?_⟩
  .intro i h w9;obtain⟨_,⟨o,h1,_⟩,⟨o',h2,_⟩⟩:=w9;intro b hb;simp only[mem_cons,not_mem_nil,or_false]at hb;rcases hb with rfl|rfl
   .exact⟨o,h1⟩
   .exact⟨o',h2⟩
  .intro b hb;simp only[mem_cons,not_mem_nil,or_false]at hb;rcases hb with rfl|rfl
   .exact .inr (bu J (bH U))
   .exact wj g
  .intro b hb;simp at hb;subst hb;exact bu J (bH U)
  .intro i v I hv;simp only[length_reverse]at I;have hl:=l.length;have e0:ds.reverse[i]? =ds[ds.length-1-i]? :=by rw[List.getElem?_reverse I]
   have z:ds.length-1-i<ds.length:=by exact aM 0xb112c10ca0b112a10 [_,_,_] [] qx (dE (ao 0xa112b10a1120 [_,_] [] I))
   obtain⟨v',e1,r1⟩:=(l.old sub (bH U) (cz (aZ U _))).get (getElem?_eq_getElem z);have:vs.toArray[vs.toArray.size-1-i]? =some v:=hv;simp only[getElem?_toArray,size_toArray,hl,e1]at this;obtain rfl:=bg this;exact⟨_,by rw[e0];exact getElem?_eq_getElem z,r1⟩
  .exact⟨"list_reverseiterator",by decide,λi h q=>let⟨o,h1,h2,_⟩:=q.2.1;⟨o,h1,h2⟩⟩
variable{H':Hd}{As:List Addr}
theorem Fs.moved(F:Fs c ah af H O ρ own s){h':Heap}{tk:Nat}{wr:List Addr}(hX:H'.X=H.X)(hZ:H'.Z=H.Z)(hY:H'.Y=H.Y)(LH:∀b∈wr,b∈H.X)(BC:∀b∈wr,b∉H.Z)
 (I:∀b o,b∉wr->s.heap.get? b=some o->h'.get? b=some o)(hw:∀b∈wr,∃o,h'.get? b=some o)(tk':s.toks<=tk)
 (hJ:H'.J h')(CY:∀h h',H'.J h->(∀b∈H'.fp,∀o,h.get? b=some o->h'.get? b=some o)->H'.J h')(Me:∀b∈H'.fp,b∉H'.Z)(QO:∀b∈H'.fp,∃o,h'.get? b=some o):
 Fs c ah af H' O ρ own {s with heap:=h',toks:=tk}:=by
 have up:∀a o,aX ah af H.X s a o->aX ah af H'.X {s with heap:=h',toks:=tk} a o:=by
  rintro a o (h|⟨h1,h2,h3⟩)
  .exact .inl h
  .exact .inr ⟨I a o (λhm=>h3 (LH a hm)) h1,h2,by rw[hX];exact h3⟩
 have zI:∀b o,af.heap.get? b=some o->b∉wr:=λb o e hm=>by rw[F.new _ (LH b hm)]at e;exact ns e
 have L:O.locals∉wr:=λhm=>BC _ hm F.frame.1;have gY:∀x a,O.cells.lookup x=some a->a∉wr:=λx a h hm=>by
  rcases(F.dt x a h).2 with z|z
  .exact z (LH a hm)
  .exact BC a hm z
 have zG:∀m,s.heap.Ns O.locals m->h'.Ns O.locals m:=λm n=>n.at' λo e=>I _ o L e;have D:∀x v,rJ O s.heap x v->rJ O h' x v:=λx v i=>by
  rcases i with⟨q,m,n,e⟩|⟨q,b,n,⟨o,e,d⟩⟩
  .exact .inl ⟨q,m,zG m n,e⟩
  .exact .inr ⟨q,b,n,⟨o,I b o (gY x b n) e,d⟩⟩
 exact{
  gd:=F.gd
  rest:=by have:=F.rest;rw[this]
  old:=λb o e=>I b o (zI b o e) (F.old b o e)
  new:=by rw[hX];exact F.new
  ex:=by
   rw[hX];intro x hx;by_cases q:x∈wr
   .exact hw x q
   .obtain⟨o,e⟩:=F.ex x hx;exact⟨o,I x o q e⟩
  view:={sub:=by
          rintro b p (h|⟨h1,_,_⟩)
          .exact I b p (zI b p (F.gd.sub _ _ h)) (F.old _ _ (F.gd.sub _ _ h))
          .exact h1
         base:=λb p e=>up _ _ (F.view.base b p e)
         toks:=lt_of_lt_of_le F.view.toks tk'
         kind:=F.view.kind
         glob:=F.view.glob
         fq:=F.view.fq
         vars:=λy d e=>let⟨u,i,q⟩:=F.view.vars y d e;⟨u,D y u i,q.mono up⟩
         apart:=F.apart
         cells:=λy a h=>let⟨o,e⟩:=(F.dt y a h).1;⟨o,I a o (gY y a h) e⟩}
  own:=λe he=>let⟨h1,h2,h3,o,h4,h5⟩:=F.own e he;⟨by rw[hZ];exact h1,D _ _ h2,h3,o,I _ o (λhm=>BC _ hm h1) h4,h5.mono up⟩
  frame:=⟨by rw[hZ];exact F.frame.1,let⟨m,n⟩:=F.frame.2;⟨m,zG m n⟩⟩
  gR:=by rw[hY,hZ];intro y hy;obtain⟨h1,b,u,h2,h3,⟨o,h4,h5⟩⟩:=F.gR y hy;exact⟨h1,b,u,h2,h3,o,I b o (gY y b h2) h4,h5⟩
  zx:=by rw[hX,hZ];exact F.zx
  inv:=hJ
  eS:=CY
  jz:=Me
  gQ:=QO
  apart:=F.apart
  dt:=by rw[hX,hZ];intro y a h;exact⟨let⟨o,e⟩:=(F.dt y a h).1;⟨o,I a o (gY y a h) e⟩,(F.dt y a h).2⟩}
noncomputable def iU(X:List Addr)(s₁:Shared):List Addr:=(range s₁.heap.objs.size).filter λb=> !(X.contains b)&&(s₁.heap.get? b).isSome
theorem bl{X:List Addr}{s₁:Shared}{b:Addr}:b∈iU X s₁↔b∉X/\∃o,s₁.heap.get? b=some o:=by
 simp only[iU,mem_filter,mem_range,and_eq_true,not_eq_true',List.contains_eq_mem,decide_eq_false_iff_not];constructor
 .rintro⟨_,D,z⟩;exact⟨D,Option.isSome_iff_exists.mp z⟩
 .rintro⟨D,o,z⟩;exact⟨lt_size z,D,by rw[z];rfl⟩
noncomputable def HI(H:Hd)(wr fp:List Addr)(St:Nat->Heap->Prop)(s₁:Shared)(i:Nat):Hd:=
 {X:=wr++H.X,Z:=H.Z,Y:=H.Y,fp:=fp++(iU (wr++H.X) s₁++H.fp),J:=λh=>H.J h/\St i h/\∀b∈iU (wr++H.X) s₁,∀o,s₁.heap.get? b=some o->h.get? b=some o}
theorem Fs.iter(F:Fs c ah af H O ρ own s){wr fp:List Addr}{St:Nat->Heap->Prop}{i:Nat}(Ho:∀b∈wr,b∈fp)(kp:Keeps s U)(tk:s.toks<=U.toks)(st:St i U.heap)(hex:∀i h,St i h->∀b∈fp,∃o,h.get? b=some o)
 (CY:∀i h h',St i h->(∀b∈fp,∀o,h.get? b=some o->h'.get? b=some o)->St i h')(C0:∀b∈fp,(∃o,aX ah af H.X s b o)\/s.heap.get? b=none)(J:∀b∈wr,s.heap.get? b=none):
 Fs c ah af (HI H wr fp St U i) O ρ own U:=by
 have Y:=dH kp;have z:=F.keeps kp tk;have D:∀b o,s.heap.get? b=some o->b∉wr:=λb o e hm=>by rw[J b hm]at e;exact ns e
 have up:∀a o,aX ah af H.X s a o->aX ah af (wr++H.X) U a o:=by
  rintro a o (h|⟨I,h2,h3⟩)
  .exact .inl h
  .exact .inr ⟨Y _ _ I,h2,λhm=>(de hm).elim (D a o I) h3⟩
 have hz:∀b∈fp,b∉H.Z:=λb hb hm=>by
  rcases C0 b hb with⟨o,h|⟨_,_,h⟩⟩|h
  .have:=F.new _ (F.zx _ hm);rw[F.gd.sub _ _ h]at this;exact sn this
  .exact h (F.zx _ hm)
  .exact(F.ex _ (F.zx _ hm)).elim λo e=>Lw.ns (h.symm.trans e)
 exact{
  gd:=z.gd
  rest:=z.rest
  old:=z.old
  new:=λx hx=>by
   rcases de hx with hm|hm
   .cases e:af.heap.get? x with
    |none=>rfl
    |some o=>have:=J x hm;rw[F.old _ _ e]at this;exact sn this
   .exact F.new x hm
  ex:=λx hx=>by
   rcases de hx with hm|hm
   .exact hex i _ st x (Ho x hm)
   .exact z.ex x hm
  view:={sub:=by
          rintro b p (h|⟨I,_,_⟩)
          .exact z.view.sub _ _ (.inl h)
          .exact I
         base:=λb p e=>up _ _ (F.view.base b p e)
         toks:=z.view.toks
         kind:=z.view.kind
         glob:=z.view.glob
         fq:=z.view.fq
         vars:=λx d e=>let⟨v,i,r⟩:=F.view.vars x d e;⟨v,i.keeps Y,r.mono up⟩
         apart:=z.view.apart
         cells:=z.view.cells}
  own:=λe he=>let⟨I,h2,h3,p,h4,h5⟩:=F.own e he;⟨I,h2.keeps Y,h3,p,Y _ _ h4,h5.mono up⟩
  frame:=z.frame
  gR:=z.gR
  zx:=λb hb=>cv ((F.zx b hb))
  inv:=⟨z.inv,st,λ_ _ _ e=>e⟩
  eS:=λh h' hj hk=>⟨F.eS h h' hj.1 λb hb o e=>hk b (cv ((cv hb))) o e,CY i h h' hj.2.1 λb hb o e=>hk b (d7 hb) o e,
   λb hb o e=>hk b (cv ((d7 hb))) o (hj.2.2 b hb o e)⟩
  jz:=λb hb=>(de hb).elim (hz b) λhb=>(de hb).elim (λh hm=>(bl.mp h).1 (cv ((F.zx b hm)))) (F.jz b)
  gQ:=λb hb=>(de hb).elim (hex i _ st b) λhb=>(de hb).elim (λh=>(bl.mp h).2) (z.gQ b)
  apart:=z.apart
  dt:=λx a h=>⟨(z.dt x a h).1,by
   obtain⟨⟨o,e⟩,q⟩:=F.dt x a h;rcases q with q|q
   .exact .inl λhm=>(de hm).elim (D a o e) q
   .exact .inr q⟩}
theorem Fs.zf(F:Fs c ah af H O ρ own s)(hX:∀a∈H'.X,a∈H.X)(hZ:H'.Z=H.Z)(hY:H'.Y=H.Y)(zx:∀a∈H.Z,a∈H'.X)(hJ:H'.J s.heap)(z:∀b∈H'.fp,b∈H.fp)
 (CY:∀h h',H'.J h->(∀b∈H'.fp,∀o,h.get? b=some o->h'.get? b=some o)->H'.J h'):Fs c ah af H' O ρ own s:=by
 have up:∀a o,aX ah af H.X s a o->aX ah af H'.X s a o:=by
  rintro a o (h|⟨D,h2,h3⟩)
  .exact .inl h
  .exact .inr ⟨D,h2,λhm=>h3 (hX a hm)⟩
 exact{
  gd:=F.gd
  rest:=F.rest
  old:=F.old
  new:=λx I=>F.new x (hX x I)
  ex:=λx I=>F.ex x (hX x I)
  view:={sub:=by
          rintro a o (h|⟨D,_,_⟩)
          .exact F.view.sub _ _ (.inl h)
          .exact D
         base:=λa o e=>up _ _ (F.view.base a o e)
         toks:=F.view.toks
         kind:=F.view.kind
         glob:=F.view.glob
         fq:=F.view.fq
         vars:=λy d e=>let⟨u,i,q⟩:=F.view.vars y d e;⟨u,i,q.mono up⟩
         apart:=F.apart
         cells:=F.view.cells}
  own:=λe he=>let⟨D,h2,h3,o,h4,h5⟩:=F.own e he;⟨by rw[hZ];exact D,h2,h3,o,h4,h5.mono up⟩
  frame:=⟨by rw[hZ];exact F.frame.1,F.frame.2⟩
  gR:=by rw[hY,hZ];exact F.gR
  zx:=by rw[hZ];exact zx
  inv:=hJ
  eS:=CY
  jz:=λb hb=>by rw[hZ];exact F.jz b (z b hb)
  gQ:=λb hb=>F.gQ b (z b hb)
  apart:=F.apart
  dt:=λy a h=>⟨(F.dt y a h).1,(F.dt y a h).2.imp (λq hm=>q (hX a hm)) λq=>by rw[hZ];exact q⟩}
theorem Fs.EP{wr fp:List Addr}{St:Nat->Heap->Prop}{i:Nat}{s₁:Shared}(F:Fs c ah af (HI H wr fp St s₁ i) O ρ own s)(cA:∀x∈H.X,x∉wr)(eS:∀h h',H.J h->(∀b∈H.fp,∀o,h.get? b=some o->h'.get? b=some o)->H.J h')(zx:∀a∈H.Z,a∈H.X):Fs c ah af H O ρ own s:=
 F.zf (λa ha=>cv ha) rfl rfl zx F.inv.1 (λb hb=>cv ((cv hb))) eS
structure yy(H:Hd)(wr:List Addr)(O:Env):Prop where
 cA:∀y∈H.X,y∉wr
 iw:∀b∈H.fp,b∉wr
 eS:∀h h',H.J h->(∀b∈H.fp,∀o,h.get? b=some o->h'.get? b=some o)->H.J h'
 zx:∀a∈H.Z,a∈H.X
 jz:∀b∈H.fp,b∉H.Z
 gY:∀x a,O.cells.lookup x=some a->a∉wr
 dt:∀x a,O.cells.lookup x=some a->a∉H.X\/a∈H.Z
theorem Fs.z0(F:Fs c ah af H O ρ own s){wr:List Addr}(z:∀b∈wr,s.heap.get? b=none):yy H wr O where
 cA:=λy I D=>by obtain⟨o,e⟩:=F.ex y I;rw[z y D]at e;exact ns e
 iw:=λb hb D=>by obtain⟨o,e⟩:=F.gQ b hb;rw[z b D]at e;exact ns e
 eS:=F.eS
 zx:=F.zx
 jz:=F.jz
 gY:=λx a h D=>by obtain⟨o,e⟩:=(F.dt x a h).1;rw[z a D]at e;exact ns e
 dt:=λx a h=>(F.dt x a h).2
theorem Fs.over{wr fp:List Addr}{St:Nat->Heap->Prop}{i:Nat}{s₁ U:Shared}{bP:List (Str×D)}{cq:List (Str×Addr×OD)}{h':Heap}{tk':Nat}(F:yy H wr O)
 (z:Fs c ah af (HI H wr fp St s₁ i) O bP cq U)(I:∀b o,b∉wr->U.heap.get? b=some o->h'.get? b=some o)(hU:U.toks<=tk'):Fs c ah af H O bP cq {U with heap:=h',toks:=tk'}:=by
 have cA:=F.cA;have BC:∀b∈wr,b∉H.Z:=λb hb Y=>cA b (F.zx b Y) hb;have iw:=F.iw;have F0:=z.EP cA F.eS F.zx;have up:∀a o,aX ah af (wr++H.X) U a o->aX ah af H.X {U with heap:=h',toks:=tk'} a o:=by
  rintro a o (h|⟨h1,h2,h3⟩)
  .exact .inl h
  .exact .inr ⟨I a o (λY=>h3 (d7 Y)) h1,h2,λY=>h3 (cv Y)⟩
 have zI:∀b o,af.heap.get? b=some o->b∉wr:=λb o e Y=>by have:=z.new _ (d7 Y);rw[e]at this;exact sn this
 have gY:=F.gY;have L:O.locals∉wr:=λY=>BC _ Y z.frame.1;have zG:∀m,U.heap.Ns O.locals m->h'.Ns O.locals m:=λm n=>n.at' λo e=>I _ o L e;have J:∀x v,rJ O U.heap x v->rJ O h' x v:=λx v i=>by
  rcases i with⟨q,m,n,e⟩|⟨q,b,n,⟨o,e,d⟩⟩
  .exact .inl ⟨q,m,zG m n,e⟩
  .exact .inr ⟨q,b,n,⟨o,I b o (gY x b n) e,d⟩⟩
 exact{
  gd:=z.gd
  rest:=by have:=z.rest;rw[this]
  old:=λb o e=>I b o (zI b o e) (z.old b o e)
  new:=λx hx=>z.new x (cv hx)
  ex:=λx hx=>let⟨o,e⟩:=F0.ex x hx;⟨o,I x o (cA x hx) e⟩
  view:={sub:=by
          rintro b p (h|⟨h1,_,_⟩)
          .exact I b p (zI b p (z.gd.sub _ _ h)) (z.old _ _ (z.gd.sub _ _ h))
          .exact h1
         base:=λb p e=>up _ _ (z.view.base b p e)
         toks:=lt_of_lt_of_le z.view.toks hU
         kind:=z.view.kind
         glob:=z.view.glob
         fq:=z.view.fq
         vars:=λy d e=>let⟨u,i,q⟩:=z.view.vars y d e;⟨u,J y u i,q.mono up⟩
         apart:=z.apart
         cells:=λy a h=>let⟨o,e⟩:=(z.dt y a h).1;⟨o,I a o (gY y a h) e⟩}
  own:=λe he=>let⟨h1,h2,h3,o,h4,h5⟩:=z.own e he;⟨h1,J _ _ h2,h3,o,I _ o (λY=>BC _ Y h1) h4,h5.mono up⟩
  frame:=⟨z.frame.1,let⟨m,n⟩:=z.frame.2;⟨m,zG m n⟩⟩
  gR:=λy hy=>by obtain⟨h1,b,u,h2,h3,⟨o,h4,h5⟩⟩:=z.gR y hy;exact⟨h1,b,u,h2,h3,o,I b o (gY y b h2) h4,h5⟩
  zx:=F.zx
  inv:=F.eS _ _ z.inv.1 λb hb o e=>I b o (iw b hb) e
  eS:=F.eS
  jz:=F.jz
  gQ:=λb hb=>let⟨o,e⟩:=F0.gQ b hb;⟨o,I b o (iw b hb) e⟩
  apart:=z.apart
  dt:=λy a h=>⟨let⟨o,e⟩:=(z.dt y a h).1;⟨o,I a o (gY y a h) e⟩,F.dt y a h⟩}
noncomputable def Hd.adds(H:Hd)(As:List Addr):Hd:={H with X:=As++H.X,Z:=As++H.Z}
theorem Fs.D2{wr fp:List Addr}{St:Nat->Heap->Prop}{i:Nat}{s₁ U:Shared}{bP:List (Str×D)}{cq:List (Str×Addr×OD)}{h':Heap}{tk':Nat}(F:yy H wr O)(Ho:∀b∈wr,b∈fp)
 (hex:∀i h,St i h->∀b∈fp,∃o,h.get? b=some o)(CY:∀i h h',St i h->(∀b∈fp,∀o,h.get? b=some o->h'.get? b=some o)->St i h')
 (Y:Fs c ah af ((HI H wr fp St s₁ i).adds As) O bP cq U)(I:St (i+1) h')(J:∀b o,b∉wr->U.heap.get? b=some o->h'.get? b=some o)(hU:U.toks<=tk'):
 Fs c ah af ((HI H wr fp St s₁ (i+1)).adds As) O bP cq {U with heap:=h',toks:=tk'}:=by
 have z:∀b∈iU (wr++H.X) s₁,b∉wr:=λb hb hm=>(bl.mp hb).1 (d7 hm);have iw:=F.iw;have BC:∀b∈wr,b∉((HI H wr fp St s₁ i).adds As).Z:=λb hb=>Y.jz b (d7 ((Ho b hb)))
 exact Y.moved (H':=(HI H wr fp St s₁ (i+1)).adds As) (wr:=wr) rfl rfl rfl (λb hb=>cv ((d7 hb))) BC J (λb hb=>hex _ _ I b (Ho b hb)) hU
       ⟨F.eS _ _ Y.inv.1 λb hb o e=>J b o (iw b hb) e,I,λb hb o e=>J b o (z b hb) (Y.inv.2.2 b hb o e)⟩
       (λh h' hj J=>⟨F.eS h h' hj.1 λb hb o e=>J b (cv ((cv hb))) o e,CY _ h h' hj.2.1 λb hb o e=>J b (d7 hb) o e,
        λb hb o e=>J b (cv ((d7 hb))) o (hj.2.2 b hb o e)⟩) Y.jz
       (λb hb=>by
        rcases de hb with hm|hm
        .exact hex _ _ I b hm
        .obtain⟨o,e⟩:=Y.gQ b (cv hm);refine⟨o,J b o ?_ e⟩;rcases de hm with hm|hm
         .exact z b hm
         .exact iw b hm)
theorem Fs.turn{wr fp:List Addr}{St:Nat->Heap->Prop}{i:Nat}{s₁ U:Shared}{bP:List (Str×D)}{cq:List (Str×Addr×OD)}{h':Heap}{tk':Nat}(F:yy H wr O)(J:∀b∈wr,b∈fp)
 (hex:∀i h,St i h->∀b∈fp,∃o,h.get? b=some o)(Y:∀i h h',St i h->(∀b∈fp,∀o,h.get? b=some o->h'.get? b=some o)->St i h')
 (F':Fs c ah af (HI H wr fp St s₁ i) O bP cq U)(I:St (i+1) h')(hk:∀b o,b∉wr->U.heap.get? b=some o->h'.get? b=some o)(z:U.toks<=tk'):
 Fs c ah af (HI H wr fp St s₁ (i+1)) O bP cq {U with heap:=h',toks:=tk'}:=
 Fs.D2 (As:=[]) F J hex Y F' I hk z
theorem Fs.JY{wr fp:List Addr}{St:Nat->Heap->Prop}{i:Nat}{s₁:Shared}(B:yy H wr O)(F:Fs c ah af ((HI H wr fp St s₁ i).adds As) O ρ own s):Fs c ah af (H.adds As) O ρ own s:=
 F.zf (λa ha=>(de ha).elim (λh=>d7 h) λh=>cv ((cv h))) rfl rfl
   (λa ha=>(de ha).elim (λh=>d7 h) λh=>cv ((B.zx a h))) F.inv.1
   (λb hb=>cv ((cv hb))) B.eS
theorem Fs.Ij{wr fp:List Addr}{St:Nat->Heap->Prop}{i:Nat}{s₁ U:Shared}{bP:List (Str×D)}{cq:List (Str×Addr×OD)}{h':Heap}{tk':Nat}(B:yy H wr O)(Ho:∀b∈wr,b∈fp)
 (CY:∀i h h',St i h->(∀b∈fp,∀o,h.get? b=some o->h'.get? b=some o)->St i h')
 (I:Fs c ah af ((HI H wr fp St s₁ i).adds As) O bP cq U)(hk:∀b o,b∉wr->U.heap.get? b=some o->h'.get? b=some o)(Y:U.toks<=tk'):
 Fs c ah af (H.adds As) O bP cq {U with heap:=h',toks:=tk'}:=by
 have BC:∀b∈wr,b∉As++H.Z:=λb hb=>I.jz b (d7 ((Ho b hb)));have Me:∀b∈H.fp,b∉As++H.Z:=λb hb=>I.jz b (cv ((cv hb)));have z:∀b∈iU (wr++(H.adds As).X) s₁,b∈iU (wr++H.X) s₁:=λb hb=>bl.mpr ⟨λJ=>(bl.mp hb).1 ((de J).elim (λh=>d7 h) λh=>cv ((cv h))),(bl.mp hb).2⟩
 have B':yy (H.adds As) wr O:={
  cA:=λy hy J=>(de hy).elim (λh=>BC y J (d7 h)) λh=>B.cA y h J
  iw:=B.iw
  eS:=B.eS
  zx:=λa ha=>(de ha).elim (λh=>d7 h) λh=>cv ((B.zx a h))
  jz:=Me
  gY:=B.gY
  dt:=λx a h=>(I.dt x a h).2.imp (λq J=>q ((de J).elim (λh=>d7 h) λh=>cv ((cv h)))) id}
 refine Fs.over (H:=H.adds As) (wr:=wr) (fp:=fp) (St:=St) (i:=i) (s₁:=s₁) B' (I.zf ?_ rfl rfl ?_ ?_ ?_ ?_) hk Y
 .intro a ha;rcases de ha with h|h
  .exact cv ((d7 h))
  .rcases de h with h|h
   .exact d7 h
   .exact cv ((cv h))
 .intro a ha;exact cv ((B'.zx a ha))
 .exact⟨I.inv.1,I.inv.2.1,λb hb=>I.inv.2.2 b (z b hb)⟩
 .intro b hb;rcases de hb with h|h
  .exact d7 h
  .rcases de h with h|h
   .exact cv ((d7 ((z b h))))
   .exact cv ((cv h))
 .exact λh h' hj hk=>⟨B.eS h h' hj.1 λb hb o e=>hk b (cv ((cv hb))) o e,CY i h h' hj.2.1 λb hb o e=>hk b (d7 hb) o e,
   λb hb o e=>hk b (cv ((d7 hb))) o (hj.2.2 b hb o e)⟩
theorem vA{x:Str}{p pos:Pos}{iter:Expr}{body rest:List Stmt}{ds:List D}{Q:Flow->Shared->Prop}(F:Fs c ah af H O ρ own s)
 (hi:∀(K:Value->Shared->Prop),(∀it s₁,Keeps s s₁->s.toks<=s₁.toks->wL c A (aX ah af H.X s) s it ds s₁->K it s₁)->wpAny (model PW c.w) A (eval iter O) (λxv U=>wpAny (model PW c.w) A (pyIter xv) K E U) E s)(hb:kK O H x)
 (Inv:Nat->List (Str×D)->List (Str×Addr×OD)->List Addr->Prop)(h0:Inv 0 ρ own [])(Qz:∀i ρ own As,Inv i ρ own As->own.all (λe=> !(e.1==x))=true)
 (turn:∀(E':Value->Shared->Prop) i d ρ own As s(H':Hd)(Q':Flow->Shared->Prop),(∀U bP cq As',Inv (i+1) bP cq As'->Fs c ah af (H'.adds As') O bP cq U->Q' .next U)->(∀U,wpAny (model PW c.w) A (execs rest O) Q E U->Q' .brk U)->(∀v U,Q (.ret v) U->Q' (.ret v) U)->
  H'.Y=H.Y->(∀a,a∈H'.Z->a∈H.Z)->(∀ρ own As s,Fs c ah af (H'.adds As) O ρ own s->Fs c ah af (H.adds As) O ρ own s)->ds[i]? =some d->Inv i ρ own As->Fs c ah af (H'.adds As) O ((x,d)::ρ) own s->
  wpAny (model PW c.w) A (execs body O) Q' E' s)
 (fin:∀ρ own As s,Inv ds.length ρ own As->Fs c ah af (H.adds As) O ρ own s->wpAny (model PW c.w) A (execs rest O) Q E s)
 (hs:∀x,foldedSetIterable iter O x=pure x:=by intro _;rfl):
 wpAny (model PW c.w) A (execs (.For (.Name x p) iter body [] pos::rest) O) Q E s:=by
 refine wpAny_execs_cons (wpAny_For (hi _ λit s₁ kp tk W=>?_) hs);refine ru W ?_;clear W;intro I fp wr P St oB W iC hex C0 pJ hP _;obtain rfl:=oB;have F1:=F.iter (wr:=wr) (fp:=fp) (St:=St) (i:=0) W.sub kp tk iC hex W.frame C0 pJ;have z0:=F.z0 pJ;have data:∀(As:List Addr)(ay:Shared),(∀b∈iU (wr++H.X) s₁,b∉As++H.Z)->(∀b∈iU (wr++H.X) s₁,∀o,s₁.heap.get? b=some o->ay.heap.get? b=some o)->∀i v,i<ds.length->P i v->∃d,ds[i]? =some d/\Rep c.w c.C (aX ah af (As++(wr++H.X)) ay) d v:=λAs ay hA hk i v J hv=>by
  refine aq (hP i v J hv) λd h1 h2=>?_;refine⟨d,h1,h2.mono ?_⟩;rintro a o ⟨g,L7⟩;rcases bF F.ex F.old kp a o g with h|⟨h1,h2,h3⟩
  .exact .inl h
  .have hn:a∉wr++H.X:=λhm=>(de hm).elim L7 h3;have hm:=bl.mpr ⟨hn,o,h1⟩;exact .inr ⟨hk a hm o h1,h2,λJd=>(de Jd).elim (λq=>hA a hm (d7 q)) hn⟩
 refine codeAny_forLoop_any (λn U=>∃i ρ own As,n=ds.length-i/\i<=ds.length/\Inv i ρ own As/\Fs c ah af ((HI H wr fp St s₁ i).adds As) O ρ own U) ?_ ds.length
  ⟨0,ρ,own,[],rfl,zero_le _,h0,F1⟩
 intro n U w9;refine Dr w9 λi bP cq As Bz hle hI F'=>?_;clear w9;obtain rfl:=Bz;rcases lt_or_ge i ds.length with J|BJ
 .refine wpAny_with_toks (le_refl U.toks) (W.item i U _ _ J F'.inv.2.1 λv h' tk' Gh q8 hk hU=>?_);have F2:=Fs.D2 z0 W.sub hex W.frame F' q8 hk hU;refine aq (data As _ (λb hb=>F2.jz b (cv ((d7 hb)))) F2.inv.2.2 i v J Gh) λd hd rd=>?_;refine wpAny_pure (wpAny_assign_Name (F2.gy (hb:=(hb:kK O ((HI H wr fp St s₁ (i+1)).adds As) x)) (r:=rd) (ho:=Qz i bP cq As hI) λbB F3 _=>?_));refine wpAny_mono (turn _ i d bP cq As bB (HI H wr fp St s₁ (i+1)) (λf U=>match f with
   | .next=>∃bP cq As',Inv (i+1) bP cq As'/\Fs c ah af ((HI H wr fp St s₁ (i+1)).adds As') O bP cq U
   | .cont=>False
   | .brk=>wpAny (model PW c.w) A (execs rest O) Q E U
   | .ret v=>Q (.ret v) U) (λ_ _ _ _ q1 q2=>⟨_,_,_,q1,q2⟩) (λ_ q=>q) (λ_ _ q=>q) rfl (λa h=>h) (λρ own As s Fx=>Fx.JY z0) hd hI F3) (λf dY z=>?_) λ_ _ e=>e
  cases f with
  |next=>refine fR z λHL Fj J6 q1 q2=>?_;clear z;exact⟨_,by exact aM 0xcb1d0d112c1a10b112a10 [_,_,_,_] [] (dE (ao 0xb112a10b112a10 [_,_] [] J)) eC,i+1,HL,Fj,J6,rfl,J,q1,q2⟩
  |cont=>exact z.elim
  |brk=>exact z
  |ret v=>exact z
 .have BI:i=ds.length:=by exact dG (ao 12192672 [_,_] [] hle) (ao 12192672 [_,_] [] BJ)
  subst BI;refine wpAny_with_toks (le_refl U.toks) (W.done U _ _ F'.inv.2.1 λh' tk' hk hU=>?_);refine wpAny_execs_nil (fin bP cq As _ hI ?_);exact Fs.Ij z0 W.sub W.frame F' hk hU
theorem E6{x:Str}{p pos:Pos}{iter:Expr}{body rest:List Stmt}{ds:List D}{Q:Flow->Shared->Prop}(F:Fs c ah af H O ρ own s)(hi:∀G,tZ c A O ρ G iter ds)(hb:kK O H x)
 (Inv:Nat->List (Str×D)->List (Str×Addr×OD)->Prop)(h0:Inv 0 ρ own)(I:∀i ρ own,Inv i ρ own->own.all (λe=> !(e.1==x))=true)
 (turn:∀(E':Value->Shared->Prop) i d ρ own s(H':Hd)(Q':Flow->Shared->Prop),(∀U bP cq,Inv (i+1) bP cq->Fs c ah af H' O bP cq U->Q' .next U)->(∀U,wpAny (model PW c.w) A (execs rest O) Q E U->Q' .brk U)->(∀v U,Q (.ret v) U->Q' (.ret v) U)->
  H'.Y=H.Y->(∀a,a∈H'.Z->a∈H.Z)->(∀ρ own s,Fs c ah af H' O ρ own s->Fs c ah af H O ρ own s)->ds[i]? =some d->Inv i ρ own->Fs c ah af H' O ((x,d)::ρ) own s->
  wpAny (model PW c.w) A (execs body O) Q' E' s)
 (fin:∀ρ own s,Inv ds.length ρ own->Fs c ah af H O ρ own s->wpAny (model PW c.w) A (execs rest O) Q E s)
 (hs:∀x,foldedSetIterable iter O x=pure x:=by intro _;rfl):
 wpAny (model PW c.w) A (execs (.For (.Name x p) iter body [] pos::rest) O) Q E s:=
 vA F (λK h=>hi _ _ _ s F.view h) hb (λi ρ own As=>As=[]/\Inv i ρ own) ⟨rfl,h0⟩ (λi ρ own As h=>I i ρ own h.2)
  (λE' i d ρ own As s H' Q' kn kb kr hY hZ hF hd z F=>by obtain⟨rfl,z⟩:=z;exact turn E' i d ρ own s H' Q' (λU bP cq q1 J=>kn U bP cq [] ⟨rfl,q1⟩ J) kb kr hY hZ (λρ own s=>hF ρ own [] s) hd z F)
  (λρ own As s z F=>by obtain⟨rfl,z⟩:=z;exact fin ρ own s z F) hs
theorem Fs.ow(F:Fs c ah af H O ρ own s)(e:own=cq):Fs c ah af H O ρ cq s:=e▸F
theorem dK(I:Nat->List (Str×Addr×OD)){x:Str}{p pos:Pos}{iter:Expr}{body rest:List Stmt}{ds:List D}{Q:Flow->Shared->Prop}(F:Fs c ah af H O ρ (I 0) s)(hi:∀G,tZ c A O ρ G iter ds)(hb:kK O H x)
 (Inv:Nat->List (Str×D)->Prop)(h0:Inv 0 ρ)(J:∀i,(I i).all (λe=> !(e.1==x))=true)
 (turn:∀(E':Value->Shared->Prop) i d ρ s(H':Hd)(Q':Flow->Shared->Prop),(∀U bP,Inv (i+1) bP->Fs c ah af H' O bP (I (i+1)) U->Q' .next U)->(∀U,wpAny (model PW c.w) A (execs rest O) Q E U->Q' .brk U)->(∀v U,Q (.ret v) U->Q' (.ret v) U)->
  H'.Y=H.Y->(∀a,a∈H'.Z->a∈H.Z)->(∀ρ own s,Fs c ah af H' O ρ own s->Fs c ah af H O ρ own s)->ds[i]? =some d->Inv i ρ->Fs c ah af H' O ((x,d)::ρ) (I i) s->
  wpAny (model PW c.w) A (execs body O) Q' E' s)
 (fin:∀ρ s,Inv ds.length ρ->Fs c ah af H O ρ (I ds.length) s->wpAny (model PW c.w) A (execs rest O) Q E s)
 (hs:∀x,foldedSetIterable iter O x=pure x:=by intro _;rfl):
 wpAny (model PW c.w) A (execs (.For (.Name x p) iter body [] pos::rest) O) Q E s:=
 E6 F hi hb (λi ρ own=>own=I i/\Inv i ρ) ⟨rfl,h0⟩ (λi ρ own h=>h.1▸J i)
  (λE' i d ρ own s H' Q' kn kb kr hY hZ hF hd z=>by obtain⟨w,z⟩:=z;subst w;exact turn E' i d ρ s H' Q' (λU bP q1=>kn U bP _ ⟨rfl,q1⟩) kb kr hY hZ hF hd z)
  (λρ own s z=>by obtain⟨w,z⟩:=z;subst w;exact fin ρ s z) hs
noncomputable abbrev dJ(ifs:List Expr)(O:Env):Sem Bool:=forIn ifs true λc r=>if r=true then do let ok<-isTrue c O (eval c O);pure (ForInStep.yield ok)else pure (ForInStep.yield r)
theorem fm(D z iter:Expr)(ifs:List Expr)(scope:Scope)(pos:Pos)(it acc:Value)(O:Env):
 compTurn (.ListComp D [⟨z,iter,ifs,0⟩] scope pos) 0 it acc O=(do
  standAt iter.pos
  match<-pyNext it with
  |none=>pure (.done .next)
  |some v=>
   letOwnedTupleGo z it v
   assign z O v
   let mut ok:=true
   for c in ifs do
    if ok then ok<-isTrue c O (eval c O)
   if ok then
    (do let _<-call (.builtin "list.append") [acc,<-eval D O])
   again (.compLoop (.ListComp D [⟨z,iter,ifs,0⟩] scope pos) 0 it acc O)):=by rfl
section
variable{prog:Program}
theorem yK{elt z iter D I:Expr}{ifs J:List Expr}{scope:Scope}{pos:Pos}{it acc:Value}{O:Env}{Q:Fin->Shared->Prop}
 (h:wpAny (model prog w) A (pyNext it) (λr s₁=>match r with
  |none=>Q (.done .next) s₁
  |some v=>wpAny (model prog w) A (letOwnedTupleGo z it v) (λ_ ay=>wpAny (model prog w) A (assign z O v) (λ_ bB=>wpAny (model prog w) A (dJ ifs O) (λok Y=>
   if ok=true then wpAny (model prog w) A (eval I O) (λx fX=>wpAny (model prog w) A (pyIter x) (λKj qD=>
    wpAny (model prog w) A (runOwn (.compStart (.ListComp elt [⟨z,iter,ifs,0⟩,⟨D,I,J,0⟩] scope pos) 1 Kj acc O) O)
     (λ_ jY=>Q (.again (.compLoop (.ListComp elt [⟨z,iter,ifs,0⟩,⟨D,I,J,0⟩] scope pos) 0 it acc O)) jY) E qD) E fX) E Y
   else Q (.again (.compLoop (.ListComp elt [⟨z,iter,ifs,0⟩,⟨D,I,J,0⟩] scope pos) 0 it acc O)) Y) E bB) E ay) E s₁) E s)
 (hs:∀x,foldedSetIterable I O x=pure x):
 wpAny (model prog w) A (compTurn (.ListComp elt [⟨z,iter,ifs,0⟩,⟨D,I,J,0⟩] scope pos) 0 it acc O) Q E s:=by
 unfold compTurn;refine wpAny_bind (wpAny_standAt ?_);refine wpAny_bind (wpAny_mono h (λr s₁ nI=>?_) λ_ _ e=>e);cases r with
 |none=>exact wpAny_pure nI
 |some v=>
  refine wpAny_bind (wpAny_mono nI (λ_ ay gL=>?_) λ_ _ e=>e);refine wpAny_bind (wpAny_mono gL (λ_ bB jc=>?_) λ_ _ e=>e);refine wpAny_bind (wpAny_mono jc (λok Y jb=>?_) λ_ _ e=>e);cases ok with
  |false=>exact wpAny_pure jb
  |true=>rw[if_pos rfl]at jb;refine wpAny_bind (wpAny_mono jb (λx fX ma=>wpAny_bind (wpAny_standAt ?_)) λ_ _ e=>e);refine wpAny_bind (wpAny_of_eq (hs x) ?_);refine wpAny_bind (wpAny_holding (wpAny_mono ma (λKj qD IL=>?_) λ_ _ e=>e));exact wpAny_bind (wpAny_mono IL (λ_ jY FQ=>wpAny_pure FQ) λ_ _ e=>e)
theorem iK{e elt z iter:Expr}{depth:Nat}{ifs:List Expr}{it acc:Value}{O:Env}{Q:Fin->Shared->Prop}
 (ht:compTurn e depth it acc O=(do
  standAt iter.pos
  match<-pyNext it with
  |none=>pure (.done .next)
  |some v=>
   letOwnedTupleGo z it v
   assign z O v
   let mut ok:=true
   for c in ifs do
    if ok then ok<-isTrue c O (eval c O)
   if ok then
    (do let _<-call (.builtin "list.append") [acc,<-eval elt O])
   again (.compLoop e depth it acc O)))
 (h:wpAny (model prog w) A (pyNext it) (λr s₁=>match r with
  |none=>Q (.done .next) s₁
  |some v=>wpAny (model prog w) A (letOwnedTupleGo z it v) (λ_ ay=>wpAny (model prog w) A (assign z O v) (λ_ bB=>wpAny (model prog w) A (dJ ifs O) (λok D=>
   if ok=true then wpAny (model prog w) A (eval elt O) (λx Y=>wpAny (model prog w) A (call (.builtin "list.append") [acc,x])
    (λ_ J=>Q (.again (.compLoop e depth it acc O)) J) E Y) E D
   else Q (.again (.compLoop e depth it acc O)) D) E bB) E ay) E s₁) E s):
 wpAny (model prog w) A (compTurn e depth it acc O) Q E s:=by
 rw[ht];refine wpAny_bind (wpAny_standAt ?_);refine wpAny_bind (wpAny_mono h (λr s₁ nI=>?_) λ_ _ e=>e);cases r with
 |none=>exact wpAny_pure nI
 |some v=>
  refine wpAny_bind (wpAny_mono nI (λ_ ay gL=>?_) λ_ _ e=>e);refine wpAny_bind (wpAny_mono gL (λ_ bB jc=>?_) λ_ _ e=>e);refine wpAny_bind (wpAny_mono jc (λok D I=>?_) λ_ _ e=>e);cases ok with
  |false=>exact wpAny_pure I
  |true=>rw[if_pos rfl]at I;refine wpAny_bind (wpAny_bind (wpAny_mono I (λx Y ma=>?_) λ_ _ e=>e));exact wpAny_bind (wpAny_mono ma (λ_ J FQ=>wpAny_pure (wpAny_pure FQ)) λ_ _ e=>e)
end
theorem oO(Y I iter z D:Expr)(ifs J:List Expr)(scope:Scope)(pos:Pos)(it acc:Value)(O:Env):
 compTurn (.ListComp Y [⟨I,iter,ifs,0⟩,⟨z,D,J,0⟩] scope pos) 1 it acc O=(do
  standAt D.pos
  match<-pyNext it with
  |none=>pure (.done .next)
  |some v=>
   letOwnedTupleGo z it v
   assign z O v
   let mut ok:=true
   for c in J do
    if ok then ok<-isTrue c O (eval c O)
   if ok then
    (do let _<-call (.builtin "list.append") [acc,<-eval Y O])
   again (.compLoop (.ListComp Y [⟨I,iter,ifs,0⟩,⟨z,D,J,0⟩] scope pos) 1 it acc O)):=by rfl
section
variable{M:Model}
theorem lL{z:Expr}{I:Addr}{v:Value}{o:Obj}{T:String}{Q:Unit->Shared->Prop}(D:s.heap.get? I=some o)(ho:o.cls= .type T)(hT:iV T=true)(h:Q () s):
 wpAny M A (letOwnedTupleGo z (.ref I) v) Q E s:=by
 have hc:(["enumerate","zip","dict_itemiterator","dict_reverseitemiterator","odict_iterator","itertools.zip_longest","itertools.pairwise"].contains T)=false:=by unfold iV at hT;exact(not_eq_true' _).mp hT
 obtain⟨cls,d,data,Y⟩:=o;simp only at ho;subst ho;have J:wpAny M A (letOwnedTupleGo (.Tuple [] 0 z.pos) (.ref I) v) Q E s:=by
  cases v with
  |ref a=>
   refine wpAny_bind (wpAny_load D ?_)
   cases data<;>first
    |exact wpAny_pure h
    |(show wpAny M A (if(["enumerate","zip","dict_itemiterator","dict_reverseitemiterator","odict_iterator","itertools.zip_longest","itertools.pairwise"].contains T&&_)=true then _ else _) Q E s
      rw[hc,Bool.false_and];exact wpAny_pure h)
  |_=>exact wpAny_pure h
 cases z<;>first|exact J|exact wpAny_pure h
end
structure Acc(c:Cx)(ah:PH)(af:Shared)(H:Hd)(Dn:Addr)(out:List D)(s:Shared):Prop where
 x:Dn∈H.X
 z:Dn∉H.Z
 fp:Dn∉H.fp
 obj:∃vs n,s.heap.get? Dn=some {cls:= .type "list",data:= .seq (toArray vs) n}/\aE c.w c.C (aX ah af H.X s) out vs
variable{Dn:Addr}{out:List D}
theorem Acc.step(a:Acc c ah af H Dn out s)(D:∀o,s.heap.get? Dn=some o->U.heap.get? Dn=some o)(up:∀a o,aX ah af H.X s a o->aX ah af H.X U a o):Acc c ah af H Dn out U:=
 ⟨a.x,a.z,a.fp,let⟨vs,n,h,l⟩:=a.obj;⟨vs,n,D _ h,l.mono up⟩⟩
theorem Acc.keeps(a:Acc c ah af H Dn out s)(F:Fs c ah af H O ρ own s)(z:Keeps s U):Acc c ah af H Dn out U:=
 a.step (λo e=>dH z _ _ e) (λa o h=>bF F.ex F.old z a o (.inl h))
theorem Acc.xn(a:Acc c ah af H Dn out s)(F:Fs c ah af H O ρ own s)(D:∀b o,b∉H.Z->s.heap.get? b=some o->U.heap.get? b=some o):Acc c ah af H Dn out U:=
 a.step (λo e=>D _ o a.z e) (gT F.zx D)
theorem Acc.push(a:Acc c ah af H Dn out s)(F:Fs c ah af H O ρ own s){d:D}{v:Value}(r:Rep c.w c.C (aX ah af H.X s) d v)(hz:sizeOk out.length=true){Q:Value->Shared->Prop}
 (kk:∀u U,Fs c ah af H O ρ own U->Acc c ah af H Dn (out++[d]) U->Q u U):wpAny (model PW c.w) A (call (.builtin "list.append") [.ref Dn,v]) Q E s:=by
 refine cC a.obj λvs n ho l=>?_;refine wpAny_list_append_plain ⟨n,ho⟩ (λh' hp sb=>?_) (by simp only[size_toArray];rw[l.length];exact le_trans (le_of_ble_eq_true hz) (by rw[sizeLine_eq];decide));obtain⟨n',I⟩:=hp;have J:∀b o,b∉[Dn]->s.heap.get? b=some o->h'.get? b=some o:=λb o hb e=>(sb.2 b (by simpa using hb)).trans e
 have F':Fs c ah af H O ρ own {s with heap:=h',toks:=s.toks}:=F.moved (wr:=[Dn]) rfl rfl rfl (by simpa using a.x) (by simpa using a.z) J (by simp;exact⟨_,I⟩) (le_refl _)
  (F.eS _ _ F.inv λb hb o e=>J b o (by simp;rintro rfl;exact a.fp hb) e) F.eS F.jz (λb hb=>let⟨o,e⟩:=F.gQ b hb;⟨o,J b o (by simp;rintro rfl;exact a.fp hb) e⟩)
 refine kk _ _ F' ⟨a.x,a.z,a.fp,vs++[v],n',by simpa using I,?_⟩;have up:∀a' o,aX ah af H.X s a' o->aX ah af H.X {s with heap:=h',toks:=s.toks} a' o:=by
  rintro b o (h|⟨h1,h2,Y⟩)
  .exact .inl h
  .exact .inr ⟨J b o (by simp;rintro rfl;exact Y a.x) h1,h2,Y⟩
 exact(l.mono up).append (by show ∃_,_;exact⟨v,[],rfl,r.mono up,rfl⟩)
noncomputable abbrev ActT:=(Shared->Prop)->(Value->Shared->Prop)->Shared->Prop
structure tV(c:Cx)(A:Around)(ah:PH)(af:Shared)(H:Hd)(I:Addr)(fp wr:List Addr)(P:Nat->Value->Prop)(St:Nat->Heap->Prop)(s₁:Shared)(ds:List D):Prop where
 W:Walks PW c.w A I fp wr ds.length P St
 hex:∀i h,St i h->∀b∈fp,∃o,h.get? b=some o
 hP:∀i v,i<ds.length->P i v->∃d,ds[i]? =some d/\Rep c.w c.C (aX ah af (wr++H.X) s₁) d v
 hT:∃T,iV T=true/\∀i h,St i h->∃o,h.get? I=some o/\o.cls= .type T
theorem pY{elt J:Expr}{gens:List Comprehension}{scope:Scope}{pos:Pos}{ifs:List Expr}{depth:Nat}{I:Addr}{fp wr:List Addr}{P:Nat->Value->Prop}{St:Nat->Heap->Prop}{ds:List D}{f:D->List D}{s₁:Shared}{R:Result->Shared->Prop}(act:ActT)
 (B:yy H wr O)(Wd:tV c A ah af H I fp wr P St s₁ ds)(F1:Fs c ah af (HI H wr fp St s₁ 0) O ρ [] s₁)(acc:Acc c ah af (HI H wr fp St s₁ 0) Dn out s₁)(v9:Dn∈H.X)(Al:Dn∉H.fp)
 (uP:∀Q Q' E s,(∀s,Q s->Q' s)->act Q E s->act Q' E s)
 (kg:∀(Q:Fin->Shared->Prop)(E:Value->Shared->Prop)(s:Shared),wpAny (model PW c.w) A (pyNext (.ref I)) (λr s₁=>match r with
  |none=>Q (.done .next) s₁
  |some v=>wpAny (model PW c.w) A (letOwnedTupleGo J (.ref I) v) (λ_ ay=>wpAny (model PW c.w) A (assign J O v) (λ_ bB=>wpAny (model PW c.w) A (dJ ifs O) (λok dY=>if ok=true then act (Q (.again (.compLoop (.ListComp elt gens scope pos) depth (.ref I) (.ref Dn) O))) E dY else Q (.again (.compLoop (.ListComp elt gens scope pos) depth (.ref I) (.ref Dn) O)) dY) E bB) E ay) E s₁) E s->
  wpAny (model PW c.w) A (compTurn (.ListComp elt gens scope pos) depth (.ref I) (.ref Dn) O) Q E s)
 (gM:∀(E':Value->Shared->Prop) d v s(H':Hd)(out:List D),(out++f d).length<=4000000->H'.Z=H.Z->H'.Y=H.Y->d∈ds->Fs c ah af H' O ρ [] s->Rep c.w c.C (aX ah af H'.X s) d v->Acc c ah af H' Dn out s->
  wpAny (model PW c.w) A (assign J O v) (λ_ ay=>wpAny (model PW c.w) A (dJ ifs O) (λok bB=>if ok=true then act (λdY=>Fs c ah af H' O ρ [] dY/\Acc c ah af H' Dn (out++f d) dY) E' bB else(Fs c ah af H' O ρ [] bB/\Acc c ah af H' Dn (out++f d) bB)) E' ay) E' s)
 (hlen:out.length+(ds.map f).flatten.length<=4000000)
 (fin:∀U,Fs c ah af H O ρ [] U->Acc c ah af H Dn (out++(ds.map f).flatten) U->R (.ok .next) U):
 codeAny (model PW c.w) A (.compLoop (.ListComp elt gens scope pos) depth (.ref I) (.ref Dn) O) R s₁:=by
 obtain⟨W,hex,hP,T,hT,BM⟩:=Wd;have En:Dn∉wr:=B.cA _ v9;have data:∀(ay:Shared),(∀b∈iU (wr++H.X) s₁,∀o,s₁.heap.get? b=some o->ay.heap.get? b=some o)->∀i v,i<ds.length->P i v->∃d,ds[i]? =some d/\Rep c.w c.C (aX ah af (wr++H.X) ay) d v:=λay hk i v jW hv=>by
  refine aq (hP i v jW hv) λd h1 h2=>?_;refine⟨d,h1,h2.mono ?_⟩;rintro a o (h|⟨h1,h2,hn⟩)
  .exact .inl h
  .exact .inr ⟨hk a (bl.mpr ⟨hn,o,h1⟩) o h1,h2,hn⟩
 refine codeAny_loop rfl (λn U=>∃i,n=ds.length-i/\i<=ds.length/\Fs c ah af (HI H wr fp St s₁ i) O ρ [] U/\Acc c ah af (HI H wr fp St s₁ i) Dn (out++((ds.take i).map f).flatten) U) ?_ ds.length
  ⟨0,rfl,zero_le _,F1,by simpa using acc⟩
 intro n U w9;refine tA w9 λi rS hle F' a'=>?_;clear w9;obtain rfl:=rS;show wpAny _ A ((compTurn (.ListComp elt gens scope pos) depth (.ref I) (.ref Dn) O).onRaise (λx=>do noteFrame x O;theTreesLotGoes x)) _ _ U;refine wpAny_noted (kg _ _ U ?_);rcases lt_or_ge i ds.length with jW|BJ
 .refine wpAny_with_toks (le_refl U.toks) (W.item i U _ _ jW F'.inv.2.1 λv h' tk' Gh q8 hk hU=>?_);have F2:=Fs.turn B W.sub hex W.frame F' q8 hk hU;refine aq (data _ F2.inv.2.2 i v jW Gh) λd hd rd=>?_;have a2:Acc c ah af (HI H wr fp St s₁ (i+1)) Dn (out++((ds.take i).map f).flatten) {U with heap:=h',toks:=tk'}:=by
   refine cC a'.obj λvs n ho l=>?_;refine⟨a'.x,a'.z,a'.fp,vs,n,hk _ _ En ho,l.mono ?_⟩;rintro a o (h|⟨h1,h2,h3⟩)
   .exact .inl h
   .exact .inr ⟨hk a o (λhm=>h3 (d7 hm)) h1,h2,h3⟩
  have rf:wpAny (model PW c.w) A (letOwnedTupleGo J (.ref I) v) (λ_ ay=>ay=({U with heap:=h',toks:=tk'}:Shared)) (notedBy (model PW c.w) A O λe U=>R (.error e) U) {U with heap:=h',toks:=tk'}:=by refine aq (BM _ _ q8) λoi LY Ej=>?_;exact lL LY Ej hT rfl
  refine wpAny_mono rf (λ_ ay e=>?_) λ_ _ e=>e;subst e;have Ge:d∈ds:=mem_of_getElem? hd;have kh:out++((ds.take i).map f).flatten++f d=out++((ds.take (i+1)).map f).flatten:=by rw[take_add_one,hd,map_append,flatten_append,append_assoc];simp
  have oJ:(out++((ds.take i).map f).flatten++f d).length<=4000000:=by
   rw[kh];have:(ds.take (i+1)).map f=(ds.map f).take (i+1):=by rw[map_take]
   have h2:((ds.map f).take (i+1)).flatten.length<=(ds.map f).flatten.length:=by
    conv=>rhs;rw[<-take_append_drop (i+1) (ds.map f),flatten_append,length_append]
    exact aI 762272 [_,_] []
   rw[length_append,this];exact aM 0xcb03d090062ca103d090062ba10 [_,_,_] [] hlen h2
  refine wpAny_mono (gM _ d v _ (HI H wr fp St s₁ (i+1)) _ oJ rfl rfl Ge F2 rd a2) (λ_ bB jc=>wpAny_mono jc (λok dY jb=>?_) λ_ _ e=>e) λ_ _ e=>e;rw[kh]at jb;cases ok with
  |true=>rw[if_pos rfl]at jb⊢;exact uP _ _ _ _ (λfX ma=>⟨rfl,_,by exact aM 0xcb1d0d112c1a10b112a10 [_,_,_,_] [] (dE (ao 0xb112a10b112a10 [_,_] [] jW)) eC,i+1,rfl,jW,ma.1,ma.2⟩) jb
  |false=>rw[if_neg Bool.false_ne_true]at jb⊢;exact⟨rfl,_,by exact aM 0xcb1d0d112c1a10b112a10 [_,_,_,_] [] (dE (ao 0xb112a10b112a10 [_,_] [] jW)) eC,i+1,rfl,jW,jb.1,jb.2⟩
 .have BI:i=ds.length:=by exact dG (ao 12192672 [_,_] [] hle) (ao 12192672 [_,_] [] BJ)
  subst BI;refine wpAny_with_toks (le_refl U.toks) (W.done U _ _ F'.inv.2.1 λh' tk' hk hU=>?_);refine fin _ (Fs.over B F' hk hU) ?_;refine cC a'.obj λvs n ho l=>?_;rw[take_of_length_le (le_refl _)]at l;refine⟨v9,a'.z,Al,vs,n,hk _ _ En ho,l.mono ?_⟩;rintro a o (h|⟨h1,h2,h3⟩)
  .exact .inl h
  .exact .inr ⟨hk a o (λhm=>h3 (d7 hm)) h1,h2,λhm=>h3 (cv hm)⟩
noncomputable def f9(scope:Scope)(O:Env):List (Str×Addr):=
 scope.names.foldl (λcs p=>if p.2== .free then(match O.cells.lookup p.1 with|some a=>(p.1,a)::cs|none=>cs)else cs) []
noncomputable def bE(scope:Scope)(O:Env)(C:Addr):Env:=
 {scope:=relabel scope O,locals:=C,globals:=O.globals,cells:=cellsFrom (C+1) scope.names (f9 scope O),qual:=O.qual,func:=none,code:=O.code,frame:=O.frame,builtins:=O.builtins}
noncomputable def cw(scope:Scope):List Str:=(scope.names.filter (·.2== .cell)).map (·.1)
theorem oe{O:Env}:∀(names:List (Str×NameKind))(cs:List (Str×Addr)),(∀x a,cs.lookup x=some a->O.cells.lookup x=some a)->
 ∀x a,(names.foldl (λcs(p:Str×NameKind)=>if p.2== .free then(match O.cells.lookup p.1 with|some a=>(p.1,a)::cs|none=>cs)else cs) cs).lookup x=some a->O.cells.lookup x=some a
 |[],cs,h,x,a,e=>h x a e
 |(n,k)::r,cs,h,x,a,e=>by
  rw[foldl_cons]at e;refine oe r _ ?_ x a e;intro y b z;by_cases I:(k==NameKind.free)=true
  .simp only[I,if_true]at z;cases hc:O.cells.lookup n with
   |none=>rw[hc]at z;exact h y b z
   |some J=>
    rw[hc]at z;simp only[lookup_cons]at z;by_cases D:y=n
    .subst D;simp at z;rw[hc,z]
    .rw[show(y==n)=false from by simpa using D]at z;exact h y b z
  .simp only[I]at z;exact h y b (by simpa using z)
theorem eU{scope:Scope}{O:Env}{x:Str}{a:Addr}(h:(f9 scope O).lookup x=some a):O.cells.lookup x=some a:=oe scope.names [] (by simp) x a h
theorem qc{O:Env}{x:Str}{a:Addr}(D:O.cells.lookup x=some a):∀(names:List (Str×NameKind))(cs:List (Str×Addr)),cs.lookup x=some a->
 (names.foldl (λcs(p:Str×NameKind)=>if p.2== .free then(match O.cells.lookup p.1 with|some a=>(p.1,a)::cs|none=>cs)else cs) cs).lookup x=some a
 |[],cs,h=>h
 |(n,k)::r,cs,h=>by
  rw[foldl_cons];refine qc D r _ ?_;by_cases I:(k==NameKind.free)=true
  .simp only[I,if_true];cases hc:O.cells.lookup n with
   |none=>exact h
   |some J=>
    simp only[lookup_cons];by_cases z:x=n
    .subst z;rw[hc]at D;cases D;simp
    .rw[show(x==n)=false from by simpa using z];exact h
  .simp only[I];simpa using h
theorem qd{O:Env}{x:Str}{a:Addr}(z:O.cells.lookup x=some a):∀(names:List (Str×NameKind))(cs:List (Str×Addr)),(x,NameKind.free)∈names->
 (names.foldl (λcs(p:Str×NameKind)=>if p.2== .free then(match O.cells.lookup p.1 with|some a=>(p.1,a)::cs|none=>cs)else cs) cs).lookup x=some a
 |[],cs,h=>nomatch h
 |(n,k)::r,cs,h=>by
  rw[foldl_cons];rcases dg h with e|h
  .cases e;refine qc z r _ ?_;simp[z]
  .exact qd z r _ h
theorem gA:∀(names:List (Str×NameKind))(n:Nat)(a b:List (Str×Addr)),cellsFrom n names (a++b)=cellsFrom n names a++b
 |[],_,_,_=>rfl
 |(nm,k)::r,n,a,b=>by
  unfold cellsFrom;split
  .exact gA r (n+1) ((nm,n)::a) b
  .exact gA r n a b
theorem cY:∀(names:List (Str×NameKind))(n:Nat)(acc:List (Str×Addr)){x:Str},((x,NameKind.cell)∈names\/∃a,acc.lookup x=some a)->∃a,(cellsFrom n names acc).lookup x=some a
 |[],_,acc,x,h=>h.elim (λh=>nomatch h) id
 |(nm,k)::r,n,acc,x,h=>by
  unfold cellsFrom;split
  .rename_i z;refine cY r _ _ ?_;rcases h with h|⟨a,h⟩
   .rcases dg h with e|h
    .cases e;exact .inr ⟨n,by simp⟩
    .exact .inl h
   .refine .inr ?_;simp only[lookup_cons];cases x==nm<;>simp[h]
  .rename_i z;refine cY r _ _ ?_;rcases h with h|h
   .rcases dg h with e|h
    .cases e;exact absurd rfl z
    .exact .inl h
   .exact .inr h
theorem fK{O:Env}{x:Str}{k:NameKind}:∀{names:List (Str×NameKind)},names.lookup x=some k->
 ∃k',(names.map λ(n,k)=>if(k==NameKind.free&&O.scope.kind== .function&&O.kindOf n==some .cell)then(n,NameKind.cell)else(n,k)).lookup x=some k'/\(k'=k\/(k= .free/\k'= .cell))
 |[],h=>nomatch h
 |(n,j)::r,h=>by
  rw[map_cons];simp only[lookup_cons]at h;by_cases z:x=n
  .subst z;simp only[BEq.rfl]at h;cases h;by_cases hc:(k==NameKind.free&&O.scope.kind== .function&&O.kindOf x==some .cell)=true
   .refine⟨.cell,?_,.inr ⟨?_,rfl⟩⟩
    .simp only[hc,if_true,lookup_cons,BEq.rfl]
    .simp only[and_eq_true,beq_iff_eq]at hc;exact hc.1.1
   .refine⟨k,?_,.inl rfl⟩;simp only[hc];simp
  .rw[show(x==n)=false from by simpa using z]at h;refine aq (fK (O:=O) h) λk' I D=>?_;refine⟨k',?_,D⟩;rw[lookup_cons];have:(x==(if(j==NameKind.free&&O.scope.kind== .function&&O.kindOf n==some .cell)=true then(n,NameKind.cell)else(n,j)).1)=false:=by split<;>simpa using z
   rw[this];exact I
section
variable{M:Model}
theorem eE{scope:Scope}{O:Env}{cl:List (Str×Addr)}{B:Addr}{Q:Env->Shared->Prop}
 (h:Q {scope,locals:=s.heap.objs.size,globals:=O.globals,cells:=cellsFrom (s.heap.objs.size+1) scope.names cl,qual:=O.qual,func:=none,code:=O.code,frame:=O.frame,builtins:=O.builtins}
  {s with heap:=pushCells (s.heap.push {cls:= .type "dict",data:= .dict #[]}) scope.names}):
 wpAny M A (newFunctionEnv scope O.globals cl [] O.qual none .none (some O) B) Q E s:=by
 simp only[newFunctionEnv,Option.isSome_some,if_true];refine wpAny_bind (wpAny_alloc ?_);refine wpAny_bind (wpAny_layCells _ (λname kind cells=>by cases z:kind==NameKind.cell<;>simp[z]) _ _ _ _ ?_);rw[show({s with heap:=s.heap.push {cls:= .type "dict",data:= .dict #[]}}:Shared).heap.objs.size=s.heap.objs.size+1 from size_push ..];exact wpAny_bind (by rw[List.forIn_nil];exact wpAny_pure (wpAny_pure h))
end
noncomputable def isFree(scope:Scope)(O:Env)(x:Str):Bool:=
 scope.names.lookup x==some .free&&(O.kindOf x==some .cell||O.kindOf x==some .free)&& !(x==("__classdict__":Str))
noncomputable def bo(scope:Scope)(O:Env)(ρ:List (Str×D)):List (Str×D):=ρ.filter λp=>isFree scope O p.1
theorem eN{p:Str->Bool}{x:Str}{d:D}:∀{ρ:List (Str×D)},(ρ.filter λq=>p q.1).lookup x=some d->p x=true/\ρ.lookup x=some d
 |[],h=>nomatch h
 |(n,e)::r,h=>by
  rw[filter_cons]at h;by_cases I:p n=true
  .rw[if_pos I]at h;simp only[lookup_cons]at h⊢;by_cases z:x=n
   .subst z;simp only[BEq.rfl]at h⊢;exact⟨I,h⟩
   .rw[show(x==n)=false from by simpa using z]at h⊢;exact eN h
  .rw[if_neg I]at h;obtain⟨J,Y⟩:=eN h;refine⟨J,?_⟩;simp only[lookup_cons];by_cases z:x=n
   .subst z;exact absurd J I
   .rw[show(x==n)=false from by simpa using z];exact Y
noncomputable def rB(scope:Scope)(C:Addr):List Addr:=(cellsFrom (C+1) scope.names []).map (·.2)
noncomputable def oh(scope:Scope)(Dn C:Addr):Hd:={X:=C::Dn::rB scope C,Z:=C::rB scope C,Y:=cw scope,fp:=[],J:=λ_=>True}
theorem ip{scope:Scope}{C:Addr}:(bE scope O C).cells=cellsFrom (C+1) scope.names []++f9 scope O:=gA scope.names (C+1) [] _
theorem ny{l z:List (Str×Addr)}{x:Str}{a:Addr}(h:(l++z).lookup x=some a):l.lookup x=some a\/(l.lookup x=none/\z.lookup x=some a):=by
 rw[lookup_append]at h;cases e:l.lookup x with
 |none=>rw[e]at h;exact .inr ⟨rfl,by simpa using h⟩
 |some b=>rw[e]at h;exact .inl (by simpa using h)
theorem jR{a n:Nat}(h:n+1+1<=a)(h':a<n):False:=by exact Hb (aM 0xa112112b110b112a10021120 [_,_] [] h' h)
theorem gz:∀(names:List (Str×NameKind))(n:Nat)(acc:List (Str×Addr)){x:Str}{b:Addr},(cellsFrom n names acc).lookup x=some b->(x,NameKind.cell)∈names\/∃z,acc.lookup x=some z
 |[],_,acc,x,b,h=> .inr ⟨b,h⟩
 |(nm,k)::r,n,acc,x,b,h=>by
  unfold cellsFrom at h;split at h
  .rename_i I;rcases gz r _ _ h with h|⟨z,h⟩
   .exact .inl (.tail _ h)
   .simp only[lookup_cons]at h;by_cases D:x=nm
    .subst D;exact .inl (by rw[eq_of_beq I];exact .head _)
    .rw[show(x==nm)=false from by simpa using D]at h;exact .inr ⟨z,h⟩
  .rcases gz r _ _ h with h|h
   .exact .inl (.tail _ h)
   .exact .inr h
theorem lY{scope:Scope}{fp wr:List Addr}{St:Nat->Heap->Prop}{s₁ D:Shared}(V:Vw c O ρ G s)(kp:Keeps s s₁)(tk:s.toks<=s₁.toks)
 (xO:∀b∈wr,b∈fp)(Ah:∀i h h',St i h->(∀b∈fp,∀o,h.get? b=some o->h'.get? b=some o)->St i h')(iC:St 0 s₁.heap)(hex:∀i h,St i h->∀b∈fp,∃o,h.get? b=some o)(pJ:∀b∈wr,s.heap.get? b=none)
 (hkind:scope.kind= .function)(hY:∀y∈cw scope,scope.names.lookup y=some .cell)
 (h3:D={s₁ with heap:=pushCells ((s₁.heap.push {cls:= .type "list",data:= .seq #[]}).push {cls:= .type "dict",data:= .dict #[]}) scope.names}):
 yy (oh scope s₁.heap.objs.size (s₁.heap.objs.size+1)) wr (bE scope O (s₁.heap.objs.size+1))/\
 (∀a o,grow G s s₁ a o->a∉wr->aX G s (wr++(oh scope s₁.heap.objs.size (s₁.heap.objs.size+1)).X) D a o)/\
 Fs c G s (HI (oh scope s₁.heap.objs.size (s₁.heap.objs.size+1)) wr fp St D 0) (bE scope O (s₁.heap.objs.size+1)) (bo scope O ρ) [] D/\
 Acc c G s (HI (oh scope s₁.heap.objs.size (s₁.heap.objs.size+1)) wr fp St D 0) s₁.heap.objs.size [] D:=by
 have FJ:∀b o,s₁.heap.get? b=some o->D.heap.get? b=some o:=λb o e=>by rw[h3];exact pushCells_keeps _ _ b o (get?_push_of_some _ (get?_push_of_some _ e))
 have hsz:(s₁.heap.push {cls:= .type "list",data:= .seq #[]}).objs.size=s₁.heap.objs.size+1:=size_push ..;have Y:∀b,s₁.heap.objs.size<=b->s₁.heap.get? b=none:=λb hb=>get?_none_of_le hb;have getD:D.heap.get? s₁.heap.objs.size=some {cls:= .type "list",data:= .seq #[]}:=by rw[h3];exact pushCells_keeps _ _ _ _ (get?_push_of_some _ (get?_push_size _ rfl))
 have Oe:D.heap.Ns (s₁.heap.objs.size+1) (λ_=>none):=by rw[h3];have:=Heap.Ns.new (s₁.heap.push {cls:= .type "list",data:= .seq #[]}) (.type "dict");rw[hsz]at this;exact this.keeps (pushCells_keeps _ _)
 have ok:CellsOk D.heap (s₁.heap.objs.size+1+1) (cellsFrom (s₁.heap.objs.size+1+1) scope.names []):=by
  have CS:((s₁.heap.push {cls:= .type "list",data:= .seq #[]}).push {cls:= .type "dict",data:= .dict #[]}).objs.size=s₁.heap.objs.size+1+1:=by rw[size_push,hsz]
  have:=cellsFrom_ok scope.names ((s₁.heap.push {cls:= .type "list",data:= .seq #[]}).push {cls:= .type "dict",data:= .dict #[]}) (s₁.heap.objs.size+1+1) [] ⟨λ_ _ hm=>(nomatch hm),List.Pairwise.nil⟩ (by rw[CS];exact le_refl _);rw[CS]at this;rw[h3];exact this
 have I:∀a∈rB scope (s₁.heap.objs.size+1),D.heap.IsCell a none/\s₁.heap.objs.size+1+1<=a:=λa ha=>by refine aq (et ha) λHW h1 gD=>?_;obtain⟨x,b⟩:=HW;obtain rfl:=gD;exact ok.empty x b h1
 have x0:∀y∈(oh scope s₁.heap.objs.size (s₁.heap.objs.size+1)).X,s₁.heap.get? y=none/\∃o,D.heap.get? y=some o:=λy hy=>by
  simp only[oh,mem_cons]at hy;rcases hy with rfl|rfl|hy
  .exact⟨Y _ (le_succ _),let⟨o,_,_,e,_⟩:=Oe;⟨o,e⟩⟩
  .exact⟨Y _ (le_refl _),_,getD⟩
  .obtain⟨⟨o,e,_⟩,h2⟩:=I y hy;exact⟨Y _ (by exact ao 0xb112112a110ba0 [_,_] [] h2),o,e⟩
 have EI:∀b∈wr,∃o,s₁.heap.get? b=some o:=λb hb=>hex 0 _ iC b (xO b hb);have Gk:∀b∈fp,∃o,s₁.heap.get? b=some o:=λb hb=>hex 0 _ iC b hb;have cA:∀y∈(oh scope s₁.heap.objs.size (s₁.heap.objs.size+1)).X,y∉wr:=λy hy hm=>by obtain⟨o,e⟩:=EI y hm;rw[(x0 y hy).1]at e;exact ns e
 have zx:∀a∈(oh scope s₁.heap.objs.size (s₁.heap.objs.size+1)).Z,a∈(oh scope s₁.heap.objs.size (s₁.heap.objs.size+1)).X:=λa ha=>by
  simp only[oh,mem_cons]at ha⊢;rcases ha with h|h
  .exact .inl h
  .exact .inr (.inr h)
 have JL:∀x a,(bE scope O (s₁.heap.objs.size+1)).cells.lookup x=some a->(x,a)∈cellsFrom (s₁.heap.objs.size+1+1) scope.names []\/((cellsFrom (s₁.heap.objs.size+1+1) scope.names []).lookup x=none/\O.cells.lookup x=some a):=λx a h=>by
  rw[ip]at h;rcases ny h with h|⟨h,h'⟩
  .exact .inl (mem_of_lookup h)
  .exact .inr ⟨h,eU h'⟩
 have J:∀x a,(x,a)∈cellsFrom (s₁.heap.objs.size+1+1) scope.names []->a∈rB scope (s₁.heap.objs.size+1):=λx a h=>mem_map.mpr ⟨_,h,rfl⟩;have CA:∀x a,O.cells.lookup x=some a->∃o,s₁.heap.get? a=some o:=λx a h=>let⟨o,e⟩:=V.cells x a h;⟨o,dH kp _ _ e⟩;have gY:∀x a,(bE scope O (s₁.heap.objs.size+1)).cells.lookup x=some a->a∉wr:=λx a h hm=>by
  rcases JL x a h with h|⟨_,h⟩
  .obtain⟨o,e⟩:=EI a hm;exact jR (I a (J x a h)).2 (lt_size e)
  .obtain⟨o,e⟩:=V.cells x a h;rw[pJ a hm]at e;exact ns e
 have dt:∀x a,(bE scope O (s₁.heap.objs.size+1)).cells.lookup x=some a->a∉(oh scope s₁.heap.objs.size (s₁.heap.objs.size+1)).X\/a∈(oh scope s₁.heap.objs.size (s₁.heap.objs.size+1)).Z:=λx a h=>by
  rcases JL x a h with h|⟨_,h⟩
  .exact .inr (mem_cons_of_mem _ (J x a h))
  .exact .inl λhm=>by obtain⟨o,e⟩:=CA x a h;rw[(x0 a hm).1]at e;exact ns e
 have apart:∀x y a,(bE scope O (s₁.heap.objs.size+1)).cells.lookup x=some a->(bE scope O (s₁.heap.objs.size+1)).cells.lookup y=some a->x=y:=λx y a hx hy=>by
  rcases JL x a hx with hx|⟨_,hx⟩<;>rcases JL y a hy with hy|⟨_,hy⟩
  .exact name_of_addr ok.apart hx hy
  .obtain⟨o,e⟩:=CA y a hy;exact(jR (I a (J x a hx)).2 (lt_size e)).elim
  .obtain⟨o,e⟩:=CA x a hx;exact(jR (I a (J y a hy)).2 (lt_size e)).elim
  .exact V.apart x y a hx hy
 have Bc:∀x a,(bE scope O (s₁.heap.objs.size+1)).cells.lookup x=some a->∃o,D.heap.get? a=some o:=λx a h=>by
  rcases JL x a h with h|⟨_,h⟩
  .exact let⟨⟨o,e,_⟩,_⟩:=I a (J x a h);⟨o,e⟩
  .exact let⟨o,e⟩:=CA x a h;⟨o,FJ _ _ e⟩
 have ID:Keeps s D:=by refine aQ kp ?_;rw[h3];rw[h3]at FJ;exact bI s₁ FJ
 have EO:∀a o,grow G s s₁ a o->a∉wr->aX G s (wr++(oh scope s₁.heap.objs.size (s₁.heap.objs.size+1)).X) D a o:=by
  rintro a o (h|⟨h1,h2⟩) hw
  .exact .inl h
  .exact .inr ⟨FJ _ _ h1,h2,λhm=>(de hm).elim hw λhm=>by rw[(x0 a hm).1]at h1;exact ns h1⟩
 have PR:St 0 D.heap:=Ah 0 _ _ iC λb _ o e=>FJ b o e;refine⟨⟨cA,λb hb=>(nomatch hb),λ_ _ _ _=>trivial,zx,λb hb=>(nomatch hb),gY,dt⟩,EO,?_,?_⟩
 .exact{
   gd:=V.gd
   rest:=by refine cC ID λh' k' e _=>?_;clear ID;rw[e]
   old:=dH ID
   new:=λx hx=>by
    rcases de hx with hm|hm
    .exact pJ x hm
    .exact bu kp (x0 x hm).1
   ex:=λx hx=>by
    rcases de hx with hm|hm
    .obtain⟨o,e⟩:=EI x hm;exact⟨o,FJ _ _ e⟩
    .exact(x0 x hm).2
   view:={sub:=by
           rintro b p (h|⟨h1,_,_⟩)
           .exact dH ID _ _ (V.sub _ _ h)
           .exact h1
          base:=λb p e=> .inl (V.base b p e)
          toks:=by rw[h3];exact lt_of_lt_of_le V.toks tk
          kind:=hkind
          glob:=V.glob
          fq:=V.fq
          vars:=λx d e=>by
           obtain⟨h1,h2⟩:=eN (p:=isFree scope O) e;refine aq (V.vars x d h2) λv i r=>?_;simp only[isFree,and_eq_true,or_eq_true,beq_iff_eq,not_eq_true']at h1;obtain⟨⟨hf,hk⟩,s6⟩:=h1;refine⟨v,?_,r.mono λa o q=> .inl q⟩;rcases i with⟨q,_⟩|⟨q,a,n,ic⟩
           .rw[q]at hk;rcases hk with hk|hk<;>cases hk
           .refine .inr ⟨?_,a,?_,ic.keeps (dH ID)⟩
            .refine aq (fK (O:=O) hf) λk' z1 z2=>?_;rcases z2 with rfl|⟨_,rfl⟩
             .exact .inr ⟨z1,s6⟩
             .exact .inl z1
            .rw[ip,lookup_append];have CV:(cellsFrom (s₁.heap.objs.size+1+1) scope.names []).lookup x=none:=by
              cases z:(cellsFrom (s₁.heap.objs.size+1+1) scope.names []).lookup x with
              |none=>rfl
              |some b=>
               rcases gz scope.names _ _ z with q|⟨_,q⟩
               .have:=hY x (mem_map.mpr ⟨(x,.cell),mem_filter.mpr ⟨q,rfl⟩,rfl⟩);rw[hf]at this;cases this
               .exact ns q
             rw[CV,Option.none_or];exact qd n scope.names [] (mem_of_lookup hf)
          apart:=apart
          cells:=Bc}
   own:=λe he=>nomatch he
   frame:=⟨.head _,_,Oe⟩
   gR:=λx hx=>by
    have h1:=hY x hx;refine aq (fK (O:=O) h1) λk' z1 z2=>?_;have hk:(bE scope O (s₁.heap.objs.size+1)).kindOf x=some .cell:=by
     rcases z2 with rfl|⟨h,_⟩
     .exact z1
     .cases h
    obtain⟨a,ha⟩:=cY scope.names (s₁.heap.objs.size+1+1) [] (.inl (mem_of_lookup h1));have hm:=J x a (mem_of_lookup ha);refine⟨hk,a,none,?_,mem_cons_of_mem _ hm,(I a hm).1⟩;rw[ip,lookup_append,ha];rfl
   zx:=λa ha=>cv ((zx a ha))
   inv:=⟨trivial,PR,λ_ _ _ e=>e⟩
   eS:=λh h' hj hk=>⟨trivial,Ah _ h h' hj.2.1 λb hb o e=>hk b (d7 hb) o e,
     λb hb o e=>hk b (cv ((d7 hb))) o (hj.2.2 b hb o e)⟩
   jz:=λb hb hm=>by
    rcases de hb with hb|hb
    .obtain⟨o,e⟩:=Gk b hb;rw[(x0 b (zx b hm)).1]at e;exact ns e
    .rcases de hb with hb|hb
     .exact(bl.mp hb).1 (cv ((zx b hm)))
     .cases hb
   gQ:=λb hb=>by
    rcases de hb with hb|hb
    .obtain⟨o,e⟩:=Gk b hb;exact⟨o,FJ _ _ e⟩
    .rcases de hb with hb|hb
     .exact(bl.mp hb).2
     .cases hb
   apart:=apart
   dt:=λx a h=>⟨Bc x a h,by
    rcases dt x a h with q|q
    .exact .inl λhm=>(de hm).elim (gY x a h) q
    .exact .inr q⟩}
 .refine⟨cv ((.tail _ (.head _))),λhm=>?_,λhm=>?_,[],0,getD,by exact rfl⟩
  .simp only[HI,oh,mem_cons]at hm;rcases hm with hm|hm
   .exact absurd hm (ne_of_lt (lt_succ_self _))
   .exact absurd (I _ hm).2 (Nat.not_le.mpr (Nat.lt_succ_of_lt (lt_succ_self _)))
  .rcases de hm with hm|hm
   .obtain⟨o,e⟩:=Gk _ hm;exact absurd (lt_size e) (lt_irrefl _)
   .rcases de hm with hm|hm
    .exact(bl.mp hm).1 (cv ((.tail _ (.head _))))
    .cases hm
theorem n9{scope:Scope}{I:Addr}{fp wr:List Addr}{P:Nat->Value->Prop}{St:Nat->Heap->Prop}{ds:List D}{s₁ z:Shared}(V:Vw c O ρ G s)(kp:Keeps s s₁)(tk:s.toks<=s₁.toks)
 (W:Walks PW c.w A I fp wr ds.length P St)(Y:St 0 s₁.heap)(hex:∀i h,St i h->∀b∈fp,∃o,h.get? b=some o)(J:∀b∈wr,s.heap.get? b=none)
 (hP:∀i v,i<ds.length->P i v->∃d,ds[i]? =some d/\Rep c.w c.C (λa o=>grow G s s₁ a o/\a∉wr) d v)(hT:∃T,iV T=true/\∀i h,St i h->∃o,h.get? I=some o/\o.cls= .type T)
 (hkind:scope.kind= .function)(hY:∀y∈cw scope,scope.names.lookup y=some .cell)
 (h3:z={s₁ with heap:=pushCells ((s₁.heap.push {cls:= .type "list",data:= .seq #[]}).push {cls:= .type "dict",data:= .dict #[]}) scope.names}):
 yy (oh scope s₁.heap.objs.size (s₁.heap.objs.size+1)) wr (bE scope O (s₁.heap.objs.size+1))/\
 tV c A G s (oh scope s₁.heap.objs.size (s₁.heap.objs.size+1)) I fp wr P St z ds/\
 Fs c G s (HI (oh scope s₁.heap.objs.size (s₁.heap.objs.size+1)) wr fp St z 0) (bE scope O (s₁.heap.objs.size+1)) (bo scope O ρ) [] z/\
 Acc c G s (HI (oh scope s₁.heap.objs.size (s₁.heap.objs.size+1)) wr fp St z 0) s₁.heap.objs.size [] z:=by
 refine gO (lY V kp tk W.sub W.frame Y hex J hkind hY h3) λh1 h2 h3 h4=>?_;exact⟨h1,⟨W,hex,λi v hl hv=>let⟨d,e1,e2⟩:=hP i v hl hv;⟨d,e1,e2.mono λa o q=>h2 a o q.1 q.2⟩,hT⟩,h3,h4⟩
theorem tH{elt iter z:Expr}{ifs:List Expr}{gens:List Comprehension}{scope:Scope}{pos:Pos}{ds:List D}{f:D->List D}(act:Env->Addr->ActT)(rest:List Comprehension)(hg:gens=⟨z,iter,ifs,0⟩::rest)(V:Vw c O ρ G s)(hi:tZ c A O ρ G iter ds)
 (hclos:closureFor scope O=pure (f9 scope O))(hkind:scope.kind= .function)(hnames:∀y∈scope.names,y.2= .local->scope.names.lookup y.1=some .local)(hY:∀y∈cw scope,scope.names.lookup y=some .cell)
 (hs:∀x,foldedSetIterable iter O x=pure x)
 (uP:∀e D Q Q' E s,(∀s,Q s->Q' s)->act e D Q E s->act e D Q' E s)
 (kg:∀(J:Env)(I Dn:Addr)(Q:Fin->Shared->Prop)(E:Value->Shared->Prop)(s:Shared),(∃C,J=bE scope O C)->wpAny (model PW c.w) A (pyNext (.ref I)) (λr s₁=>match r with
  |none=>Q (.done .next) s₁
  |some v=>wpAny (model PW c.w) A (letOwnedTupleGo z (.ref I) v) (λ_ ay=>wpAny (model PW c.w) A (assign z J v) (λ_ bB=>wpAny (model PW c.w) A (dJ ifs J) (λok dY=>if ok=true then act J Dn (Q (.again (.compLoop (.ListComp elt gens scope pos) 0 (.ref I) (.ref Dn) J))) E dY else Q (.again (.compLoop (.ListComp elt gens scope pos) 0 (.ref I) (.ref Dn) J)) dY) E bB) E ay) E s₁) E s->
  wpAny (model PW c.w) A (compTurn (.ListComp elt gens scope pos) 0 (.ref I) (.ref Dn) J) Q E s)
 (gM:∀(ah:PH)(af:Shared)(C Dn:Addr)(E':Value->Shared->Prop) d v s(H':Hd)(out:List D),(out++f d).length<=4000000->H'.Y=cw scope->d∈ds->Fs c ah af H' (bE scope O C) (bo scope O ρ) [] s->Rep c.w c.C (aX ah af H'.X s) d v->Acc c ah af H' Dn out s->
  wpAny (model PW c.w) A (assign z (bE scope O C) v) (λ_ ay=>wpAny (model PW c.w) A (dJ ifs (bE scope O C)) (λok bB=>if ok=true then act (bE scope O C) Dn (λdY=>Fs c ah af H' (bE scope O C) (bo scope O ρ) [] dY/\Acc c ah af H' Dn (out++f d) dY) E' bB else(Fs c ah af H' (bE scope O C) (bo scope O ρ) [] bB/\Acc c ah af H' Dn (out++f d) bB)) E' ay) E' s)
 (hlen:(ds.map f).flatten.length<=4000000){use:Option (Value->Sem Unit)}{Q:Value->Shared->Prop}
 (hQ:∀Dn C U,s.heap.get? C=none->Dn≠C->Fs c G s (oh scope Dn C) (bE scope O C) (bo scope O ρ) [] U->Acc c G s (oh scope Dn C) Dn (ds.map f).flatten U->s.toks<=U.toks->compPost (model PW c.w) A E use Q (.ref Dn) C (.ok .next) U):
 wpAny (model PW c.w) A (comprehension (.ListComp elt gens scope pos) scope O (firstIterPos gens pos) (newList []) false (eval iter O) use) Q E s:=by
 subst hg;refine wpAny_comprehension_free (use:=use) rfl hs hclos hkind hnames ?_;refine hi _ E s V λit s₁ kp tk Wd=>?_;refine ru Wd λI fp wr P St oB W iC hex C0 pJ hP hT=>?_;clear Wd;obtain rfl:=oB;refine wpAny_newObj_type ?_ (by show(#[]:Array Value).size<=sizeLine;exact zero_le _);refine eE ?_;have hsz:(s₁.heap.push {cls:= .type "list",dict:=none,data:= .seq ([]:List Value).toArray}).objs.size=s₁.heap.objs.size+1:=size_push ..;refine gO (n9 (scope:=scope) V kp tk W iC hex pJ hP hT hkind hY rfl) λB Wi F1 acc=>?_
 have loop:codeAny (model PW c.w) A (.compLoop (.ListComp elt (⟨z,iter,ifs,0⟩::rest) scope pos) 0 (.ref I) (.ref s₁.heap.objs.size) (bE scope O (s₁.heap.objs.size+1)))
  (compPost (model PW c.w) A E use Q (.ref s₁.heap.objs.size) (s₁.heap.objs.size+1))
  {s₁ with heap:=pushCells ((s₁.heap.push {cls:= .type "list",data:= .seq #[]}).push {cls:= .type "dict",data:= .dict #[]}) scope.names}:=by
  refine codeAny_with_toks (le_refl _) (pY (act _ _) B Wi F1 acc (.tail _ (.head _)) (λh=>nomatch h) (uP _ _) (λQ E s h=>kg _ I _ Q E s ⟨_,rfl⟩ h) (λE' d v U H' out ho hZ BL hd F r a=>gM _ _ _ _ E' d v U H' out ho BL hd F r a) (by simpa using hlen) (λU F' a' tk'=>?_));rw[nil_append]at a';exact hQ _ _ U (F'.new _ (.head _)) (ne_of_lt (lt_succ_self _)) F' a' (le_trans tk tk')
 have s8:=codeAny_compStart_list (it:= .ref I) loop (W.self 0 _ _ _ F1.inv.2.1 loop);have Ai:({({scope,locals:=(s₁.heap.push {cls:= .type "list",dict:=none,data:= .seq ([]:List Value).toArray}).objs.size,globals:=O.globals,cells:=cellsFrom ((s₁.heap.push {cls:= .type "list",dict:=none,data:= .seq ([]:List Value).toArray}).objs.size+1) scope.names (f9 scope O),qual:=O.qual,func:=none,code:=O.code,frame:=O.frame,builtins:=O.builtins}:Env)with scope:=relabel scope O}:Env)=bE scope O (s₁.heap.objs.size+1):=by rw[hsz];rfl
 have key:∀(C':Nat)(e':Env),C'=s₁.heap.objs.size+1->e'=bE scope O (s₁.heap.objs.size+1)->
  codeAny (model PW c.w) A (.compStart (.ListComp elt (⟨z,iter,ifs,0⟩::rest) scope pos) 0 (.ref I) (.ref s₁.heap.objs.size) e')
  (compPost (model PW c.w) A E use Q (.ref s₁.heap.objs.size) C')
  {s₁ with heap:=pushCells ((s₁.heap.push {cls:= .type "list",data:= .seq #[]}).push {cls:= .type "dict",data:= .dict #[]}) scope.names}:=by
  rintro C' e' rfl rfl;exact s8
 exact key _ _ hsz Ai
theorem pX{elt iter J:Expr}{ifs:List Expr}{z:List Comprehension}{scope:Scope}{pos:Pos}{ds:List D}{f:D->List D}(act:Env->Addr->ActT)(rest:List Comprehension)(hg:z=⟨J,iter,ifs,0⟩::rest)(hi:tZ c A O ρ G iter ds)
 (hclos:closureFor scope O=pure (f9 scope O))(hkind:scope.kind= .function)(hnames:∀y∈scope.names,y.2= .local->scope.names.lookup y.1=some .local)(hY:∀y∈cw scope,scope.names.lookup y=some .cell)
 (hs:∀x,foldedSetIterable iter O x=pure x)
 (uP:∀e D Q Q' E s,(∀s,Q s->Q' s)->act e D Q E s->act e D Q' E s)
 (kg:∀(jv:Env)(I Dn:Addr)(Q:Fin->Shared->Prop)(E:Value->Shared->Prop)(s:Shared),(∃C,jv=bE scope O C)->wpAny (model PW c.w) A (pyNext (.ref I)) (λr s₁=>match r with
  |none=>Q (.done .next) s₁
  |some v=>wpAny (model PW c.w) A (letOwnedTupleGo J (.ref I) v) (λ_ ay=>wpAny (model PW c.w) A (assign J jv v) (λ_ bB=>wpAny (model PW c.w) A (dJ ifs jv) (λok dY=>if ok=true then act jv Dn (Q (.again (.compLoop (.ListComp elt z scope pos) 0 (.ref I) (.ref Dn) jv))) E dY else Q (.again (.compLoop (.ListComp elt z scope pos) 0 (.ref I) (.ref Dn) jv)) dY) E bB) E ay) E s₁) E s->
  wpAny (model PW c.w) A (compTurn (.ListComp elt z scope pos) 0 (.ref I) (.ref Dn) jv) Q E s)
 (gM:∀(ah:PH)(af:Shared)(C Dn:Addr)(E':Value->Shared->Prop) d v s(H':Hd)(out:List D),(out++f d).length<=4000000->H'.Y=cw scope->d∈ds->Fs c ah af H' (bE scope O C) (bo scope O ρ) [] s->Rep c.w c.C (aX ah af H'.X s) d v->Acc c ah af H' Dn out s->
  wpAny (model PW c.w) A (assign J (bE scope O C) v) (λ_ ay=>wpAny (model PW c.w) A (dJ ifs (bE scope O C)) (λok bB=>if ok=true then act (bE scope O C) Dn (λdY=>Fs c ah af H' (bE scope O C) (bo scope O ρ) [] dY/\Acc c ah af H' Dn (out++f d) dY) E' bB else(Fs c ah af H' (bE scope O C) (bo scope O ρ) [] bB/\Acc c ah af H' Dn (out++f d) bB)) E' ay) E' s)
 (hlen:(ds.map f).flatten.length<=4000000):
 Ev c A O ρ G (.ListComp elt z scope pos) (.list (ds.map f).flatten):= .mk λE s V=>by
 rw[arm_eval_ListComp];have Gb:firstAsync z=false:=by rw[hg];rfl
 have Kw:firstIter z O=eval iter O:=by rw[hg];rfl
 show wpAny _ A (comprehension (.ListComp elt z scope pos) scope O (firstIterPos z pos) (newList []) (firstAsync z) (firstIter z O)) _ E s;rw[Gb,Kw];refine tH (E:=E) act rest hg V hi hclos hkind hnames hY hs uP kg gM hlen (use:=none) λDn C U yw C8 F' a' _=>?_;obtain⟨m,hm⟩:=F'.frame.2;refine⟨m,hm,λh' sb=>?_⟩;have BN:s.heap.get? Dn=none:=F'.new _ (.tail _ (.head _));have hr:=F'.rest;have kk:Keeps s {U with heap:=h'}:=by refine⟨h',U.toks,?_,λb o e=>(sb.2 b (λq=>by rw[q]at e;rw[yw]at e;exact ns e)).trans (F'.old b o e)⟩;rw[hr]
 refine⟨kk,?_⟩;refine cC a'.obj λvs n ho l=>?_;show ∃_,_;refine⟨Dn,vs,n,rfl,.inr ⟨(sb.2 _ C8).trans ho,BN⟩,l.mono ?_⟩;rintro a o (h|⟨h1,h2,h3⟩)
 .exact .inl h
 .exact .inr ⟨(sb.2 a (λq=>h3 (by rw[q];exact .head _))).trans h1,h2⟩
structure tW(c:Cx)(A:Around)(O:Env)(ρ:List (Str×D))(G:PH)(ifs:List Expr)(b:Bool):Prop where
 h:∀E s,Vw c O ρ G s->wpAny (model PW c.w) A (dJ ifs O) (λr U=>r=b/\Keeps s U) E s
theorem aR:tW c A O ρ G [] true:= .mk λE s V=>wpAny_tests_nil ⟨rfl,bj _⟩
theorem ee{e:Expr}{b:Bool}(h:jt c A O ρ G e b):tW c A O ρ G [e] b:= .mk λE s V=>wpAny_tests_one (h.1 E s V)
theorem bW{p:D->Bool}{g:D->D}:∀ds:List D,(ds.map λd=>if p d=true then [g d]else []).flatten=(ds.filter p).map g
 |[]=>rfl
 |d::ds=>by rw[map_cons,flatten_cons,bW ds,filter_cons];cases p d<;>rfl
theorem aD{n:Nat}(h:n<=4000000):sizeOk n=true:=by unfold sizeOk;exact ble_eq_true_of_le (by exact ao 0x3d090062a0100000072a0 [_] [] h)
theorem bJ{elt iter z:Expr}{ifs:List Expr}{scope:Scope}{pos:Pos}{ds:List D}(p:D->Bool)(g:D->D)(ρd:D->List (Str×D))(hi:tZ c A O ρ G iter ds)
 (hclos:closureFor scope O=pure (f9 scope O))(hkind:scope.kind= .function)(hnames:∀y∈scope.names,y.2= .local->scope.names.lookup y.1=some .local)(hY:∀y∈cw scope,scope.names.lookup y=some .cell)
 (hs:∀x,foldedSetIterable iter O x=pure x)
 (ha:∀C H d,H.Y=cw scope->d∈ds->wQ c A H (bE scope O C) [] z d (bo scope O ρ) (ρd d))
 (hback:∀d∈ds,∀x e,(bo scope O ρ).lookup x=some e->(ρd d).lookup x=some e)
 (ht:∀C G d,d∈ds->tW c A (bE scope O C) (ρd d) G ifs (p d))
 (he:∀C G d,d∈ds->p d=true->Ev c A (bE scope O C) (ρd d) G elt (g d))(hlen:ds.length<=4000000):
 Ev c A O ρ G (.ListComp elt [⟨z,iter,ifs,0⟩] scope pos) (.list ((ds.filter p).map g)):=by
 rw[<-bW]
 refine pX (λJ Dn Q E s=>wpAny (model PW c.w) A (eval elt J) (λx fX=>wpAny (model PW c.w) A (call (.builtin "list.append") [.ref Dn,x]) (λ_ jY=>Q jY) E fX) E s) [] rfl hi hclos hkind hnames hY hs
  (λe D Q Q' E s h hq=>wpAny_mono hq (λ_ _ h'=>wpAny_mono h' (λ_ _ q=>h _ q) λ_ _ e=>e) λ_ _ e=>e)
  (λJ I Dn Q E s _ h=>iK (fm elt z iter ifs scope pos (.ref I) (.ref Dn) J) h) ?_ ?_
 .intro ah af C Dn E' d v s H' out ho BL hd F r a;refine wpAny_mono (ha C H' d BL hd ah af E' s v F r) (λ_ ay gL=>?_) λ_ _ e=>e;obtain⟨F2,hk⟩:=gL;have a2:=a.xn F hk;refine wpAny_mono (wpAny_toks ((ht C _ d hd).1 E' ay F2.view)) (λok bB jc=>?_) λ_ _ e=>e.2;obtain⟨tk,rfl,kp⟩:=jc;have F3:=F2.keeps kp tk;have a3:=a2.keeps F2 kp;cases hp:p d with
  |false=>rw[if_neg Bool.false_ne_true,if_neg Bool.false_ne_true,append_nil];exact⟨F3.less (hback d hd) (λ_ h=>h),a3⟩
  |true=>rw[if_pos rfl,if_pos rfl];refine wpAny_mono (wpAny_toks ((he C _ d hd hp).1 E' bB F3.view)) (λx fX q=>?_) λ_ _ e=>e.2;have F5:=F3.keeps q.2.1 q.1;have a5:=a3.keeps F3 q.2.1;exact a5.push F5 (F3.up q.2) (aD (by rw[length_append]at ho;exact ao 0x3d090062ba103d090062a0 [_,_] [] ho)) (λu qD F6 a6=>⟨F6.less (hback d hd) (λ_ h=>h),a6⟩)
 .have:(ds.map λd=>if p d=true then [g d]else []).flatten=(ds.filter p).map g:=bW ds;rw[this,length_map];exact le_trans (length_filter_le _ _) hlen
theorem DA{Y D iter z I:Expr}{ifs J:List Expr}{scope:Scope}{pos:Pos}{it acc:Value}{R:Result->Shared->Prop}{prog:Program}{w:World}
 (h0:codeAny (model prog w) A (.compLoop (.ListComp Y [⟨D,iter,ifs,0⟩,⟨z,I,J,0⟩] scope pos) 1 it acc O) R s)
 (h:wpAny (model prog w) A (pyIter it) (λOm U=>codeAny (model prog w) A (.compLoop (.ListComp Y [⟨D,iter,ifs,0⟩,⟨z,I,J,0⟩] scope pos) 1 Om acc O) R U) (notedBy (model prog w) A O λx U=>R (.error x) U) s):
 codeAny (model prog w) A (.compStart (.ListComp Y [⟨D,iter,ifs,0⟩,⟨z,I,J,0⟩] scope pos) 1 it acc O) R s:=by
 refine codeAny_of_tree ?_;show wpAny _ _ ((compStart (.ListComp Y [⟨D,iter,ifs,0⟩,⟨z,I,J,0⟩] scope pos) 1 it acc O).onRaise (λx=>do noteFrame x O;standAt theWindowsPlace)) _ _ s;refine wpAny_notedAt ?_;unfold compStart;show wpAny _ _ (ask>>=_) _ _ s;refine wpAny_bind (wpAny_askSetting (wpAny_ite ?_));split
 .first
   |exact wpAny_bind (wpAny_pure (wpAny_pure (And.intro rfl h0)))
   |exact wpAny_pure (And.intro rfl h0)
 .refine wpAny_bind (wpAny_rule ?_);show wpAny _ _ (standAt I.pos>>=_) _ _ s;exact wpAny_bind (wpAny_standAt (wpAny_bind (wpAny_mono h (λOm U h'=>wpAny_pure (And.intro rfl h')) λ_ _ x=>x)))
theorem Acc.iter{wr fp:List Addr}{St:Nat->Heap->Prop}{s₁:Shared}(a:Acc c ah af H Dn out s)(Y:Keeps s s₁)(I:∀b∈fp,(∃o,aX ah af H.X s b o)\/s.heap.get? b=none)(D:∀b∈wr,s.heap.get? b=none)
 (hg:∀a o,ah a o->af.heap.get? a=some o)(hn:af.heap.get? Dn=none):Acc c ah af (HI H wr fp St s₁ 0) Dn out s₁:=by
 refine cC a.obj λvs n ho l=>?_;refine⟨cv (a.x),a.z,λhm=>?_,vs,n,dH Y _ _ ho,l.mono ?_⟩
 .rcases de hm with hm|hm
  .rcases I _ hm with⟨o,h|⟨_,_,h⟩⟩|h
   .rw[hg _ _ h]at hn;exact sn hn
   .exact h a.x
   .rw[ho]at h;exact sn h
  .rcases de hm with hm|hm
   .exact(bl.mp hm).1 (cv (a.x))
   .exact a.fp hm
 .rintro b o (h|⟨J,h2,h3⟩)
  .exact .inl h
  .exact .inr ⟨dH Y _ _ J,h2,λhm=>(de hm).elim (λhw=>by rw[D b hw]at J;exact ns J) h3⟩
theorem nZ{elt iter target lT J:Expr}{ifs xJ:List Expr}{scope:Scope}{pos:Pos}{ds:List D}(p:D->Bool)(ρd:D->List (Str×D))(ds2:D->List D)(q:D->D->Bool)(g:D->D->D)(ρe:D->D->List (Str×D))(hi:tZ c A O ρ G iter ds)
 (hclos:closureFor scope O=pure (f9 scope O))(hkind:scope.kind= .function)(hnames:∀y∈scope.names,y.2= .local->scope.names.lookup y.1=some .local)(hY:∀y∈cw scope,scope.names.lookup y=some .cell)
 (hs:∀x,foldedSetIterable iter O x=pure x)(hs2:∀C x,foldedSetIterable lT (bE scope O C) x=pure x)
 (ha:∀C H d,H.Y=cw scope->d∈ds->wQ c A H (bE scope O C) [] target d (bo scope O ρ) (ρd d))
 (hback:∀d∈ds,∀x e,(bo scope O ρ).lookup x=some e->(ρd d).lookup x=some e)
 (ht:∀C G d,d∈ds->tW c A (bE scope O C) (ρd d) G ifs (p d))
 (hi2:∀C G d,d∈ds->p d=true->tZ c A (bE scope O C) (ρd d) G lT (ds2 d))
 (ha2:∀C H d e,H.Y=cw scope->d∈ds->p d=true->e∈ds2 d->wQ c A H (bE scope O C) [] J e (ρd d) (ρe d e))
 (hback2:∀d∈ds,p d=true->∀e∈ds2 d,∀x z,(ρd d).lookup x=some z->(ρe d e).lookup x=some z)
 (ht2:∀C G d e,d∈ds->p d=true->e∈ds2 d->tW c A (bE scope O C) (ρe d e) G xJ (q d e))
 (he:∀C G d e,d∈ds->p d=true->e∈ds2 d->q d e=true->Ev c A (bE scope O C) (ρe d e) G elt (g d e))
 (hlen:(ds.map λd=>if p d=true then((ds2 d).filter (q d)).map (g d)else []).flatten.length<=4000000):
 Ev c A O ρ G (.ListComp elt [⟨target,iter,ifs,0⟩,⟨J,lT,xJ,0⟩] scope pos) (.list (ds.map λd=>if p d=true then((ds2 d).filter (q d)).map (g d)else []).flatten):=by
 refine pX (λjv Dn Q E s=>wpAny (model PW c.w) A (eval lT jv) (λx fX=>wpAny (model PW c.w) A (pyIter x) (λKj qD=>
         wpAny (model PW c.w) A (runOwn (.compStart (.ListComp elt [⟨target,iter,ifs,0⟩,⟨J,lT,xJ,0⟩] scope pos) 1 Kj (.ref Dn) jv) jv) (λ_ jY=>Q jY) E qD) E fX) E s) [⟨J,lT,xJ,0⟩] rfl hi hclos hkind hnames hY hs
  (λe D Q Q' E s h hq=>wpAny_mono hq (λ_ _ h'=>wpAny_mono h' (λ_ _ h'=>wpAny_mono h' (λ_ _ q=>h _ q) λ_ _ e=>e) λ_ _ e=>e) λ_ _ e=>e)
  (λjv I Dn Q E s hC h=>yK h (by obtain⟨C,rfl⟩:=hC;exact hs2 C)) ?_ hlen
 intro ah af C Dn E' d v s H' out ho BL hd F r a;refine wpAny_mono (ha C H' d BL hd ah af E' s v F r) (λ_ ay gL=>?_) λ_ _ e=>e;obtain⟨F2,hk⟩:=gL;have a2:=a.xn F hk;refine wpAny_mono (wpAny_toks ((ht C _ d hd).1 E' ay F2.view)) (λok bB jc=>?_) λ_ _ e=>e.2;obtain⟨tk,rfl,kp⟩:=jc;have F3:=F2.keeps kp tk;have a3:=a2.keeps F2 kp;cases hp:p d with
 |false=>rw[if_neg Bool.false_ne_true,if_neg Bool.false_ne_true,append_nil];exact⟨F3.less (hback d hd) (λ_ h=>h),a3⟩
 |true=>
  rw[if_pos rfl,if_pos rfl];refine hi2 C _ d hd hp _ E' bB F3.view λit dY FI PO Wd=>?_;refine ru Wd λI fp wr P St oB W iC hex C0 pJ hP hT=>?_;clear Wd;obtain rfl:=oB;have F4:=F3.iter (wr:=wr) (fp:=fp) (St:=St) (i:=0) W.sub FI PO iC hex W.frame C0 pJ;have a4:Acc c ah af (HI H' wr fp St dY 0) Dn out dY:=a3.iter FI C0 pJ F3.gd.sub (F3.new _ a3.x);have Wi:tV c A ah af H' I fp wr P St dY (ds2 d):=⟨W,hex,λi v hl hv=>by
   refine aq (hP i v hl hv) λe h1 h2=>?_;refine⟨e,h1,h2.mono ?_⟩;rintro b o ⟨gg,L7⟩;rcases bF F3.ex F3.old FI b o gg with h|⟨h1,h2,h3⟩
   .exact .inl h
   .exact .inr ⟨h1,h2,λhm=>(de hm).elim L7 h3⟩,hT⟩
  have Hv:((ds2 d).map λe=>if q d e=true then [g d e]else []).flatten=((ds2 d).filter (q d)).map (g d):=bW _;refine wpAny_runOwn (h:=none) ?_
  have loop:codeAny (model PW c.w) A (.compLoop (.ListComp elt [⟨target,iter,ifs,0⟩,⟨J,lT,xJ,0⟩] scope pos) 1 (.ref I) (.ref Dn) (bE scope O C))
   (λr U=>match r with| .ok _=>Fs c ah af H' (bE scope O C) (bo scope O ρ) [] U/\Acc c ah af H' Dn (out++((ds2 d).filter (q d)).map (g d)) U| .error e=>cameBackBy (model PW c.w) A (bE scope O C) E' e U) dY:=by
   refine pY (f:=λe=>if q d e=true then [g d e]else []) (λQ E s=>wpAny (model PW c.w) A (eval elt (bE scope O C)) (λx fX=>wpAny (model PW c.w) A (call (.builtin "list.append") [.ref Dn,x]) (λ_ jY=>Q jY) E fX) E s) (F3.z0 pJ) Wi F4 a4 a3.x a3.fp
    (λQ Q' E s h hq=>wpAny_mono hq (λ_ _ h'=>wpAny_mono h' (λ_ _ q=>h _ q) λ_ _ e=>e) λ_ _ e=>e)
    (λQ E s h=>iK (oO elt target iter J lT ifs xJ scope pos (.ref I) (.ref Dn) (bE scope O C)) h) ?_ ?_ ?_
   .intro E2 e v s H2 PX FY hZ OO BK F r a;refine wpAny_mono (ha2 C H2 d e (OO.trans BL) hd hp BK ah af E2 s v F r) (λ_ ay gL=>?_) λ_ _ e=>e;obtain⟨F2,hk⟩:=gL;have a2:=a.xn F hk;refine wpAny_mono (wpAny_toks ((ht2 C _ d e hd hp BK).1 E2 ay F2.view)) (λok bB jc=>?_) λ_ _ e=>e.2;obtain⟨tk,rfl,kp⟩:=jc;have F3:=F2.keeps kp tk;have a3:=a2.keeps F2 kp;cases hq:q d e with
    |false=>rw[if_neg Bool.false_ne_true,if_neg Bool.false_ne_true,append_nil];exact⟨F3.less (hback2 d hd hp e BK) (λ_ h=>h),a3⟩
    |true=>rw[if_pos rfl,if_pos rfl];refine wpAny_mono (wpAny_toks ((he C _ d e hd hp BK hq).1 E2 bB F3.view)) (λx fX qq=>?_) λ_ _ e=>e.2;have F5:=F3.keeps qq.2.1 qq.1;have a5:=a3.keeps F3 qq.2.1;exact a5.push F5 (F3.up qq.2) (aD (by rw[length_append]at FY;exact ao 0x3d090062ba103d090062a0 [_,_] [] FY)) (λu qD F6 a6=>⟨F6.less (hback2 d hd hp e BK) (λ_ h=>h),a6⟩)
   .rw[Hv,<-length_append];have OE:(out++if p d=true then((ds2 d).filter (q d)).map (g d)else []).length<=4000000:=ho;rw[if_pos hp]at OE;exact OE
   .intro U F' a';rw[Hv]at a';exact⟨F'.less (hback d hd) (λ_ h=>h),a'⟩
  refine codeAny_mono (DA loop (W.self 0 _ _ _ iC loop)) λr U h=>?_;cases r with
  |ok f=>exact h
  |error e=>exact h
noncomputable def bG(scope:Scope)(qn:Str)(L a:Addr)(z:Value):Env:=
 newEnv scope L mainGlobals (cellsFrom (L+1) scope.names []) (qn++".<locals>.") (some a) z none builtinsNs
structure gi(c:Cx)(v:Value)(ps:List Str)(scope:Scope)(body:List Stmt)(qn:Str):Prop where
 ex:∃a o fd,v= .ref a/\c.h₀.get? a=some o/\o.data= .func fd/\fd.body= .stmts body/\fd.scope=scope/\fd.globals=mainGlobals/\fd.builtins=builtinsNs/\fd.closure=[]/\
  c.h₀.CodeRec fd.code fd.qualname/\fd.qualname=qn/\∀vals:List Value,vals.length=ps.length->bindArgs fd ⟨vals,[]⟩=pure (ps.zip vals)
theorem gi.plain{c:Cx}{v:Value}{ps:List Str}{scope:Scope}{body:List Stmt}{qn:Str}(f:gi c v ps scope body qn):Plain c v:=by refine k8 f.ex λa o fd z I D _=>?_;obtain rfl:=z;exact .f a o fd I D
theorem tR{kindOf:Str->Option NameKind}:∀{binds:List (Str×Value)}{m:Str->Option Value}{x:Str},kindOf x=some .local->x∉binds.map (·.1)->bindL kindOf binds m x=m x
 |[],_,_,_,_=>rfl
 |(n,v)::r,m,x,D,z=>by
  simp only[map_cons,mem_cons,not_or]at z;unfold bindL;rw[tR D z.2];split
  .simp[z.1]
  .rfl
theorem qj{kindOf:Str->Option NameKind}:∀{binds:List (Str×Value)}{m:Str->Option Value}{x:Str}{v:Value},kindOf x=some .local->(binds.map (·.1)).Nodup->(x,v)∈binds->bindL kindOf binds m x=some v
 |[],_,_,_,_,_,h=>nomatch h
 |(n,u)::r,m,x,v,z,hn,h=>by
  simp only[map_cons,nodup_cons]at hn;rcases dg h with e|h
  .cases e;unfold bindL;rw[tR z hn.1,if_pos z];simp
  .unfold bindL;exact qj z hn.2 h
theorem tS{kindOf:Str->Option NameKind}:∀{binds:List (Str×Value)}{m:Str->Option Value}{x:Str},x∉binds.map (·.1)->bindC kindOf binds m x=m x
 |[],_,_,_=>rfl
 |(n,v)::r,m,x,z=>by
  simp only[map_cons,mem_cons,not_or]at z;unfold bindC;rw[tS z.2];split
  .rfl
  .simp[z.1]
theorem qo{kindOf:Str->Option NameKind}:∀{binds:List (Str×Value)}{m:Str->Option Value}{x:Str}{v:Value},kindOf x=some .cell->(binds.map (·.1)).Nodup->(x,v)∈binds->bindC kindOf binds m x=some v
 |[],_,_,_,_,_,h=>nomatch h
 |(n,u)::r,m,x,v,z,hn,h=>by
  simp only[map_cons,nodup_cons]at hn;rcases dg h with e|h
  .cases e;unfold bindC;rw[tS hn.1,if_neg (by rw[z];decide)];simp
  .unfold bindC;exact qo z hn.2 h
theorem mB{ps:List Str}:∀{ds:List D}{vs:List Value}{x:Str}{d:D},aE c.w c.C G ds vs->(ps.zip ds).lookup x=some d->∃v,(x,v)∈ps.zip vs/\Rep c.w c.C G d v:=by
 induction ps with
 |nil=>intro ds vs x d _ h;exact ns h
 |cons p ps J=>
  intro ds vs x d l h;cases ds with
  |nil=>exact ns h
  |cons e ds=>
   refine bD l ?_;clear l;intro u r z q l;obtain rfl:=z;simp only[zip_cons_cons,lookup_cons]at h⊢;by_cases I:x=p
   .subst I;simp only[BEq.rfl]at h;obtain rfl:=bg h;exact⟨u,.head _,q⟩
   .rw[show(x==p)=false from by simpa using I]at h;refine aq (J l h) λv h1 Y=>?_;exact⟨v,.tail _ h1,Y⟩
noncomputable def jS(scope:Scope)(L:Addr):List Addr:=(cellsFrom (L+1) scope.names []).filterMap λp=>(cellsFrom (L+1) scope.names []).lookup p.1
theorem nv{scope:Scope}{L b:Addr}:b∈jS scope L->∃n,(cellsFrom (L+1) scope.names []).lookup n=some b:=λh=>by refine aq (mem_filterMap.mp h) λp _ h=>?_;exact⟨p.1,h⟩
theorem hV{scope:Scope}{L b:Addr}{n:Str}(h:(cellsFrom (L+1) scope.names []).lookup n=some b):b∈jS scope L:=mem_filterMap.mpr ⟨(n,b),mem_of_lookup h,h⟩
noncomputable def iG(scope:Scope)(L:Addr):Hd:={X:=L::jS scope L,Z:=L::jS scope L,Y:=cw scope,fp:=[],J:=λ_=>True}
noncomputable def j0:Flow->Value
 | .ret v=>v
 |_=> .none
theorem vf{scope:Scope}{qn:Str}{L a:Addr}{cd:Value}{ps:List Str}{ds:List D}{vs:List Value}(g:Gd c G s)(l:aE c.w c.C G ds vs)(hkind:scope.kind= .function)(rM:ps.Nodup)
 (BE:∀x∈ps,scope.names.lookup x=some .local\/scope.names.lookup x=some .cell)(hY:∀y∈cw scope,scope.names.lookup y=some .cell)(hlen:ps.length=vs.length)(hL:L=s.heap.objs.size)
 (x:InCallC s L (bindL (bG scope qn L a cd).kindOf (ps.zip vs) λ_=>none) (cellsFrom (L+1) scope.names []) (bindC (bG scope qn L a cd).kindOf (ps.zip vs) λ_=>none) U)(tk:s.toks<=U.toks):
 Fs c G s (iG scope L) (bG scope qn L a cd) (ps.zip ds) [] U:=by
 have Lv:∀b∈jS scope L,L<b:=λb hb=>by obtain⟨n,Y⟩:=nv hb;exact x.above n b (mem_of_lookup Y)
 have new:∀y∈(iG scope L).X,s.heap.get? y=none:=λy J=>by
  simp only[iG,mem_cons]at J;refine get?_none_of_le ?_;rcases J with rfl|J
  .exact le_of_eq hL.symm
  .exact Nat.le_of_lt (hL▸Lv y J)
 have cellAt:∀b∈jS scope L,∃o,U.heap.get? b=some o:=λb hb=>by obtain⟨n,Y⟩:=nv hb;refine aq (x.cell n b Y) λo e _=>?_;exact⟨o,e⟩
 have kk:Keeps s U:=by refine oM x.toInCall.same λh t e=>?_;exact⟨h,t,e,λb o q=>by have:=x.toInCall.keep b o q;rw[e]at this;exact this⟩
 have Mw:(bG scope qn L a cd).cells=cellsFrom (L+1) scope.names []:=rfl;have apart:∀x' y b,(bG scope qn L a cd).cells.lookup x'=some b->(bG scope qn L a cd).cells.lookup y=some b->x'=y:=λx' y b Y h2=>name_of_addr x.apart (mem_of_lookup Y) (mem_of_lookup h2);have I:∀x' b,(bG scope qn L a cd).cells.lookup x'=some b->∃o,U.heap.get? b=some o:=λx' b h=>let⟨o,e,_⟩:=x.cell x' b h;⟨o,e⟩;have z:((ps.zip vs).map (·.1)).Nodup:=by rw[map_fst_zip (le_of_eq hlen)];exact rM
 exact{
  gd:=g
  rest:=by refine cC kk λh t e _=>?_;clear kk;rw[e]
  old:=dH kk
  new:=new
  ex:=λy J=>by
   simp only[iG,mem_cons]at J;rcases J with rfl|J
   .refine fR x.toInCall.ns λo _ _ e _=>?_;exact⟨o,e⟩
   .exact cellAt y J
  view:={sub:=by
          rintro b p (h|⟨Y,_,_⟩)
          .exact dH kk _ _ (g.sub _ _ h)
          .exact Y
         base:=λb p e=> .inl (g.base b p e)
         toks:=lt_of_lt_of_le g.toks tk
         kind:=hkind
         glob:=rfl
         fq:=rfl
         vars:=λy d e=>by
          refine aq (mB l e) λv Y h2=>?_;refine⟨v,?_,h2.mono λa o q=> .inl q⟩;have J:y∈ps:=(of_mem_zip Y).1;rcases BE y J with hk|hk
          .exact .inl ⟨hk,_,x.toInCall.ns,qj (kindOf:=(bG scope qn L a cd).kindOf) hk z Y⟩
          .obtain⟨b,hb⟩:=cY scope.names (L+1) [] (.inl (mem_of_lookup hk));refine .inr ⟨.inl hk,b,hb,?_⟩;have:=x.cell y b hb;rw[qo (kindOf:=(bG scope qn L a cd).kindOf) hk z Y]at this;exact this
         apart:=apart
         cells:=I}
  own:=λe he=>nomatch he
  frame:=⟨.head _,_,x.toInCall.ns⟩
  gR:=λy J=>by have hk:=hY y J;obtain⟨b,hb⟩:=cY scope.names (L+1) [] (.inl (mem_of_lookup hk));exact⟨hk,b,_,hb,.tail _ (hV hb),x.cell y b hb⟩
  zx:=λb hb=>hb
  inv:=trivial
  eS:=λ_ _ _ _=>trivial
  jz:=λb hb=>nomatch hb
  gQ:=λb hb=>nomatch hb
  apart:=apart
  dt:=λy b h=>⟨I y b h,.inr (.tail _ (hV h))⟩}
theorem mn(B:c.B)(R:aL A (k+1)){v:Value}{ps:List Str}{scope:Scope}{body:List Stmt}{qn:Str}(f:gi c v ps scope body qn){ds:List D}{vs:List Value}{Q:Value->Shared->Prop}(hlen:ds.length=ps.length)
 (hkind:scope.kind= .function)(pK:scope.isCoroutine=false)(uL:scope.isGenerator=false)(rM:ps.Nodup)
 (Y:∀x∈ps,scope.names.lookup x=some .local\/scope.names.lookup x=some .cell)(hY:∀y∈cw scope,scope.names.lookup y=some .cell)(g:Gd c G s)(l:aE c.w c.C G ds vs)
 (hb:∀(A':Around)(a:Addr)(cd:Value)(E':Value->Shared->Prop)(U:Shared)(Q':Flow->Shared->Prop),aL A' k->v= .ref a->(∃o fd,c.h₀.get? a=some o/\o.data= .func fd/\fd.code=cd)->(∀fl cP,Q (j0 fl) cP->Q' fl cP)->
  Fs c G s (iG scope s.heap.objs.size) (bG scope qn s.heap.objs.size a cd) (ps.zip ds) [] U->wpAny (model PW c.w) A' (execs body (bG scope qn s.heap.objs.size a cd)) Q' E' U):
 wpAny (model PW c.w) A (call v vs) Q E s:=by
 refine Eu f.ex λa o fd mh h1 h2 z HV hg QY Mu Mt J I=>?_;obtain rfl:=mh;obtain rfl:=HV;obtain rfl:=J;have hl:vs.length=ps.length:=l.length.trans hlen;refine wpAny_call (codeAny_call_function (by have:=R.depth;have:recursionLimit=1000:=rfl;lia) (g.old _ _ h1) h2 pK uL z (Mt.keeps g.old) ?_);rw[I vs hl,Mu];have Mc:∀x∈ps.zip vs,fd.scope.names.lookup x.1=some .local\/(fd.scope.names.lookup x.1=some .cell/\((cellsFrom (s.heap.objs.size+1) fd.scope.names []).lookup x.1).isSome=true):=λx hx=>by
  rcases Y x.1 (of_mem_zip hx).1 with h|h
  .exact .inl h
  .obtain⟨b,hb⟩:=cY fd.scope.names (s.heap.objs.size+1) [] (.inl (mem_of_lookup h));exact .inr ⟨h,by rw[hb];rfl⟩
 refine wpAny_pure (wpAny_with_toks (le_refl s.toks) (wpAny_newFunctionEnv_cells hkind Mc λO he U x tk=>?_));subst he;rw[hg,QY]at x⊢;refine⟨B.nolimit.keeps λb o e=>x.toInCall.keep b o (g.old b o e),codeAny_func ?_⟩;refine wpAny_mono (hb (A.deeper (bG fd.scope fd.qualname s.heap.objs.size a fd.code)) a fd.code _ U (λfl cP=>Q (j0 fl) cP) R.deeper rfl ⟨o,fd,h1,h2,rfl⟩ (λ_ _ q=>q) (vf g l hkind rM Y hY hl.symm rfl x tk)) (λfl cP h=>?_) λ_ _ e=>e;cases fl<;>exact h
theorem br(B:c.B)(R:aL A (k+1)){v:Value}{ps:List Str}{scope:Scope}{body:List Stmt}{qn:Str}(f:gi c v ps scope body qn){ds:List D}{d:D}(hlen:ds.length=ps.length)
 (hkind:scope.kind= .function)(pK:scope.isCoroutine=false)(z:scope.isGenerator=false)(rM:ps.Nodup)
 (Y:∀x∈ps,scope.names.lookup x=some .local\/scope.names.lookup x=some .cell)(hY:∀y∈cw scope,scope.names.lookup y=some .cell)
 (hb:∀(J:Around)(L a:Addr)(I:Value)(G:PH)(E:Value->Shared->Prop)(af s:Shared)(Q:Flow->Shared->Prop),(∀fl U H' bP cq,Fs c G af H' (bG scope qn L a I) bP cq U->Rep c.w c.C (aX G af H'.X U) d (j0 fl)->Q fl U)->
  aL J k->Fs c G af (iG scope L) (bG scope qn L a I) (ps.zip ds) [] s->wpAny (model PW c.w) J (execs body (bG scope qn L a I)) Q E s):
 Callee c A v ds d:=λE s G vs g l=>
 mn B R f hlen hkind pK z rM Y hY g l λJ a I E' U Q' R' _ _ hq F=>hb J _ a I G E' s U Q' (λfl cP H' bP cq F' r=>hq fl cP ⟨⟨cP.heap,cP.toks,F'.rest,F'.old⟩,r.mono (by
  rintro b p (h|⟨h1,h2,_⟩)
  .exact .inl h
  .exact .inr ⟨h1,h2⟩)⟩) R' F
noncomputable def oC:List Stmt->Nat->Stmt
 |[],_=> .Pass ⟨0,0,0,0⟩
 |s::_,0=>s
 |_::r,n+1=>oC r n
noncomputable def bp:Stmt->List Stmt
 | .FunctionDef _ _ b _ _ _ _ _ _ _=>b
 |_=>[]
noncomputable def ak:Stmt->Scope
 | .FunctionDef _ _ _ _ _ _ s _ _ _=>s
 |_=>default
noncomputable def fZ:Stmt->List Str
 | .FunctionDef _ a _ _ _ _ _ _ _ _=>a.args.map (·.arg)
 |_=>[]
noncomputable def fnName:Stmt->Str
 | .FunctionDef n _ _ _ _ _ _ _ _ _=>n
 |_=>""
noncomputable def aw(n:Nat):Stmt:=oC PW.main.body n
structure FnAt(c:Cx)(n:Nat)(name:Str)(v:Value):Prop where
 g:c.mg name=some v
 f:gi c v (fZ (aw n)) (ak (aw n)) (bp (aw n)) name
noncomputable def AR:Expr->Option Int
 | .Constant (.int i) _ _=>some i
 |_=>none
noncomputable def AQ:Expr->Option Str
 | .Constant (.str x) _ _=>some x
 |_=>none
noncomputable def Bt:List Int:=match aw 15 with
 | .Assign _ (.Dict ks _ _) _=>ks.filterMap λk=>k.bind AR
 |_=>[]
noncomputable def BP:List Str:=match aw 15 with
 | .Assign _ (.Dict _ vs _) _=>vs.filterMap AQ
 |_=>[]
noncomputable def Ey:List Int:=[173,847,6150,6155,6156,6157,8203,8204,8205,8288,65279,65024,65025,65026,65027,65028,65029,65030,65031,65032,65033,65034,65035,65036,65037,65038,65039]
structure Gl(c:Cx):Prop where
 B:c.B
 no:∀x∈(["len","max","min","sum","ord","chr","divmod","round","str","dict","tuple","list","range","reversed","enumerate","zip"]:List Str),c.mg x=none
 lim:∃t,c.mg "_DIV_LIMIT"=some (.int 4000 t)
 b1:∃v,c.mg "b1_set"=some v/\Rep c.w c.C (λa o=>c.h₀.get? a=some o) (.xH Ey) v
 b3:∃v,c.mg "b3_exceptions"=some v/\Rep c.w c.C (λa o=>c.h₀.get? a=some o) (.bT Bt (BP.map .str)) v
theorem nq:EB "int" "bit_length" "int.bit_length":=⟨F.plainAttrs_int,F.slot_int_bit_length,F.type_int_bit_length⟩
theorem uB(g:Gl c)(R:aL A 5){v:Value}(f:FnAt c 3 "_div2n1n" v){a b n:Int}(hn:(intBits a:Int)-n<=4000)(hb:fe b=true):
 Callee c A v [.int a,.int b,.int n] (.tup [.int (a.fdiv b),.int (a.fmod b)]):=by
 refine br g.B R f.f rfl rfl rfl rfl (by decide) (by decide) (by decide) λJ L ad I G E af s Q z D F=>?_;obtain⟨tl,hl⟩:=g.lim;refine bK F (b:=true) (λG=>?_) λU F=>?_
 .refine aC g.B D (a:= .int ((intBits a:Int)-n)) (b:= .int 4000) ?_ ?_ ?_
  .refine ag (a:= .int (intBits a:Nat)) (b:= .int n) ?_ ?_ rfl
   .exact dA (d0:= .int a) nq rfl (aa rfl) ai rfl vj rfl rfl rfl
   .exact aa rfl
  .exact rr g.B rfl hl (by exact Exists.intro _ rfl)
  .exact congrArg some (decide_eq_true hn)
 .refine aK (d:= .tup [.int (a.fdiv b),.int (a.fmod b)]) F (λG=>?_) λv U F r=>?_
  .exact aF g.B rfl (g.no _ (by decide)) boot_divmod (by decide) (.b _) (ae (aa rfl) (ae (aa rfl) ai)) rfl (Bl hb)
  .exact z _ _ _ _ _ F r
noncomputable def big:Nat:=2^4000
noncomputable def DN:Nat:=2^2000
theorem DM:DN<=big:=pow_le_pow_right (by decide) (by decide)
theorem bits_le{x:Int}{k:Nat}(h:x.natAbs<2^k):intBits x<=k:=by
 unfold intBits;by_cases z:x=0
 .subst z;simp
 .have I:x.natAbs≠0:=by exact(Int.le_total 0 (x)).elim (λD=>D0 (aM 0xa1120218a7a8a1120210 [_] [_] J7 (NV (ao 2687017000 [] [_] D) z))) λD=>D0 (aM 0x2112a18a7a88a1120210 [_] [_] HM (EG (ao 44565160 [] [_] D) z))
  rw[if_neg (by simpa using z)];exact(log2_lt I).mpr h
theorem bh{x y:Int}(D:x.natAbs<big)(z:y.natAbs<big):i5 x y=true:=by
 have J:=bits_le (k:=4000) D;have I:=bits_le (k:=4000) z;unfold i5;have:Builtin.Int.intTooBig ((intBits x:Int)+(intBits y:Int))=false:=by
  unfold Builtin.Int.intTooBig;rw[decide_eq_false_iff_not];have hb:(8001:Nat)<=bitsLine:=by decide+kernel
  lia
 simp[this]
theorem dW{y:Int}(D:y≠0)(I:y.natAbs<2^8000):fe y=true:=by
 unfold fe;have:y.natAbs.log2<9000:=by
  have J:y.natAbs≠0:=by exact(Int.le_total 0 (y)).elim (λz=>D0 (aM 0xa1120218a7a8a1120210 [_] [_] J7 (NV (ao 2687017000 [] [_] z) D))) λz=>D0 (aM 0x2112a18a7a88a1120210 [_] [_] HM (EG (ao 44565160 [] [_] z) D))
  exact lt_of_lt_of_le ((log2_lt J).mpr I) (by decide)
 have Y:blt y.natAbs.log2 9000=true:=ble_eq_true_of_le this;rw[Y,Bool.and_true];simpa using D
theorem bV{x y:Int}(z:0<=y)(I:x.natAbs<big)(D:y<=1000):mZ x y=true:=by have:=bits_le (k:=4000) I;unfold mZ;have J:(intBits x:Int)*y<=4000*1000:=Int.mul_le_mul (by exact ao 0xfa032a0fa032a78 [_] [] this) D z (by decide);simp only[and_eq_true,decide_eq_true_eq];refine⟨z,Int.le_trans J (by decide)⟩
theorem iT{x y:Int}(D:0<=y)(z:x.natAbs<big)(I:y<=100000):mR x y=true:=by
 have:=bits_le (k:=4000) z;unfold mR;simp only[and_eq_true,decide_eq_true_eq];refine⟨D,?_⟩;have:(2:Int)^27=134217728:=by decide
 lia
theorem dp{x y:Int}(h:i5 x y=true):gf .Mult (.int x) (.int y)=some (.int (x*y)):=if_pos h
theorem fT{x y:Int}(h:fe y=true):gf .FloorDiv (.int x) (.int y)=some (.int (x.fdiv y)):=if_pos h
theorem eo{x y:Int}(h:y≠0):gf .Mod (.int x) (.int y)=some (.int (x.fmod y)):=if_neg (by simpa using h)
theorem en{x y:Int}(h:mZ x y=true):gf .Pow (.int x) (.int y)=some (.int (x^y.toNat)):=if_pos h
theorem rE{x y:Int}(h:mR x y=true):gf .LShift (.int x) (.int y)=some (.int (x*2^y.toNat)):=if_pos h
theorem rD{x y:Int}(h:0<=y):gf .RShift (.int x) (.int y)=some (.int (x.fdiv (2^y.toNat))):=if_pos (decide_eq_true h)
theorem dI{x y:List D}(h:x.length+y.length<=16777216):gf .Add (.list x) (.list y)=some (.list (x++y)):=by exact if_pos (ble_eq_true_of_le h)
theorem Bq{x y:Str}(h:(x++y).length<=16777216):gf .Add (.str x) (.str y)=some (.str (x++y)):=by exact if_pos (ble_eq_true_of_le h)
theorem Bp{x:Str}{n:Int}(I:0<=n)(D:n<2^20)(z:x.length*n.toNat<2^20):gf .Mult (.str x) (.int n)=some (.str (Txt.mul x n)):=by exact if_pos (by simp only[and_eq_true,decide_eq_true_eq];exact⟨⟨I,D⟩,z⟩)
theorem tU{x:List D}{n:Int}(J:0<=n)(I:n<2^20)(z:x.length*n.toNat<2^20):gf .Mult (.list x) (.int n)=some (.list (replicate n.toNat x).flatten):=by exact if_pos (by simp only[and_eq_true,decide_eq_true_eq];exact⟨⟨J,I⟩,z⟩)
theorem eO{x y:Int}(h:y≠0)(h':isInf (dU x y)=false):gf .Div (.int x) (.int y)=some (.aV (dU x y)):=(if_neg (by simpa using h)).trans (if_neg (eq_false_iff.mp h'))
theorem bZ{x y:UInt64}(h:isZero y=false):gf .Div (.aV x) (.aV y)=some (.aV (div x y)):=if_neg (eq_false_iff.mp h)
theorem om{x y:UInt64}(h:isZero y=false):gf .Mod (.aV x) (.aV y)=some (.aV (divmod x y).2):=if_neg (eq_false_iff.mp h)
theorem FO{x y:Int}(h:i5 x y=true):iD .Mult (.int x) (.int y)=some (.int (x*y)):=if_pos h
theorem vX{x y:Int}(h:fe y=true):iD .FloorDiv (.int x) (.int y)=some (.int (x.fdiv y)):=if_pos h
noncomputable def cj(ns:List Int):Int:=ns.foldl (· * ·) 1
theorem gW(g:Gl c)(R:aL A 5){v:Value}(f:FnAt c 21 "_law_product" v){ns:List Int}(hz:∀i,(cj (ns.take i)).natAbs<big)(hn:∀n∈ns,n.natAbs<big):
 Callee c A v [.list (ns.map .int)] (.int (cj ns)):=by
 refine br g.B R f.f rfl rfl rfl rfl (by decide) (by decide) (by decide) λA' L ad cd G E af s Q kq R' F=>?_;refine av F (λG=>aj) (.inl rfl) rfl rfl λU F=>?_;refine dK (λ_=>[]) F (λG=>ba R'.handled (aa rfl)) (.inl rfl) (λi ρ=>ρ.lookup ("product":Str)=some (D.int (cj (ns.take i)))) rfl (λ_=>rfl) ?_ ?_
 .intro E' i d ρ s H' Q' kn kb kr hY hZ hb hd Y F;obtain⟨n,z,rfl⟩:∃n,ns[i]? =some n/\D.int n=d:=by simpa using hd
  have I:n∈ns:=mem_of_getElem? z;have J:(((("number":Str),D.int n)::ρ):List (Str×D)).lookup ("product":Str)=some (.int (cj (ns.take i))):=Y;refine mO F J (λG=>aa rfl) rfl (FO (bh (hz i) (hn n I))) (.inl rfl) rfl λU F=>?_;refine wpAny_execs_nil (kn _ _ ?_ F);have:cj (ns.take (i+1))=cj (ns.take i)*n:=by unfold cj;rw[take_add_one,z];simp[foldl_append]
  rw[this];rfl
 .intro ρ s Y F;refine aK (d:= .int (cj ns)) F (λG=>aa ?_) λv U F r=>kq _ _ _ _ _ F r;rw[Y,take_of_length_le (by simp)]
noncomputable def cG(size:Int)(col:Int)(z:Nat):Int:=if z==32 then col+1 else col+(size-col.fmod size)
noncomputable def aU(lead:Str)(size:Int):Int:=lead.cps.toList.foldl (cG size) 0
theorem pw(g:Gl c)(R:aL A 5){v:Value}(f:FnAt c 26 "_law_column" v){lead:Str}{size:Int}(ha:lead.cps.all (· <128)=true)(h0:size≠0):
 Callee c A v [.str lead,.int size] (.int (aU lead size)):=by
 refine br g.B R f.f rfl rfl rfl rfl (by decide) (by decide) (by decide) λA' L ad cd G E af s Q kq R' F=>?_;refine av F (λG=>aj) (.inl rfl) rfl rfl λU F=>?_;refine dK (λ_=>[]) F (λG=>vS R'.handled (aa rfl) ha) (.inl rfl) (λi ρ=>ρ.lookup ("size":Str)=some (D.int size)/\ρ.lookup ("column":Str)=some (D.int ((lead.cps.toList.take i).foldl (cG size) 0))) ⟨rfl,rfl⟩ (λ_=>rfl) ?_ ?_
 .intro E' i d ρ s H' Q' kn kb kr hY hZ hb hd J;refine iF J λhp hc=>?_;clear J;intro F;obtain⟨z,Ek,rfl⟩:∃z,lead.cps.toList[i]? =some z/\D.str ⟨#[z]⟩=d:=by simpa[gq]using hd
  have I:(((("sign":Str),D.str ⟨#[z]⟩)::ρ):List (Str×D)).lookup ("size":Str)=some (D.int size):=hp;have Y:(((("sign":Str),D.str ⟨#[z]⟩)::ρ):List (Str×D)).lookup ("column":Str)=some (D.int ((lead.cps.toList.take i).foldl (cG size) 0)):=hc;refine mO (d:= .int (cG size ((lead.cps.toList.take i).foldl (cG size) 0) z)) (b:= .int (if z==32 then 1 else size-((lead.cps.toList.take i).foldl (cG size) 0).fmod size)) F Y (λG=>?_) rfl ?_ (.inl rfl) rfl λU F=>?_
  .refine pR (b:=z==32) ?_ (λh=>?_) (λh=>?_)
   .refine aC g.B R' (a:= .str ⟨#[z]⟩) (b:= .str " ") (aa rfl) eh ?_;show some _=some _;congr 1;rw[Bool.eq_iff_iff];simp only[beq_iff_eq];constructor
    .intro h;exact Array.singleton_inj.mp (Str.mk.inj h)
    .rintro rfl;rfl
   .rw[if_pos h];exact aj
   .rw[if_neg (by rw[h];decide)];refine ag (aa I) (ag (aa Y) (aa I) (eo h0)) rfl
  .unfold cG;split<;>rfl
  .refine wpAny_execs_nil (kn _ _ ?_ F);refine⟨I,?_⟩;rw[take_add_one,Ek];simp only[Option.toList_some,foldl_append,foldl_cons,foldl_nil];rfl
 .intro ρ s J;refine iF J λhp hc=>?_;clear J;intro F;refine aK (d:= .int (aU lead size)) F (λG=>aa ?_) λv U F r=>kq _ _ _ _ _ F r;rw[hc,take_of_length_le (by simp[gq])];rfl
theorem qR:EB "dict" "get" "dict.get":=⟨F.plainAttrs_dict,F.slot_dict_get,F.type_dict_get⟩
theorem xy:EB "str" "lower" "str.lower":=⟨F.plainAttrs_str,F.slot_str_lower,F.type_str_lower⟩
theorem D7(g:Gl c)(R:aL A 5){v:Value}(f:FnAt c 14 "in_table_b1" v){z:Nat}:Callee c A v [.str ⟨#[z]⟩] (.bool (Ey.contains (z:Int))):=by refine br g.B R f.f rfl rfl rfl rfl (by decide) (by decide) (by decide) λA' L ad cd G E af s Q D Y F=>?_;refine aq g.b1 λvb J I=>?_;refine aK (d:= .bool (Ey.contains (z:Int))) F (λG=>?_) λv U F r=>D _ _ _ _ _ F r;exact ia g.B Y (aF g.B rfl (g.no _ (by decide)) bootS_ord (by decide) (.b _) (ae (aa rfl) ai) rfl tP) (nY g.B rfl J I) rfl
noncomputable def qU(z:Nat):Str:=⟨placed ⟨#[z]⟩ λi _=>Unicode.lowerAt #[z] i⟩
noncomputable def m3(z:Nat):Str:=match(aO Bt (z:Int)).bind (BP[·]?)with
 |some y=>y
 |none=>qU z
theorem Im(g:Gl c)(R:aL A 5){v:Value}(f:FnAt c 16 "map_table_b3" v){ch:Nat}(hl:(qU ch).length<=100):Callee c A v [.str ⟨#[ch]⟩] (.str (m3 ch)):=by
 refine br g.B R f.f rfl rfl rfl rfl (by decide) (by decide) (by decide) λA' L ad cd G E af s Q J R' F=>?_;refine aq g.b3 λvb h1 Y=>?_;have z:((aO Bt (ch:Int)).bind ((BP.map D.str)[·]?))=((aO Bt (ch:Int)).bind (BP[·]?)).map D.str:=by cases aO Bt (ch:Int)<;>simp
 cases hc:(aO Bt (ch:Int)).bind (BP[·]?)with
 |some y=>
  have I:m3 ch=y:=by unfold m3;rw[hc]
  refine av (d:= .str y) F (λG=>?_) (.inl rfl) rfl rfl λU F=>?_
  .refine dA (d0:= .bT Bt (BP.map .str)) qR rfl (nY g.B rfl h1 Y) (ae (aF g.B rfl (g.no _ (by decide)) bootS_ord (by decide) (.b _) (ae (aa rfl) ai) rfl tP) ai) rfl (Bk ?_) rfl rfl rfl;rw[z,hc];rfl
  .refine bK F (b:=true) (λG=>aC g.B R' (aa rfl) wm rfl) λU F=>?_;refine aK (d:= .str y) F (λG=>aa rfl) λv U F r=>J _ _ _ _ _ F (by rw[I];exact r)
 |none=>
  have I:m3 ch=qU ch:=by unfold m3;rw[hc]
  refine av (d:= .none) F (λG=>?_) (.inl rfl) rfl rfl λU F=>?_
  .refine dA (d0:= .bT Bt (BP.map .str)) qR rfl (nY g.B rfl h1 Y) (ae (aF g.B rfl (g.no _ (by decide)) bootS_ord (by decide) (.b _) (ae (aa rfl) ai) rfl tP) ai) rfl (Bk ?_) rfl rfl rfl;rw[z,hc];rfl
  .refine bK F (b:=false) (λG=>aC g.B R' (aa rfl) wm rfl) λU F=>?_;refine wpAny_execs_nil ?_;refine aK (d:= .str (qU ch)) F (λG=>?_) λv U F r=>J _ _ _ _ _ F (by rw[I];exact r);exact dA (d0:= .str ⟨#[ch]⟩) xy rfl (aa rfl) ai rfl (DI (by have:(placed ⟨#[ch]⟩ λi _=>Unicode.lowerAt (Str.mk #[ch]).cps i).size<=100:=hl;unfold Builtin.Str.tooLong;simp;exact le_trans this (by rw[sizeLine_eq];decide))) rfl rfl rfl
theorem aB{e:Expr}{d z:D}(h:Ev c A O ρ G e d)(I:d=z):Ev c A O ρ G e z:=I▸h
noncomputable def aT:Nat->List Int->List (List Int)
 |0,_=>[[]]
 |n+1,cs=>((range 3).map λk=>if 0<cs.getD k 0 then(aT n (cs.take k++[cs.getD k 0-1]++cs.drop (k+1))).map λr=>(k:Int)::r else []).flatten
theorem kT{n:Nat}{cs:List Int}:aT (n+1) cs=((range 3).map λk=>if 0<cs.getD k 0 then(aT n (cs.take k++[cs.getD k 0-1]++cs.drop (k+1))).map λr=>(k:Int)::r else []).flatten:=rfl
theorem xo{cs:List Int}:aT 0 cs=[[]]:=rfl
noncomputable def lD(l:List Int):D:= .list (l.map .int)
noncomputable def fk:D->Nat
 | .int i=>i.toNat
 |_=>0
theorem zW{i:Int}:fk (.int i)=i.toNat:=rfl
theorem eR:∀(n:Nat)(cs:List Int),(aT n cs).length<=3^n
 |0,_=>le_refl _
 |n+1,cs=>by
  have h:∀k,(if 0<cs.getD k 0 then(aT n (cs.take k++[cs.getD k 0-1]++cs.drop (k+1))).map λr=>(k:Int)::r else []).length<=3^n:=λk=>by
   split
   .rw[length_map];exact eR n _
   .exact zero_le _
  have z:range 3=[0,1,2]:=rfl;simp only[kT,z,map_cons,map_nil,flatten_cons,flatten_nil,append_nil,length_append];have J:=h 0;have I:=h 1;have D:=h 2;rw[pow_succ];exact cU 0xdc0db0da0d314cb1a10 [_,_,_,_] [] J I D
theorem eg:∀(n:Nat)(cs:List Int),∀r∈aT n cs,r.length=n
 |0,_,r,h=>by simp[xo]at h;subst h;rfl
 |n+1,cs,r,h=>by
  simp only[kT,List.mem_flatten,mem_map]at h;refine aq h λl D I=>?_;clear h;refine aq D λk _ z=>?_;clear D;obtain rfl:=z;split at I
  .refine aq (et I) λJ Y z=>?_;obtain rfl:=z;simp[eg n _ J Y]
  .cases I
theorem cm{k x:Str}{d e:D}{z:List (Str×D)}(J:z.lookup k=none)(h:z.lookup x=some e):((k,d)::z).lookup x=some e:=by
 rw[lookup_cons];by_cases I:x=k
 .subst I;rw[J]at h;exact ns h
 .rw[show(x==k)=false from by simpa using I];exact h
theorem eG{d:D}(h:d∈aJ 0 3):d= .int 0\/d= .int 1\/d= .int 2:=by have e:aJ 0 3=[.int 0,.int 1,.int 2]:=rfl;rw[e]at h;simpa using h
theorem sH(k:Nat)(z:Int)(L:List (List Int)):(if decide (0<z)=true then((L.map lD).filter λ_=>true).map (λe=>match D.int k,e with| .int k,.list l=> .list (.int k::l)|_,_=> .none)else [])=
 (if 0<z then L.map λr=>(k:Int)::r else []).map lD:=by
 by_cases h:0<z
 .rw[if_pos (by simpa using h),if_pos h,oS (λ_ _=>rfl),map_map,map_map];rfl
 .rw[if_neg (by simpa using h),if_neg h];rfl
theorem pn(n:Nat)(I D z:Int):((aJ 0 3).map λd=>if decide (0< [I,D,z].getD (fk d) 0)=true then
 (((aT n ([I,D,z].take (fk d)++[[I,D,z].getD (fk d) 0-1]++[I,D,z].drop (fk d+1))).map lD).filter λ_=>true).map (λe=>match d,e with| .int k,.list l=> .list (.int k::l)|_,_=> .none)else []).flatten=
 (aT (n+1) [I,D,z]).map lD:=by
 have e:aJ 0 3=[.int (0:Nat),.int (1:Nat),.int (2:Nat)]:=rfl;have J:range 3=[0,1,2]:=rfl;have k0:∀k:Nat,fk (.int k)=k:=λk=>rfl;rw[e];simp only[kT,J,map_cons,map_nil,flatten_cons,flatten_nil,append_nil,map_append,k0,sH]
theorem pq(g:Gl c){v:Value}(f:FnAt c 22 "_law_orders" v):∀(n:Nat)(Kq:n<=8)(A:Around)(cs:List Int),aL A (n+1)->cs.length=3->(∀x∈cs,0<=x)->cs.sum=n->
 Callee c A v [lD cs] (.list ((aT n cs).map lD))
 |0,_,A,cs,R,hl,h0,hs=>by
  refine br (k:=0) g.B R f.f rfl rfl rfl rfl (by decide) (by decide) (by decide) λA' L ad cd G E af s Q kq R' F=>?_;refine bK F (b:=true) (λG=>?_) λU F=>?_
  .refine aC g.B R' (a:= .int 0) (b:= .int 0) ?_ aj rfl;refine aB (aF g.B (x:="sum") (ds:=[lD cs]) (d:= .int cs.sum) rfl (g.no _ (by decide)) boot_sum (by decide) (.b _) (ae (aa rfl) ai) rfl (Bf R')) (by rw[hs];rfl)
  .refine aK (d:= .list [.list []]) F (λG=>bq (ae (bq ai) ai)) λv U F r=>kq _ _ _ _ _ F r
 |n+1,Kq,A,cs,R,hl,h0,hs=>by
  obtain⟨Y,J,I,rfl⟩:=CM hl;have p0:=h0 Y (by simp);have p1:=h0 J (by simp);have p2:=h0 I (by simp);have yq:Y+J+I=(n:Int)+1:=by simp at hs;exact dq (ao 0x112a71cb1a18112a71cba118 [_] [_,_,_] (t7 hs)) (ao 0xcb1a1112a718cba11112a718 [_] [_,_,_] (rQ hs))
  refine br (k:=n+1) g.B R f.f rfl rfl rfl rfl (by decide) (by decide) (by decide) λA' L ad cd G E af s Q kq R' F=>?_;refine bK F (b:=false) (λG=>?_) λU F=>?_
  .refine aC g.B R' (a:= .int [Y,J,I].sum) (b:= .int 0) ?_ aj ?_
   .exact aF g.B rfl (g.no _ (by decide)) boot_sum (by decide) (.b _) (ae (aa rfl) ai) rfl (Bf R')
   .show some _=some _;congr 1;rw[beq_eq_false_iff_ne];rw[hs];exact oD (aI 301959572750872 [_] [])
  .refine wpAny_execs_nil ?_;refine aK (d:= .list ((aT (n+1) [Y,J,I]).map lD)) F (λG=>?_) λv U F r=>kq _ _ _ _ _ F r;refine aB (d:=?dd) ?_ ?_
   case refine_1=>
    refine nZ (ds:=aJ 0 3)
     (p:=λd=>decide (0< [Y,J,I].getD (fk d) 0))
     (ρd:=λd=>[("k",d),("counts",lD [Y,J,I])])
     (ds2:=λd=>(aT n ([Y,J,I].take (fk d)++[[Y,J,I].getD (fk d) 0-1]++[Y,J,I].drop (fk d+1))).map lD)
     (q:=λ_ _=>true) (g:=λd e=>match d,e with| .int k,.list l=> .list (.int k::l)|_,_=> .none)
     (ρe:=λd e=>[("rest",e),("k",d),("counts",lD [Y,J,I])])
     ?hi ?hclos ?hkind ?hnames ?hY ?hs ?hs2 ?ha ?hback ?ht ?hi2 ?ha2 ?hback2 ?ht2 ?he ?hlen
    case hi=>exact dQ g.B R'.handled rfl (g.no _ (by decide)) aj rfl (by decide) (by decide)
    case hclos=>rfl
    case hkind=>rfl
    case hnames=>decide
    case hY=>decide
    case hs=>intro _;rfl
    case hs2=>intro _ _;rfl
    case ha=>intro C H d hY hd;exact au (.inl rfl) rfl
    case hback=>intro d hd x e h;exact cm rfl h
    case ht=>intro C G d hd;refine ee (aC g.B R' (a:= .int ([Y,J,I].getD (fk d) 0)) (b:= .int 0) (aS (o:= .list [.int Y,.int J,.int I]) (i:=d) (aa rfl) (aa rfl) ?_) aj rfl);rcases eG hd with rfl|rfl|rfl<;>rfl
    case hi2=>
     intro C G d hd hp;have hc:0< [Y,J,I].getD (fk d) 0:=by simpa using hp
     refine ba R'.handled (bz g.B rfl f.g f.f.plain (ae (d:=lD ([Y,J,I].take (fk d)++[[Y,J,I].getD (fk d) 0-1]++[Y,J,I].drop (fk d+1))) ?_ ai) rfl (pq g f n (by exact ao 0x812112a10812a0 [_] [] Kq) A' _ R' ?_ ?_ ?_))
     .refine ag (a:= .list (([Y,J,I].take (fk d)++[[Y,J,I].getD (fk d) 0-1]).map .int)) (b:= .list (([Y,J,I].drop (fk d+1)).map .int)) (ag (a:= .list (([Y,J,I].take (fk d)).map .int)) (b:= .list [.int ([Y,J,I].getD (fk d) 0-1)])
       (cK (lo:=none) (hi:=some (fk d)) (st:=none) (o:= .list [.int Y,.int J,.int I]) (aa rfl) trivial (aB (aa (d:=d) rfl) ?_) trivial ?_)
       (bq (ae (ag (aS (o:= .list [.int Y,.int J,.int I]) (i:=d) (d:= .int ([Y,J,I].getD (fk d) 0)) (aa rfl) (aa rfl) ?_) aj rfl) ai)) ?_)
       (cK (lo:=some ((fk d:Int)+1)) (hi:=none) (st:=none) (o:= .list [.int Y,.int J,.int I]) (aa rfl) (ag (a:= .int (fk d)) (b:= .int 1) (aB (aa (d:=d) rfl) ?_) aj rfl) trivial trivial ?_) ?_
      all_goals (rcases eG hd with rfl|rfl|rfl<;>first|rfl|kernel_rfl)
     .rcases eG hd with rfl|rfl|rfl<;>rfl
     .rcases eG hd with rfl|rfl|rfl<;>simp[zW]at hc⊢ <;>first|exact⟨hc,p1,p2⟩|exact⟨p0,hc,p2⟩|exact⟨p0,p1,hc⟩
     .rcases eG hd with rfl|rfl|rfl<;>simp[zW]<;>lia
    case ha2=>intro C H d e hY hd hp he;exact au (.inl rfl) rfl
    case hback2=>intro d hd hp e he x z h;exact cm rfl h
    case ht2=>intro C G d e hd hp he;exact aR
    case he=>
     intro C G d e hd hp he hq;refine aq (et he) λr hr gD=>?_;obtain rfl:=gD;have nK:=eg _ _ r hr;obtain⟨i,rfl⟩:∃i,d= .int i:=by rcases eG hd with rfl|rfl|rfl<;>exact⟨_,rfl⟩
     refine ag (bq (ae (aa rfl) ai)) (aa rfl) (dI (x:=[.int i]) ?_);simp[nK];exact ao 0x812112a10100000072a11210 [_] [] Kq
    case hlen=>rw[pn,length_map];refine le_trans (eR (n+1) [Y,J,I]) (le_trans (pow_le_pow_right (by decide) (show n+1<=9 by exact ao 0x812112a10912112a10 [_] [] Kq)) (by decide))
   all_goals first|exact congrArg D.list (pn n Y J I)|skip
noncomputable def me(own:Int):Int:=(own+1).fmod 3
noncomputable def t9(own:Int):Int:=(own+2).fmod 3
noncomputable def e1(own:Int):Int:=if decide (me own<own)then 1 else 0
noncomputable def e2(cs:List Int)(own:Int):Int:=cs.getD (me own).toNat 0+(if decide (t9 own<own)then 1 else 0)
noncomputable def cQ(q:Int)(cs fs:List Int):Nat->List Int
 |0=>replicate 12 0
 |i+1=>((cQ q cs fs i).set ((4*(i:Int)-1).fmod 12).toNat (-q^(e1 i).toNat*fs.getD i 0)).set ((4*(i:Int)+1).fmod 12).toNat (-q^(e2 cs i).toNat*fs.getD i 0)
theorem pV{q:Int}{cs fs:List Int}{i:Nat}:cQ q cs fs (i+1)=((cQ q cs fs i).set ((4*(i:Int)-1).fmod 12).toNat (-q^(e1 i).toNat*fs.getD i 0)).set ((4*(i:Int)+1).fmod 12).toNat (-q^(e2 cs i).toNat*fs.getD i 0):=rfl
theorem dV{q:Int}{cs fs:List Int}:∀i,(cQ q cs fs i).length=12
 |0=>rfl
 |i+1=>by simp[pV,dV i]
theorem iO{ns:List Int}{i:Int}(z:0<=i)(I:i<ns.length)(D:i<2^62):mK (.list (ns.map .int)) (.int i)=some (.int (ns.getD i.toNat 0)):=by
 rw[yT z D];have:i.toNat<ns.length:=by exact aM 0xb7112a18aa78b112a10 [_,_] [_] (rP (ao 2687017000 [] [_] z)) I
 simp[getElem?_map,getElem?_eq_getElem this]
theorem kS{q:Int}(z:q.natAbs<=9){e:Nat}(he:e<=20):(-q^e).natAbs<big:=by rw[natAbs_neg,natAbs_pow];have I:q.natAbs^e<=9^e:=Nat.pow_le_pow_left z e;have D:9^e<=9^20:=pow_le_pow_right (by decide) he;exact lt_of_le_of_lt (le_trans I D) (lt_of_lt_of_le (by decide:9^20<2^70) (pow_le_pow_right (by decide) (by decide):2^70<=2^4000))
theorem dP{q:Int}(z:q.natAbs<=9):q.natAbs<big:=lt_of_le_of_lt z (lt_of_lt_of_le (by decide:9<2^4) (pow_le_pow_right (by decide) (by decide):2^4<=2^4000))
theorem Ft(g:Gl c)(R:aL A 5){v:Value}(f:FnAt c 25 "_law_due" v){q bx c0 c1 c2 f0 f1 f2:Int}(hq:q.natAbs<=9)(h0:0<=c0/\c0<=9)(h1:0<=c1/\c1<=9)(h2:0<=c2/\c2<=9)
 (hf:∀x∈[f0,f1,f2],x.natAbs<big):
 Callee c A v [.int q,lD [c0,c1,c2],.int bx,lD [f0,f1,f2]] (lD (bx::cQ q [c0,c1,c2] [f0,f1,f2] 3)):=by
 refine br g.B R f.f rfl rfl rfl rfl (by decide) (by decide) (by decide) λA' L ad cd G E af s Q kq R' F=>?_;refine iS (od:= .lst ((cQ q [c0,c1,c2] [f0,f1,f2] 0).map .int)) F (λG=>rp (ds:=[.int 0]) (n:=12) (bq (ae aj ai)) aj (by decide) (by decide) (by decide)) (.inl rfl) rfl rfl λa U _ F=>?_
 refine dK (λi=>[(("ring":Str),a,OD.lst ((cQ q [c0,c1,c2] [f0,f1,f2] i).map D.int))]) F (λG=>dQ g.B R'.handled rfl (g.no _ (by decide)) aj rfl (by decide) (by decide)) (.inl rfl)
  (λi ρ=>ρ.lookup ("q":Str)=some (D.int q)/\ρ.lookup ("counts":Str)=some (lD [c0,c1,c2])/\ρ.lookup ("firsts":Str)=some (lD [f0,f1,f2])/\ρ.lookup ("grey":Str)=some (D.int bx)/\ρ.lookup ("ring":Str)=some (D.adr a))
  ⟨rfl,rfl,rfl,rfl,rfl⟩ (λ_=>rfl) ?_ ?_
 .intro E' i d ρ s H' Q' kn kb kr hY hZ hb hd w9;refine ib w9 λJ Ek Y Mi Ee=>?_;clear w9;intro F;have hi:i<3/\d= .int i:=by have e:aJ 0 3=[.int (0:Nat),.int (1:Nat),.int (2:Nat)]:=rfl;rw[e]at hd;exact RJ (P:=λi d=>i<3/\d= .int i) hd ⟨by decide,rfl⟩ ⟨by decide,rfl⟩ ⟨by decide,rfl⟩
  obtain⟨z,rfl⟩:=hi;have I:0<=me i/\me i<3:=⟨fmod_nonneg_of_pos _ (by decide),fmod_lt_of_pos _ (by decide)⟩;have QK:0<=t9 i/\t9 i<3:=⟨fmod_nonneg_of_pos _ (by decide),fmod_lt_of_pos _ (by decide)⟩;have Kw:([f0,f1,f2].getD i 0).natAbs<big:=hf _ (by
   rcases EE z with e|e|e<;>rw[e]
   .exact .head _
   .exact .tail _ (.head _)
   .exact .tail _ (.tail _ (.head _)))
  have Ej:0<=[c0,c1,c2].getD (me i).toNat 0/\[c0,c1,c2].getD (me i).toNat 0<=9:=by
   have:(me i).toNat=0\/(me i).toNat=1\/(me i).toNat=2:=Ph I;rcases this with h|h|h<;>rw[h]
   .exact h0
   .exact h1
   .exact h2
  have Kx:0<=e1 i/\e1 i<=1:=by unfold e1;split<;>decide
  have BK:0<=e2 [c0,c1,c2] i/\e2 [c0,c1,c2] i<=10:=by unfold e2;split;exact⟨add_nonneg Ej.1 (by decide),Int.add_le_add_right Ej.2 1⟩;exact⟨add_nonneg Ej.1 (by decide),Int.add_le_add Ej.2 (by decide:(0:Int)<=1)⟩
  refine iQ (x:="following") (y:="last") (d1:= .int (me i)) (d2:= .int (t9 i)) R' F (λG=>?_) (.inl rfl) (.inl rfl) rfl rfl rfl λU F=>?_
  .exact bb (ae (ag (ag (aa rfl) aj rfl) aj (eo (by decide))) (ae (ag (ag (aa rfl) aj rfl) aj (eo (by decide))) ai))
  refine qF (n:=(4*(i:Int)-1).fmod 12) (d:= .int (-q^(e1 i).toNat*[f0,f1,f2].getD i 0)) F (λG=>?_) rfl (λG=>?_) (fmod_nonneg_of_pos _ (by decide)) (by rw[length_map,dV];exact fmod_lt_of_pos _ (by decide)) (by rw[length_map,dV];rfl) λU F=>?_
  .refine ag (a:= .int (-q^(e1 i).toNat)) (b:= .int ([f0,f1,f2].getD i 0)) (gN (a:= .int (q^(e1 i).toNat)) (ag (a:= .int q) (b:= .int (e1 i)) (aa J) (pR (b:=decide (me i<i)) (aC g.B R' (aa rfl) (aa rfl) rfl) (λh=>?_) (λh=>?_)) (en (bV Kx.1 (dP hq) (by exact ao 18874299331240 [] [_] Kx.2)))) rfl) (aS (o:=lD [f0,f1,f2]) (i:= .int i) (aa Y) (aa rfl) (iO (by exact aI 684072 [_] []) (by simp;exact ao 0x312112a10312112a718 [_] [] z) (by exact ao 0x312112a103e2215112a718 [_] [] z))) (dp (bh (kS hq (by exact aM 77309593731211936 [_] [_] (rP (ao 2687017000 [] [_] Kx.1)) Kx.2)) Kw))
   .have:e1 i=1:=by unfold e1;rw[h];rfl
    rw[this];exact aj
   .have:e1 i=0:=by unfold e1;rw[h];rfl
    rw[this];exact aj
  .exact ag (ag (ag aj (aa rfl) (dp (bh (dP (by decide)) (dP (by exact aM 0x312112b10b7a78912a0 [_,_] [] (t4 (aI 684072 [_] [])) z))))) aj rfl) aj (eo (by decide))
  refine qF (n:=(4*(i:Int)+1).fmod 12) (d:= .int (-q^(e2 [c0,c1,c2] i).toNat*[f0,f1,f2].getD i 0)) F (λG=>?_) rfl (λG=>?_) (fmod_nonneg_of_pos _ (by decide)) (by rw[length_set,length_map,dV];exact fmod_lt_of_pos _ (by decide)) (by rw[length_set,length_map,dV];rfl) λU F=>?_
  .refine ag (a:= .int (-q^(e2 [c0,c1,c2] i).toNat)) (b:= .int ([f0,f1,f2].getD i 0)) (gN (a:= .int (q^(e2 [c0,c1,c2] i).toNat)) (ag (a:= .int q) (b:= .int (e2 [c0,c1,c2] i)) (aa J)
    (ag (a:= .int ([c0,c1,c2].getD (me i).toNat 0)) (b:= .int (if decide (t9 i<i)then 1 else 0)) (aS (o:=lD [c0,c1,c2]) (i:= .int (me i)) (aa Ek) (aa rfl) (iO I.1 (by simp;exact ao 0x312112a18312112a18 [] [_] I.2) (by exact ao 0x312112a183e2215112a18 [] [_] I.2)))
     (pR (b:=decide (t9 i<i)) (aC g.B R' (aa rfl) (aa rfl) rfl) (λh=>?_) (λh=>?_)) rfl) (en (bV BK.1 (dP hq) (by exact ao 0xa12a83e832a8 [] [_] BK.2)))) rfl) (aS (o:=lD [f0,f1,f2]) (i:= .int i) (aa Y) (aa rfl) (iO (by exact aI 684072 [_] []) (by simp;exact ao 0x312112a10312112a718 [_] [] z) (by exact ao 0x312112a103e2215112a718 [_] [] z))) (dp (bh (kS hq (by exact aM 0xa12a8aa781422a0 [_] [_] (rP (ao 2687017000 [] [_] BK.1)) BK.2)) Kw))
   .rw[h];exact aj
   .rw[h];exact aj
  .exact ag (ag (ag aj (aa rfl) (dp (bh (dP (by decide)) (dP (by exact aM 0x312112b10b7a78912a0 [_,_] [] (t4 (aI 684072 [_] [])) z))))) aj rfl) aj (eo (by decide))
  refine wpAny_execs_nil (kn _ _ ?_ (F.ow ?_))
  .exact⟨J,Ek,Y,Mi,Ee⟩
  simp only[pV,map_set]
 .intro ρ s w9;refine ib w9 λJ Ek Y Mi Ee=>?_;clear w9;intro F;have F:=F.freeze ["ring"] (by simpa using Ee);have e3:(aJ 0 3).length=3:=rfl;rw[e3]at F;refine aK (d:=lD (bx::cQ q [c0,c1,c2] [f0,f1,f2] 3)) F (λG=>?_) λv U F r=>kq _ _ _ _ _ F r;exact ag (bq (ae (aa Mi) ai)) (aa (d:= .list ((cQ q [c0,c1,c2] [f0,f1,f2] 3).map .int)) rfl) (dI (x:=[.int bx]) (by rw[length_map,dV];simp))
theorem sL(B:c.B)(ho:∀a o,c.h₀.get? a=some o->s.heap.get? a=some o):(s.heap.objs.size==sysModules)=false:=by have D:mainGlobals<s.heap.objs.size:=(B.g.keeps ho).lt;have z:sysModules<s.heap.objs.size:=lt_trans (by decide) D;simpa using ne_of_gt z
theorem ux(B:c.B)(V:Vw c O ρ G s){ks:List Int}{ds:List D}{vs:List Value}{h':Heap}{t z:Nat}(I:h'.DictOf (intKind PW c.w) s.heap.objs.size (ks.zip vs))(hl:ks.length=vs.length)
 (J:Heap.SameBut s.heap.objs.size {s with heap:=s.heap.push {cls:= .type "dict",data:= .dict #[]},toks:=t}.heap h')(l:aE c.w c.C G ds vs):cf c.w c.C G s (.bT ks ds) (.ref s.heap.objs.size) {s with heap:=h',toks:=z}:=by
 refine jT I λo es ep h1 h2 h3 h4 h5 Y=>?_;clear I;refine⟨⟨h',z,rfl,λb p e=>(J.2 b (ne_of_lt (lt_size e))).trans (get?_push_of_some _ e)⟩,?_⟩;show ∃_,_;exact⟨_,o,vs,rfl,sL B V.old,.inr ⟨h1,bH s⟩,⟨h2,es,ep,h3,h4,h5,Y⟩,hl,l.mono dM⟩
theorem uw(B:c.B)(V:Vw c O ρ G s){ks:List Str}{ds:List D}{vs:List Value}{h':Heap}{t z:Nat}(I:h'.DictOf (strKind PW c.w) s.heap.objs.size (ks.zip vs))(hl:ks.length=vs.length)
 (J:Heap.SameBut s.heap.objs.size {s with heap:=s.heap.push {cls:= .type "dict",data:= .dict #[]},toks:=t}.heap h')(l:aE c.w c.C G ds vs):cf c.w c.C G s (.fG ks ds) (.ref s.heap.objs.size) {s with heap:=h',toks:=z}:=by
 refine jT I λo es ep h1 h2 h3 h4 h5 Y=>?_;clear I;refine⟨⟨h',z,rfl,λb p e=>(J.2 b (ne_of_lt (lt_size e))).trans (get?_push_of_some _ e)⟩,?_⟩;show ∃_,_;exact⟨_,o,vs,rfl,sL B V.old,.inr ⟨h1,bH s⟩,⟨h2,es,ep,h3,h4,h5,Y⟩,hl,l.mono dM⟩
theorem AE(B:c.B){a b:Int}{n m:Nat}{p1 z pos:Pos}:Ev c A O ρ G (.Dict [some (.Constant (.int a) n p1)] [.Constant (.int b) m z] pos) (.bT [a] [.int b]):= .mk λE s V=>by refine wpAny_Dict_pairs (knd:=intKind PW c.w) (pairs:=[(eval (.Constant (.int a) n p1) O,do let x<-eval (.Constant (.int b) m z) O;standAt pos;pure x)]) rfl (by simp) (by simp) ?_;refine evalPairs_cons (wpAny_Constant_int (wpAny_bind (wpAny_Constant_int (wpAny_bind (wpAny_standAt (wpAny_pure (evalPairs_nil ?_)))))));refine⟨[(a,.int b (s.toks+1))],⟨intKind_is _ _ _ _,rfl,trivial⟩,Heap.DictOf.new _,λh' I D=>?_⟩;exact ux B V (ks:=[a]) (vs:=[.int b (s.toks+1)]) (t:=s.toks+1+1) (by simpa[merged,stored]using I) rfl D (Exists.intro _ (Exists.intro _ ⟨rfl,Exists.intro _ rfl,rfl⟩))
theorem zt{prog:Program}{w:World}{k v:Str}{n m:Nat}{p q pos:Pos}{rest:List (Sem Value×Sem Value)}{Q:List (Value×Value)->Shared->Prop}{tk:Nat}
 (h:∀I D tk',wpAny (model prog w) A (evalPairs rest) (λvs z=>Q ((.str k I,.str v D)::vs) z) E {s with toks:=tk'}):
 wpAny (model prog w) A (evalPairs ((eval (.Constant (.str k) n p) O,do let x<-eval (.Constant (.str v) m q) O;standAt pos;pure x)::rest)) Q E {s with toks:=tk}:=
 evalPairs_cons (wpAny_Constant_str (wpAny_bind (wpAny_Constant_str (wpAny_bind (wpAny_standAt (wpAny_pure (h tk (tk+1) (tk+1+1))))))))
theorem Az(B:c.B){p pos:Pos}{e:Expr}{ks:List Int}{ds:List D}(Y:O.kindOf "dict"=some .globalImplicit)(J:c.mg "dict"=none)(he:Ev c A O ρ G e (.bT ks ds))(hs:starEach [e] O=[(false,eval e O)])(hz:sizeOk ks.length=true):
 BQ c A O ρ G (.Call (.Name "dict" p) [e] [] pos) (.rN ks ds):= .mk λE s V=>
 ik B V Y J (show bootBuiltins "dict"=some (.type "dict") by decide+kernel) (by decide) (.t _) (ae he ai hs) (by rw[hs];rfl) λvs U I tk l V'=>
  wpAny_mono (GN B hz ⟨V.gG I,λa o h=> .inl (V.base a o h),V'.toks⟩ l) (λv cP q=>by refine k9 q λa o z k2 h1 h2 h3=>?_;clear q;obtain rfl:=z;exact⟨a,o,U,rfl,I,k2,h1,h2,h3⟩) λ_ _ e=>e
noncomputable def putD(ks:List Int)(ds:List D)(k:Int)(d:D):List Int×List D:=match aO ks k with
 |some j=>(ks,ds.set j d)
 |none=>(ks++[k],ds++[d])
theorem rZ{ks:List Int}:∀{I:List Value}{k:Int}{u:Value},ks.length=I.length->aO ks k=none->stored (ks.zip I) k u=(ks++[k]).zip (I++[u])/\∀x∈ks,x≠k:=by
 intro I k u hl h;have D:∀x∈ks,x≠k:=by
  clear hl;induction ks with
  |nil=>simp
  |cons a ks Y=>
   simp only[cW]at h;split at h
   .exact sn h
   .rename_i J;intro x z;rcases dg z with rfl|z
    .exact J
    .exact Y (by simpa using h) x z
 refine⟨?_,D⟩;unfold stored;rw[if_neg,List.zip_append hl]
 .rfl
 .simp only[any_eq_true,decide_eq_true_eq,not_exists,not_and];rintro⟨x,v⟩ z rfl;exact D _ (of_mem_zip z).1 rfl
theorem rY{ks:List Int}:∀{z:List Value}{k:Int}{u:Value}{j:Nat},ks.length=z.length->ks.Nodup->aO ks k=some j->stored (ks.zip z) k u=ks.zip (z.set j u):=by
 intro z k u j hl hn h;have Y:∀(ks:List Int)(z:List Value)(j:Nat),ks.length=z.length->ks.Nodup->aO ks k=some j->(ks.zip z).any (λD=>decide (D.1=k))=true/\(ks.zip z).map (λD=>if D.1=k then(D.1,u)else D)=ks.zip (z.set j u):=by
  intro ks;induction ks with
  |nil=>intro z j _ _ h;exact ns h
  |cons a ks ih=>
   intro z j hl hn h;cases z with
   |nil=>cases hl
   |cons v z=>
    simp only[cW]at h;simp only[nodup_cons]at hn;split at h
    .rename_i I;obtain rfl:=bg h;subst I;refine⟨by simp,?_⟩;simp only[zip_cons_cons,map_cons,if_true,List.set_cons_zero];congr 1;have:∀D∈ks.zip z,(if D.1=a then(D.1,u)else D)=D:=λD F7=>if_neg λe=>hn.1 (by rw[<-e];exact(of_mem_zip (a:=D.1) (b:=D.2) F7).1);exact(map_congr_left this).trans (map_id _)
    .rename_i I;refine aq (mA h) λj' QP J=>?_;obtain rfl:=J;obtain⟨i1,i2⟩:=ih z j' (by simpa using hl) hn.2 QP;refine⟨by simp only[zip_cons_cons,List.any_cons,i1,Bool.or_true],?_⟩;simp only[zip_cons_cons,map_cons,if_neg I,List.set_cons_succ,i2]
 obtain⟨i1,i2⟩:=Y ks z j hl hn h;unfold stored;rw[if_pos (by simpa using i1)];exact i2
theorem oR.nodup{o:Obj}{ks:List Int}{z:List Value}(d:oR (intKind PW c.w) o (ks.zip z))(hl:ks.length=z.length):ks.Nodup:=by obtain⟨_,_,_,_,_,_,h⟩:=d;rwa[map_fst_zip (le_of_eq hl)]at h
theorem Ca{x:Str}{a:Addr}{ks:List Int}{ds:List D}{p J pos:Pos}{e i:Expr}{n:Int}{d:D}{rest:List Stmt}{Q:Flow->Shared->Prop}(F:Fs c ah af H O ρ [(x,a,.rN ks ds)] s)
 (he:∀G,Ev c A O (l7 [(x,a,.rN ks ds)]++ρ) G e d)(hf:flat d=true)(hi:∀G,Ev c A O (l7 [(x,a,.rN ks ds)]++ρ) G i (.int n))(hz:sizeOk ks.length=true)
 (kk:∀U,Fs c ah af H O ρ [(x,a,.rN (putD ks ds n d).1 (putD ks ds n d).2)] U->wpAny (model PW c.w) A (execs rest O) Q E U)
 (hs:swapsWith e (some (.Subscript (.Name x p) i J)) pos.line O=pure false:=by rfl)(hd:(x==("__debug__":Str))=false:=by decide):
 wpAny (model PW c.w) A (execs (.Assign [.Subscript (.Name x p) i J] e pos::rest) O) Q E s:=by
 refine wpAny_execs_cons (wpAny_Assign_Subscript (F.qJ he hf λv s₁ I r=>i9 I (wpAny_mono (wpAny_toks ((hi _).1 E s₁ I.hW)) (λvi ay q=>?_) λ_ _ q=>q.2) hd) hs);have Y:=I.keeps q.2.1 q.1;have ri:=q.2.2;obtain⟨t,rfl⟩:=ri;have r2:Rep c.w c.C (aX ah af H.X ay) d v:=r.mono (λa o h=>bF I.ex I.old q.2.1 _ _ (.inl h));obtain⟨o,ho,z,us,dk,hl,l⟩:=Y.l8;have hsz:(ks.zip us).length<=sizeLine:=by rw[List.length_zip,<-hl,min_self];exact le_trans (le_of_ble_eq_true hz) (by rw[sizeLine_eq];decide)
 refine wpAny_setItem_pairs (knd:=intKind PW c.w) (k:=n) (hsz:=hsz) (intKind_is _ _ _ _) (dk.dictOf ho) λh' hm sb=>?_;have rM:=dk.nodup hl;refine jT hm λo' es ep g1 g2 g3 g4 g5 g6=>?_;clear hm;refine kk _ (Y.mut (od':= .rN (putD ks ds n d).1 (putD ks ds n d).2) sb (le_succ _) g1 ?_);cases hj:aO ks n with
 |none=>
  have hp:putD ks ds n d=(ks++[n],ds++[d]):=by unfold putD;rw[hj]
  rw[hp];rw[(rZ hl hj).1]at g5 g6;exact⟨z,us++[v],⟨g2,es,ep,g3,g4,g5,g6⟩,by simp[hl],l.append (by show ∃_,_;exact⟨v,[],rfl,r2,rfl⟩)⟩
 |some j=>
  have hp:putD ks ds n d=(ks,ds.set j d):=by unfold putD;rw[hj]
  rw[hp];rw[rY hl rM hj]at g5 g6;exact⟨z,us.set j v,⟨g2,es,ep,g3,g4,g5,g6⟩,by simp[hl],l.set r2 j⟩
noncomputable abbrev Wy:=List Int×List Int
noncomputable def l6(W:Wy)(k v:Int):Wy:=match aO W.1 k with
 |some j=>(W.1,W.2.set j v)
 |none=>(W.1++[k],W.2++[v])
noncomputable def bR(W:Wy)(k:Int):Int:=((aO W.1 k).bind (W.2[·]?)).getD 0
noncomputable def dz(W:Wy)(z move:Int)(g:Wy)(D:Int):Wy:=l6 g (D+move) (bR g (D+move)+bR W D*z)
noncomputable def iP(W:Wy)(z move:Int):Wy:=W.1.foldl (dz W z move) W
theorem Fd{W:Wy}{k v:Int}:putD W.1 (W.2.map .int) k (.int v)=((l6 W k v).1,(l6 W k v).2.map .int):=by
 unfold putD l6;cases aO W.1 k with
 |none=>simp
 |some j=>simp[map_set]
theorem xQ{W:Wy}{k:Int}:((aO W.1 k).bind ((W.2.map D.int)[·]?)).getD (.int 0)= .int (bR W k):=by
 unfold bR;cases aO W.1 k with
 |none=>rfl
 |some j=>simp only[Option.bind_some,getElem?_map];cases W.2[j]? <;>rfl
theorem g8{ks:List Int}:∀{k:Int},k∈ks->∃j,aO ks k=some j/\j<ks.length:=by
 induction ks with
 |nil=>intro k h;cases h
 |cons a ks D=>
  intro k h;simp only[cW];by_cases z:a=k
  .exact⟨0,by rw[if_pos z],by simp⟩
  .rcases dg h with e|h
   .exact absurd e.symm z
   .refine aq (D h) λj J I=>?_;exact⟨j+1,by rw[if_neg z,J];rfl,by simp;exact ao 0xb112a10b112a10 [_,_] [] I⟩
theorem te{W:Wy}(hl:W.1.length=W.2.length){k:Int}(z:k∈W.1):mK (.bT W.1 (W.2.map .int)) (.int k)=some (.int (bR W k)):=by refine aq (g8 z) λj I D=>?_;show(aO W.1 k).bind _=_;simp only[bR,I,Option.bind_some,getElem?_map];rw[getElem?_eq_getElem (by exact aM 0xbc0c112a10b112a10 [_,_,_] [] D (dX hl))];rfl
structure Bd(W:Wy)(n B:Nat):Prop where
 len:W.1.length=W.2.length
 cnt:W.1.length<=n
 abs:∀v∈W.2,v.natAbs<=B
theorem nM{W:Wy}{n B:Nat}(b:Bd W n B)(k:Int):(bR W k).natAbs<=B:=by
 unfold bR;cases aO W.1 k with
 |none=>simp
 |some j=>
  simp only[Option.bind_some];cases h:W.2[j]? with
  |none=>simp
  |some v=>exact b.abs v (mem_of_getElem? h)
theorem Cq{W:Wy}{n B D:Nat}(b:Bd W n B)(J:B<=D){k v:Int}(I:v.natAbs<=D):Bd (l6 W k v) (n+1) D:=by
 unfold l6;cases h:aO W.1 k with
 |none=>
  refine⟨by simp[b.len],by simp;exact b.cnt,λx z=>?_⟩;rcases de z with z|z
  .exact le_trans (b.abs x z) J
  .simp at z;subst z;exact I
 |some j=>
  refine⟨by simp[b.len],Nat.le_succ_of_le b.cnt,λx z=>?_⟩;rcases List.mem_or_eq_of_mem_set z with z|z
  .exact le_trans (b.abs x z) J
  .subst z;exact I
theorem rh{W:Wy}{n B w:Nat}(b:Bd W n B){z move:Int}(D:z.natAbs<=w):∀(ks:List Int)(g:Wy)(m C:Nat),Bd g m C->Bd (ks.foldl (dz W z move) g) (m+ks.length) (C+ks.length*(B*w))
 |[],g,m,C,h=>by simpa using h
 |k::ks,g,m,C,h=>by
  rw[foldl_cons];have I:Bd (dz W z move g k) (m+1) (C+B*w):=by refine Cq h (le_add_right _ _) ?_;refine le_trans (Int.natAbs_add_le _ _) (add_le_add (nM h _) ?_);rw[Int.natAbs_mul];exact mul_le_mul (nM b k) D
  have:=rh (move:=move) b D ks _ _ _ I;rw[length_cons];have e1:m+(ks.length+1)=m+1+ks.length:=by exact dG (aI 0xb112a11112b1a10 [_,_] []) (aI 77319451637358864 [_,_] [])
  have e2:C+(ks.length+1)*(B*w)=C+B*w+ks.length*(B*w):=by rw[Nat.add_mul,Nat.one_mul];exact dG (aI 0xbca11cb1a10 [_,_,_] []) (aI 0xbc1a1cba110 [_,_,_] [])
  rw[e1,e2];exact this
theorem xA:EB "str" "index" "str.index":=⟨F.plainAttrs_str,F.slot_str_index,F.type_str_index⟩
theorem pB:EB "str" "count" "str.count":=⟨F.plainAttrs_str,F.slot_str_count,F.type_str_count⟩
noncomputable def lt(i:Nat):Nat:=if i=0 then 102 else if i=1 then 105 else 108
noncomputable def wS(w:List Nat):Str:=⟨(w.map lt).toArray⟩
noncomputable def j7(word:Str)(k own:Nat):Int:=((Builtin.Str.occurrences (dm word none (some (k:Int)) none) ⟨#[lt own]⟩ 0 (dm word none (some (k:Int)) none).length ((dm word none (some (k:Int)) none).length+1)).length:Nat)
noncomputable def fj(i:Int):Int:=[64,1,0].getD i.toNat 0
noncomputable def gC(q:Int)(word:Str)(k own:Nat)(other:Int):Int:= -q^(j7 word k own+(if decide (other< (own:Int))then 1 else 0)).toNat
noncomputable def kd(q:Int)(word:Str)(k own:Nat)(W:Wy):Wy:=
 iP (iP W (gC q word k own (me own)) (fj own-fj (me own))) (gC q word k own (t9 own)) (fj own-fj (t9 own))
noncomputable def cu(q:Int)(w:List Nat):Nat->Wy
 |0=>([0],[1])
 |k+1=>kd q (wS w) k (w.getD k 0) (cu q w k)
theorem CQ{o:Nat}(h:o<3):∃rest,Builtin.Str.occurrences (Str.ofString "fil") ⟨#[lt o]⟩ 0 (Str.ofString "fil").length 1=o::rest:=by
 have z:o=0\/o=1\/o=2:=EE h;rcases z with rfl|rfl|rfl
 .exact⟨[],by decide+kernel⟩
 .exact⟨[],by decide+kernel⟩
 .exact⟨[],by decide+kernel⟩
noncomputable def l9(q:Int)(word:Str)(k own:Nat)(W:Wy):Nat->Wy
 |0=>W
 |1=>iP W (gC q word k own (me own)) (fj own-fj (me own))
 |_=>kd q word k own W
theorem ph(x:Str)(hi:Option Int):(dm x none hi none).length<=x.length:=by
 unfold dm;split
 .exact le_refl _
 .show(toArray _).size<=x.length;rw[size_toArray];refine le_trans (List.length_filterMap_le _ _) ?_;unfold Builtin.Str.strSliceIndices;refine sliceRange_length_le _ _ _ _ (λ_=>?_) (λh=>absurd (by decide) h);simp only[getD_none];refine⟨by simp,?_⟩;cases hi with
  |none=>simp
  |some i=>simp only[show(1:Int)>0 by decide,if_true];exact Int.max_le.mpr ⟨natCast_nonneg _,Int.min_le_right _ _⟩
theorem vH{w:List Nat}(z:w.length<=5)(k own:Nat):0<=j7 (wS w) k own/\j7 (wS w) k own<=10:=by
 have hlen:(wS w).length=w.length:=by simp[wS,Str.length]
 have I:=ph (wS w) (some (k:Int));have D:=StrLaws.occ_length_le_len (dm (wS w) none (some (k:Int)) none) ⟨#[lt own]⟩ 0 (dm (wS w) none (some (k:Int)) none).length ((dm (wS w) none (some (k:Int)) none).length+1);unfold j7;exact⟨aI 684072 [_] [],NT 0x512e0ed0dc0112c1b0ba0a12a78 [_,_,_,_,_] [] D qx I (dX hlen) z⟩
theorem yG{q:Int}(D:q.natAbs<=9){w:List Nat}(z:w.length<=5)(k own:Nat)(other:Int):(gC q (wS w) k own other).natAbs<=2^35:=by
 have:=vH z k own;unfold gC;have he:(j7 (wS w) k own+(if decide (other< (own:Int))then 1 else 0)).toNat<=11:=by split;rename_i I;exact aM 0xa12a8112a1a78b12a0 [_] [_] (rP (ao 0xa028112a1028 [] [_] this.1)) this.2;rename_i I;exact aM 0xa12a802a1a78b12a0 [_] [_] (rP (ao 0xa02802a1028 [] [_] this.1)) this.2
 rw[natAbs_neg,natAbs_pow];exact le_trans (Nat.pow_le_pow_left D _) (le_trans (pow_le_pow_right (by decide) he) (by decide))
theorem Bd.mono{W:Wy}{n z B D:Nat}(b:Bd W n B)(hn:n<=z)(J:B<=D):Bd W z D:=⟨b.len,le_trans b.cnt hn,λv I=>le_trans (b.abs v I) J⟩
theorem sd{W:Wy}{j:Nat}(I:j<=12)(b:Bd W (2^j) (2^(50*j))){z move:Int}(D:z.natAbs<=2^35):Bd (iP W z move) (2^(j+1)) (2^(50*(j+1))):=by
 have h:=rh (move:=move) b D W.1 W _ _ b;refine Bd.mono h ?_ ?_
 .rw[pow_succ,Nat.mul_two];exact add_le_add_left b.cnt _
 .have h1:W.1.length*(2^(50*j)*2^35)<=2^j*(2^(50*j)*2^35):=Nat.mul_le_mul_right _ b.cnt;have Y:(2:Nat)^j<=2^12:=pow_le_pow_right (by decide) I;have J:(2:Nat)^(50*(j+1))=2^(50*j)*2^50:=by rw[mul_add,pow_add]
  rw[J];exact KR h1 Y
theorem zN{q:Int}(D:q.natAbs<=9){w:List Nat}(z:w.length<=5){k own j:Nat}(I:j<=10){W:Wy}(b:Bd W (2^j) (2^(50*j))):Bd (l9 q (wS w) k own W 1) (2^(j+1)) (2^(50*(j+1)))/\Bd (l9 q (wS w) k own W 2) (2^(j+2)) (2^(50*(j+2))):=by have J:Bd (l9 q (wS w) k own W 1) (2^(j+1)) (2^(50*(j+1))):=sd (by exact ao 692195168928 [_] [] I) b (yG D z _ _ _);exact⟨J,sd (j:=j+1) (by exact ao 0xa12a0c12112a10 [_] [] I) J (yG D z _ _ _)⟩
theorem qz{q:Int}(D:q.natAbs<=9){w:List Nat}(z:w.length<=5):∀k,k<=5->Bd (cu q w k) (2^(2*k)) (2^(50*(2*k)))
 |0,_=>⟨rfl,le_refl 1,by simp[show cu q w 0=([0],[1])from rfl]⟩
 |k+1,h=>(zN D z (j:=2*k) (by exact ao 0x512112a11a12a2130 [_] [] h) (qz D z k (by exact ao 0x512112a10512a0 [_] [] h))).2
theorem G0{q:Int}(I:q.natAbs<=9){w:List Nat}(D:w.length<=5){k own j:Nat}(z:k<=4)(J:j<=2):∃n B,Bd (l9 q (wS w) k own (cu q w k) j) n B/\n<=10000/\B<DN:=by
 have b:=qz I D k (by exact ao 279877849760 [_] [] z);have m:=zN I D (k:=k) (own:=own) (j:=2*k) (by exact ao 0x412a1a12a2130 [_] [] z) b;have up:∀i,i<=10->(2:Nat)^i<=10000/\(2:Nat)^(50*i)<DN:=λi hi=>⟨le_trans (pow_le_pow_right (by decide) hi) (by decide),lt_of_lt_of_le (Nat.pow_lt_pow_right (by decide) (show 50*i<501 by exact ao 0xa123223a322301f532112a322310 [_] [] (mul_le_mul_left 50 hi))) (pow_le_pow_right (by decide) (by decide):2^501<=2^2000)⟩
 rcases EE (Nat.lt_succ_of_le J)with rfl|rfl|rfl
 .exact⟨_,_,b,(up (2*k) (by exact ao 0x412a1a12a2130 [_] [] z)).1,(up (2*k) (by exact ao 0x412a1a12a2130 [_] [] z)).2⟩
 .exact⟨_,_,m.1,(up (2*k+1) (by exact ao 0x412a1a12112a21310 [_] [] z)).1,(up (2*k+1) (by exact ao 0x412a1a12112a21310 [_] [] z)).2⟩
 .exact⟨_,_,m.2,(up (2*k+2) (by exact ao 0x412a1a12212a21310 [_] [] z)).1,(up (2*k+2) (by exact ao 0x412a1a12212a21310 [_] [] z)).2⟩
theorem yR{i:Int}(h:0<=i/\i<3):mK (.tup ([64,1,0].map .int)) (.int i)=some (.int (fj i)):=by have z:i=0\/i=1\/i=2:=Pd h.1 h.2;rcases z with rfl|rfl|rfl<;>rfl
set_option maxRecDepth 100000 in
set_option maxHeartbeats 4000000 in
theorem CB(g:Gl c)(R:aL A 5){v:Value}(f:FnAt c 23 "_law_ways" v){q:Int}{w:List Nat}(hw:w.length<=5)(hq:q.natAbs<=9)(hl:∀x∈w,x<3):
 Callee c A v [.str (wS w),.int q] (.bT (cu q w w.length).1 ((cu q w w.length).2.map .int)):=by
 have hlen:(wS w).length=w.length:=by simp[wS,Str.length]
 refine br g.B R f.f rfl rfl rfl rfl (by decide) (by decide) (by decide) λA' L ad cd G E af s Q kq R' F=>?_;refine @gh.out _ (bS (d:= .bT [0] [.int 1]) F (λG=>AE g.B) (.inl rfl) rfl rfl λU F=>?_)
 refine dK (λ_=>[]) F (λG=>dQ (b:=(w.length:Int)) g.B R'.handled rfl (g.no _ (by decide)) (aF g.B rfl (g.no _ (by decide)) bootS_len (by decide) (.b _) (ae (aa rfl) ai) rfl (gP ?_)) rfl (by exact aI 718301959560 [_] []) (by exact ao 0x512a03e2215112a718 [_] [] hw)) (.inl rfl)
  (λi ρ=>ρ.lookup ("word":Str)=some (D.str (wS w))/\ρ.lookup ("q":Str)=some (D.int q)/\ρ.lookup ("ways":Str)=some (.bT (cu q w i).1 ((cu q w i).2.map .int)))
  ⟨rfl,rfl,rfl⟩ (λ_=>rfl) ?_ ?_
 .show(if sizeOk _ then some _ else none)=_;rw[hlen,if_pos (aD (by exact ao 0x512a03d090062a0 [_] [] hw))]
 .intro E1 i d ρ s H1 Q1 P9 kb1 R8 hY hZ hb hd J;refine @eJ _ _ _ _ J λLJ Hq Kl=>?_;clear J;intro F;have hi:i<w.length/\d= .int i:=by
   have h1:i< (aJ 0 (w.length:Int)).length:=by
    rcases lt_or_ge i (aJ 0 (w.length:Int)).length with h|h
    .exact h
    .rw[List.getElem?_eq_none h]at hd;exact ns hd
   have h2:(aJ 0 (w.length:Int)).length=w.length:=by simp[aJ]
   refine⟨by exact aM 0xbc0c112a10b112a10 [_,_,_] [] h1 (dX h2),?_⟩;simp only[aJ,getElem?_map,getElem?_range (show i< ((w.length:Int)-0).toNat by exact cU 0xb702d768dc0c112a10b112a10 [_,_,_,_] [] h1 (dX h2) uc),map_some,Option.some.injEq]at hd;rw[<-hd];simp
  obtain⟨hi,rfl⟩:=hi;have hx:w.getD i 0<3:=by rw[getD_eq_getElem?_getD,getElem?_eq_getElem hi];exact hl _ (getElem_mem hi)
  have yu:(wS w).cps[i]? =some (lt (w.getD i 0)):=by simp[wS,getElem?_eq_getElem hi,getD_eq_getElem?_getD]
  have EW:mK (.str (wS w)) (.int i)=some (.str ⟨#[lt (w.getD i 0)]⟩):=by rw[EV (natCast_nonneg _) (by exact aM 0x512b0b112a103e2215112a718 [_,_] [] hi hw)];rw[show((i:Int)).toNat=i from rfl,yu];rfl
  generalize ho:w.getD i 0=o at hx yu EW;obtain⟨rest,Mg⟩:=CQ hx;refine @gh.out _ (bS (d:= .int o) F (λG=>dA (d0:= .str "fil") xA rfl eh (ae (aS (o:= .str (wS w)) (i:= .int i) (aa LJ) (aa rfl) EW) ai) rfl (DJ Mg) rfl rfl rfl) (.inl rfl) rfl rfl λU F=>?_)
  refine dK (λ_=>[]) F (λG=>ke R'.handled (ds:=[.int (me o),.int (t9 o)]) (bb (ae (ag (ag (aa rfl) aj rfl) aj (eo (by decide))) (ae (ag (ag (aa rfl) aj rfl) aj (eo (by decide))) ai)))) (.inl rfl)
   (λj ρ=>ρ.lookup ("word":Str)=some (D.str (wS w))/\ρ.lookup ("q":Str)=some (D.int q)/\ρ.lookup ("k":Str)=some (D.int i)/\ρ.lookup ("own":Str)=some (D.int o)/\
    ρ.lookup ("ways":Str)=some (.bT (l9 q (wS w) i o (cu q w i) j).1 ((l9 q (wS w) i o (cu q w i) j).2.map .int)))
   ⟨LJ,Hq,rfl,rfl,Kl⟩ (λ_=>rfl) ?_ ?_
  .intro E2 j d ρ s H2 Q2 P8 kb2 R7 OO Si Hw hd J;refine ib J λIP Ko BG FY Hm=>?_;clear J;intro F;obtain⟨z,rfl,LX,Jb⟩:∃z,d= .int z/\(0<=z/\z<3)/\l9 q (wS w) i o (cu q w i) (j+1)=iP (l9 q (wS w) i o (cu q w i) j) (gC q (wS w) i o z) (fj o-fj z):=by
    exact at2 (P:=λj d=>∃z,d= .int z/\(0<=z/\z<3)/\l9 q (wS w) i o (cu q w i) (j+1)=iP (l9 q (wS w) i o (cu q w i) j) (gC q (wS w) i o z) (fj o-fj z)) hd
     ⟨me o,rfl,⟨fmod_nonneg_of_pos _ (by decide),fmod_lt_of_pos _ (by decide)⟩,rfl⟩ ⟨t9 o,rfl,⟨fmod_nonneg_of_pos _ (by decide),fmod_lt_of_pos _ (by decide)⟩,rfl⟩
   obtain⟨n,B,Y,hn,hB⟩:∃n B,Bd (l9 q (wS w) i o (cu q w i) j) n B/\n<=10000/\B<DN:=G0 hq hw (by exact aM 0x512b0b112a10412a0 [_,_] [] hi hw) (at2 (P:=λj _=>j<=2) hd (by decide) (by decide));have oJ:0<=j7 (wS w) i o/\j7 (wS w) i o<=10:=vH hw i o;generalize l9 q (wS w) i o (cu q w i) j=W at Hm Jb Y;have C1:0<=j7 (wS w) i o+(if decide (z< (o:Int))then 1 else 0)/\j7 (wS w) i o+(if decide (z< (o:Int))then 1 else 0)<=11:=by split;rename_i h9;exact⟨ao 0xa028112a1028 [] [_] oJ.1,ao 0xa12a8b12112a18 [] [_] oJ.2⟩;rename_i h9;exact⟨ao 0xa02802a1028 [] [_] oJ.1,ao 0xa12a8b1202a18 [] [_] oJ.2⟩
   have LG:(gC q (wS w) i o z).natAbs<big:=kS hq (by exact aM 0xb12ba18ba1a781422a0 [_] [_,_] (rP (ao 0xba1028ba1028 [] [_,_] C1.1)) C1.2);refine av (d:= .int (gC q (wS w) i o z)) F (λG=>?_) (.inl rfl) rfl rfl λU F=>?_
   .refine gN (a:= .int (q^(j7 (wS w) i o+(if decide (z< (o:Int))then 1 else 0)).toNat)) (ag (a:= .int q) (b:= .int (j7 (wS w) i o+(if decide (z< (o:Int))then 1 else 0))) (aa Ko)
     (ag (a:= .int (j7 (wS w) i o)) (b:= .int (if decide (z< (o:Int))then 1 else 0)) (dA (d0:= .str (dm (wS w) none (some (i:Int)) none)) pB rfl
      (cK (o:= .str (wS w)) (lo:=none) (hi:=some (i:Int)) (st:=none) (aa IP) trivial (aa BG) trivial ?_) (ae (aS (o:= .str (wS w)) (i:= .int i) (aa IP) (aa BG) EW) ai) rfl wJ rfl rfl rfl)
      (pR (b:=decide (z< (o:Int))) (aC g.B R' (aa FY) (aa rfl) rfl) (λh=>?_) (λh=>?_)) rfl) (en (bV C1.1 (dP hq) (by exact ao 0xb12ba183e832ba18 [] [_,_] C1.2)))) rfl
    .show(if sizeOk _ then some _ else none)=_;rw[if_pos (aD (le_trans (ph _ _) (by exact aM 0x512b0ba03d090062a0 [_,_] [] (dX hlen) hw)))]
    .rw[h];exact aj
    .rw[h];exact aj
   refine av (d:= .int (fj o-fj z)) F (λG=>?_) (.inl rfl) rfl rfl λU F=>?_
   .exact ag (a:= .int (fj o)) (b:= .int (fj z)) (aS (o:= .tup ([64,1,0].map .int)) (i:= .int o) (bb (ae aj (ae aj (ae aj ai)))) (aa FY) (yR (by exact⟨aI 684072 [_] [],ao 0x312112a10312112a718 [_] [] hx⟩))) (aS (o:= .tup ([64,1,0].map .int)) (i:= .int z) (bb (ae aj (ae aj (ae aj ai)))) (aa rfl) (yR LX)) rfl
   have Qc:=F.zx;refine iS (od:= .rN W.1 (W.2.map .int)) F (λG=>Az g.B rfl (g.no _ (by decide)) (aa Hm) rfl (aD (le_trans Y.cnt (by exact ao 0x271042a03d090062a0 [_] [] hn)))) (.inl rfl) rfl rfl λa U ha F=>?_
   refine dK (λm=>[(("grown":Str),a,OD.rN ((W.1.take m).foldl (dz W (gC q (wS w) i o z) (fj o-fj z)) W).1 (((W.1.take m).foldl (dz W (gC q (wS w) i o z) (fj o-fj z)) W).2.map .int))]) F (λG=>sW R'.handled (aa Hm)) (.inl rfl)
    (λm ρ=>ρ.lookup ("word":Str)=some (D.str (wS w))/\ρ.lookup ("q":Str)=some (D.int q)/\ρ.lookup ("k":Str)=some (D.int i)/\ρ.lookup ("own":Str)=some (D.int o)/\ρ.lookup ("ways":Str)=some (.bT W.1 (W.2.map .int))/\
     ρ.lookup ("weight":Str)=some (D.int (gC q (wS w) i o z))/\ρ.lookup ("move":Str)=some (D.int (fj o-fj z))/\ρ.lookup ("grown":Str)=some (D.adr a))
    ⟨IP,Ko,BG,FY,Hm,rfl,rfl,rfl⟩ (λ_=>rfl) ?_ ?_
   .intro E3 m d ρ s H3 Q3 P7 R9 R6 Sj Sh Sg hd J;refine yc J λLI LU Md I6 LD FU CW Mh=>?_;clear J;intro F;obtain⟨I,CX,rfl⟩:∃I,W.1[m]? =some I/\D.int I=d:=by simpa using hd
    have Ac:I∈W.1:=mem_of_getElem? CX;have Eh:=rh (move:=fj o-fj z) (w:=(gC q (wS w) i o z).natAbs) Y (le_refl _) (W.1.take m) W n B Y;generalize hg:(W.1.take m).foldl (dz W (gC q (wS w) i o z) (fj o-fj z)) W=gr at F Eh;have kh:(W.1.take (m+1)).foldl (dz W (gC q (wS w) i o z) (fj o-fj z)) W=l6 gr (I+(fj o-fj z)) (bR gr (I+(fj o-fj z))+bR W I*gC q (wS w) i o z):=by rw[take_add_one,CX,Option.toList_some,foldl_append,hg];rfl
    refine Ca (n:=I+(fj o-fj z)) (d:= .int (bR gr (I+(fj o-fj z))+bR W I*gC q (wS w) i o z)) F (λG=>?_) rfl (λG=>?_) ?_ λU F=>?_
    .refine ag (a:= .int (bR gr (I+(fj o-fj z)))) (b:= .int (bR W I*gC q (wS w) i o z)) (dA (d0:= .bT gr.1 (gr.2.map .int)) qR rfl (aa rfl) (ae (ag (aa rfl) (aa CW) rfl) (ae aj ai)) rfl (GL xQ) rfl rfl rfl)
      (ag (aS (o:= .bT W.1 (W.2.map .int)) (i:= .int I) (aa LD) (aa rfl) (te Y.len Ac)) (aa FU) (dp (bh (lt_of_le_of_lt (nM Y I) (lt_of_lt_of_le hB DM)) LG))) rfl
    .exact ag (aa rfl) (aa CW) rfl
    .refine aD (le_trans Eh.cnt ?_);have:(W.1.take m).length<=W.1.length:=by rw[length_take];exact ao 12192672 [_,_] [] Bx
     exact le_trans (add_le_add hn (le_trans this (le_trans Y.cnt hn))) (by decide)
    .refine wpAny_execs_nil (P7 _ _ ?_ (F.ow ?_))
     .exact⟨LI,LU,Md,I6,LD,FU,CW,Mh⟩
     rw[kh,Fd]
   .intro ρ s J;refine yc J λLI LU Md I6 LD FU CW Mh=>?_;clear J;intro F;refine av (d:= .adr a) F (λG=>aa Mh) (.inl rfl) rfl rfl λU F=>?_;have F:=F.freeze ["ways"] (by simp);rw[Hd.rG ha (λh=>ha (Qc a h))]at F;refine wpAny_execs_nil (P8 _ _ ?_ F);refine⟨LI,LU,Md,I6,?_⟩;rw[Jb];have e1:(W.1.map D.int).length=W.1.length:=by simp
    have e2:W.1.take W.1.length=W.1:=take_of_length_le (le_refl _);rw[e1,e2];rfl
  .intro ρ s J;refine ib J λIP Ko BG FY Hm=>?_;clear J;intro F;refine wpAny_execs_nil (P9 _ _ ?_ F);refine⟨IP,Ko,?_⟩;rw[show cu q w (i+1)=kd q (wS w) i (w.getD i 0) (cu q w i)from rfl,ho];exact Hm
 .intro ρ s J;refine @eJ _ _ _ _ J λLJ Hq Kl=>?_;clear J;intro F;have e1:(aJ 0 (w.length:Int)).length=w.length:=by simp[aJ]
  rw[e1]at Kl;exact aK F (λG=>aa Kl) λv U F r=>kq _ _ _ _ _ F r
noncomputable def iE(x y:UInt64):Bool:=cmp x y==some .eq
noncomputable def xN(r g b D z:UInt64):UInt64:=
 let rc:=div (Float64.sub D r) z
 let I:=div (Float64.sub D g) z
 let J:=div (Float64.sub D b) z
 let h:=if iE r D then Float64.sub J I else if iE g D then Float64.sub (add 0x4000000000000000 rc) J else Float64.sub (add 0x4010000000000000 I) rc
 (divmod (div h 0x4018000000000000) 0x3FF0000000000000).2
noncomputable def iB(r g b:UInt64):UInt64×UInt64×UInt64:=
 let z:=aH r g b
 let D:=aY r g b
 if iE D z then(0,0,z)else(xN r g b z (Float64.sub z D),div (Float64.sub z D) z,z)
theorem Fp(g:Gl c)(R:aL A 5){v:Value}(f:FnAt c 11 "rgb_to_hsv" v){x y z:UInt64}(h1:iE (aY x y z) (aH x y z)=false->isZero (aH x y z)=false/\isZero (Float64.sub (aH x y z) (aY x y z))=false):
 Callee c A v [.aV x,.aV y,.aV z] (.tup [.aV (iB x y z).1,.aV (iB x y z).2.1,.aV (iB x y z).2.2]):=by
 refine br g.B R f.f rfl rfl rfl rfl (by decide) (by decide) (by decide) λA' L ad cd G E af s Q kq J F=>?_;refine av (d:= .aV (aH x y z)) F (λG=>aF g.B rfl (g.no _ (by decide)) boot_max (by decide) (.b _) (ae (aa rfl) (ae (aa rfl) (ae (aa rfl) ai))) rfl (Bh J)) (.inl rfl) rfl rfl λU F=>?_;refine av (d:= .aV (aY x y z)) F (λG=>aF g.B rfl (g.no _ (by decide)) (show bootBuiltins "min"=some (.builtin "min") by decide+kernel) (by decide) (.b _) (ae (aa rfl) (ae (aa rfl) (ae (aa rfl) ai))) rfl (Bg J)) (.inl rfl) rfl rfl λU F=>?_;refine av (d:= .aV (Float64.sub (aH x y z) (aY x y z))) F (λG=>ag (aa rfl) (aa rfl) rfl) (.inl rfl) rfl rfl λU F=>?_;refine av (d:= .aV (aH x y z)) F (λG=>aa rfl) (.inl rfl) rfl rfl λU F=>?_;cases he:iE (aY x y z) (aH x y z)with
 |true=>
  refine bK F (b:=true) (λG=>aC g.B J (a:= .aV (aY x y z)) (b:= .aV (aH x y z)) (aa rfl) (aa rfl) (congrArg some he)) λU F=>?_;have e:iB x y z=(0,0,aH x y z):=by unfold iB;simp only[he,if_true]
  rw[e]at kq;exact aK (d:= .tup [.aV 0,.aV 0,.aV (aH x y z)]) F (λG=>bb (ae dD (ae dD (ae (aa rfl) ai)))) λv U F r=>kq _ _ _ _ _ F r
 |false=>
  obtain⟨z1,z2⟩:=h1 he;refine bK F (b:=false) (λG=>aC g.B J (a:= .aV (aY x y z)) (b:= .aV (aH x y z)) (aa rfl) (aa rfl) (congrArg some he)) λU F=>?_;refine wpAny_execs_nil ?_;refine av F (λG=>ag (aa rfl) (aa rfl) (bZ z1)) (.inl rfl) rfl rfl λU F=>?_;refine av F (λG=>ag (ag (aa rfl) (aa rfl) rfl) (aa rfl) (bZ z2)) (.inl rfl) rfl rfl λU F=>?_;refine av F (λG=>ag (ag (aa rfl) (aa rfl) rfl) (aa rfl) (bZ z2)) (.inl rfl) rfl rfl λU F=>?_;refine av F (λG=>ag (ag (aa rfl) (aa rfl) rfl) (aa rfl) (bZ z2)) (.inl rfl) rfl rfl λU F=>?_;have zd:isZero 0x4018000000000000=false:=by decide+kernel
  have zo:isZero 0x3FF0000000000000=false:=by decide+kernel
  have fin:∀Y:UInt64,iB x y z=((divmod (div Y 0x4018000000000000) 0x3FF0000000000000).2,div (Float64.sub (aH x y z) (aY x y z)) (aH x y z),aH x y z)->∀(ρ:List (Str×D))(s:Shared),ρ.lookup ("h":Str)=some (.aV Y)->ρ.lookup ("s":Str)=some (.aV (div (Float64.sub (aH x y z) (aY x y z)) (aH x y z)))->ρ.lookup ("v":Str)=some (.aV (aH x y z))->
   Fs c G af (iG (ak (aw 11)) L) (bG (ak (aw 11)) "rgb_to_hsv" L ad cd) ρ [] s->
   wpAny (model PW c.w) A' (execs ((bp (aw 11)).drop 10) (bG (ak (aw 11)) "rgb_to_hsv" L ad cd)) Q E s:=by
   intro Y hE ρ s q1 q2 q3 F;rw[hE]at kq;refine av F (λG=>ag (ag (aa q1) dD (bZ zd)) dD (om zo)) (.inl rfl) rfl rfl λU F=>?_;exact aK (d:= .tup [.aV _,.aV _,.aV _]) F (λG=>bb (ae (aa rfl) (ae (aa q2) (ae (aa q3) ai)))) λv U F r=>kq _ _ _ _ _ F r
  have I:∀Y,(if iE x (aH x y z)then Float64.sub (div (Float64.sub (aH x y z) z) (Float64.sub (aH x y z) (aY x y z))) (div (Float64.sub (aH x y z) y) (Float64.sub (aH x y z) (aY x y z)))else
   if iE y (aH x y z)then Float64.sub (add 0x4000000000000000 (div (Float64.sub (aH x y z) x) (Float64.sub (aH x y z) (aY x y z)))) (div (Float64.sub (aH x y z) z) (Float64.sub (aH x y z) (aY x y z)))else
   Float64.sub (add 0x4010000000000000 (div (Float64.sub (aH x y z) y) (Float64.sub (aH x y z) (aY x y z)))) (div (Float64.sub (aH x y z) x) (Float64.sub (aH x y z) (aY x y z))))=Y->
   iB x y z=((divmod (div Y 0x4018000000000000) 0x3FF0000000000000).2,div (Float64.sub (aH x y z) (aY x y z)) (aH x y z),aH x y z):=by
   rintro Y rfl;unfold iB xN;simp only[he,false_eq_true,if_false]
  cases ha:iE x (aH x y z)with
  |true=>rw[ha]at I;refine bK F (b:=true) (λG=>aC g.B J (a:= .aV x) (b:= .aV (aH x y z)) (aa rfl) (aa rfl) (congrArg some ha)) λU F=>?_;refine av F (λG=>ag (aa rfl) (aa rfl) rfl) (.inl rfl) rfl rfl λU F=>wpAny_execs_nil (fin _ (I _ rfl) _ _ rfl rfl rfl F)
  |false=>
   rw[ha]at I;refine bK F (b:=false) (λG=>aC g.B J (a:= .aV x) (b:= .aV (aH x y z)) (aa rfl) (aa rfl) (congrArg some ha)) λU F=>?_;cases hb:iE y (aH x y z)with
   |true=>rw[hb]at I;refine bK F (b:=true) (λG=>aC g.B J (a:= .aV y) (b:= .aV (aH x y z)) (aa rfl) (aa rfl) (congrArg some hb)) λU F=>?_;refine av F (λG=>ag (ag dD (aa rfl) rfl) (aa rfl) rfl) (.inl rfl) rfl rfl λU F=>wpAny_execs_nil (wpAny_execs_nil (fin _ (I _ rfl) _ _ rfl rfl rfl F))
   |false=>rw[hb]at I;refine bK F (b:=false) (λG=>aC g.B J (a:= .aV y) (b:= .aV (aH x y z)) (aa rfl) (aa rfl) (congrArg some hb)) λU F=>?_;refine av F (λG=>ag (ag dD (aa rfl) rfl) (aa rfl) rfl) (.inl rfl) rfl rfl λU F=>wpAny_execs_nil (wpAny_execs_nil (fin _ (I _ rfl) _ _ rfl rfl rfl F))
noncomputable def FC(x y:UInt64):Bool:=cmp x y==some .lt||cmp x y==some .eq
noncomputable def oE(D z:UInt64):UInt64:=
 if FC (div (add D z) 0x4000000000000000) 0x3FE0000000000000 then div (Float64.sub D z) (add D z)else div (Float64.sub D z) (Float64.sub (Float64.sub 0x4000000000000000 D) z)
noncomputable def jd(r g b:UInt64):UInt64×UInt64×UInt64:=
 let z:=aH r g b
 let D:=aY r g b
 let l:=div (add z D) 0x4000000000000000
 if iE D z then(0,l,0)else(xN r g b z (Float64.sub z D),l,oE z D)
theorem Fq(g:Gl c)(R:aL A 5){v:Value}(f:FnAt c 10 "rgb_to_hls" v){x y z:UInt64}(h1:iE (aY x y z) (aH x y z)=false->isZero (Float64.sub (aH x y z) (aY x y z))=false/\
 (FC (div (add (aH x y z) (aY x y z)) 0x4000000000000000) 0x3FE0000000000000=true->isZero (add (aH x y z) (aY x y z))=false)/\(FC (div (add (aH x y z) (aY x y z)) 0x4000000000000000) 0x3FE0000000000000=false->isZero (Float64.sub (Float64.sub 0x4000000000000000 (aH x y z)) (aY x y z))=false)):
 Callee c A v [.aV x,.aV y,.aV z] (.tup [.aV (jd x y z).1,.aV (jd x y z).2.1,.aV (jd x y z).2.2]):=by
 refine br g.B R f.f rfl rfl rfl rfl (by decide) (by decide) (by decide) λA' L ad cd G E af s Q kq J F=>?_;have Pn:isZero 0x4000000000000000=false:=by decide+kernel
 refine av (d:= .aV (aH x y z)) F (λG=>aF g.B rfl (g.no _ (by decide)) boot_max (by decide) (.b _) (ae (aa rfl) (ae (aa rfl) (ae (aa rfl) ai))) rfl (Bh J)) (.inl rfl) rfl rfl λU F=>?_;refine av (d:= .aV (aY x y z)) F (λG=>aF g.B rfl (g.no _ (by decide)) (show bootBuiltins "min"=some (.builtin "min") by decide+kernel) (by decide) (.b _) (ae (aa rfl) (ae (aa rfl) (ae (aa rfl) ai))) rfl (Bg J)) (.inl rfl) rfl rfl λU F=>?_;refine av (d:= .aV (add (aH x y z) (aY x y z))) F (λG=>ag (aa rfl) (aa rfl) rfl) (.inl rfl) rfl rfl λU F=>?_;refine av (d:= .aV (Float64.sub (aH x y z) (aY x y z))) F (λG=>ag (aa rfl) (aa rfl) rfl) (.inl rfl) rfl rfl λU F=>?_;refine av (d:= .aV (div (add (aH x y z) (aY x y z)) 0x4000000000000000)) F (λG=>ag (aa rfl) dD (bZ Pn)) (.inl rfl) rfl rfl λU F=>?_;cases he:iE (aY x y z) (aH x y z)with
 |true=>
  refine bK F (b:=true) (λG=>aC g.B J (a:= .aV (aY x y z)) (b:= .aV (aH x y z)) (aa rfl) (aa rfl) (congrArg some he)) λU F=>?_;have e:jd x y z=(0,(div (add (aH x y z) (aY x y z)) 0x4000000000000000),0):=by unfold jd;simp only[he,if_true]
  rw[e]at kq;exact aK (d:= .tup [.aV 0,.aV (div (add (aH x y z) (aY x y z)) 0x4000000000000000),.aV 0]) F (λG=>bb (ae dD (ae (aa rfl) (ae dD ai)))) λv U F r=>kq _ _ _ _ _ F r
 |false=>
  refine eJ (h1 he) λz2 z3 z4=>?_;refine bK F (b:=false) (λG=>aC g.B J (a:= .aV (aY x y z)) (b:= .aV (aH x y z)) (aa rfl) (aa rfl) (congrArg some he)) λU F=>?_;refine wpAny_execs_nil ?_;have zd:isZero 0x4018000000000000=false:=by decide+kernel
  have zo:isZero 0x3FF0000000000000=false:=by decide+kernel
  have fin:∀hh:UInt64,jd x y z=((divmod (div hh 0x4018000000000000) 0x3FF0000000000000).2,(div (add (aH x y z) (aY x y z)) 0x4000000000000000),oE (aH x y z) (aY x y z))->∀(ρ:List (Str×D))(s:Shared),Fs c G af (iG (ak (aw 10)) L) (bG (ak (aw 10)) "rgb_to_hls" L ad cd) ρ [] s->ρ.lookup ("h":Str)=some (.aV hh)->ρ.lookup ("s":Str)=some (.aV (oE (aH x y z) (aY x y z)))->ρ.lookup ("l":Str)=some (.aV (div (add (aH x y z) (aY x y z)) 0x4000000000000000))->
   wpAny (model PW c.w) A' (execs ((bp (aw 10)).drop 11) (bG (ak (aw 10)) "rgb_to_hls" L ad cd)) Q E s:=by
   intro hh hE ρ s F q1 q2 q3;rw[hE]at kq;refine av F (λG=>ag (ag (aa q1) dD (bZ zd)) dD (om zo)) (.inl rfl) rfl rfl λU F=>?_;exact aK (d:= .tup [.aV _,.aV _,.aV _]) F (λG=>bb (ae (aa rfl) (ae (aa q3) (ae (aa q2) ai)))) λv U F r=>kq _ _ _ _ _ F r
  have I:∀hh,(if iE x (aH x y z)then Float64.sub (div (Float64.sub (aH x y z) z) (Float64.sub (aH x y z) (aY x y z))) (div (Float64.sub (aH x y z) y) (Float64.sub (aH x y z) (aY x y z)))else
   if iE y (aH x y z)then Float64.sub (add 0x4000000000000000 (div (Float64.sub (aH x y z) x) (Float64.sub (aH x y z) (aY x y z)))) (div (Float64.sub (aH x y z) z) (Float64.sub (aH x y z) (aY x y z)))else
   Float64.sub (add 0x4010000000000000 (div (Float64.sub (aH x y z) y) (Float64.sub (aH x y z) (aY x y z)))) (div (Float64.sub (aH x y z) x) (Float64.sub (aH x y z) (aY x y z))))=hh->
   jd x y z=((divmod (div hh 0x4018000000000000) 0x3FF0000000000000).2,(div (add (aH x y z) (aY x y z)) 0x4000000000000000),oE (aH x y z) (aY x y z)):=by
   rintro hh rfl;unfold jd xN;simp only[he,false_eq_true,if_false]
  have mid:∀(ρ:List (Str×D))(s:Shared),Fs c G af (iG (ak (aw 10)) L) (bG (ak (aw 10)) "rgb_to_hls" L ad cd) ρ [] s->ρ.lookup ("maxc":Str)=some (.aV (aH x y z))->ρ.lookup ("r":Str)=some (.aV x)->ρ.lookup ("g":Str)=some (.aV y)->ρ.lookup ("b":Str)=some (.aV z)->ρ.lookup ("rangec":Str)=some (.aV (Float64.sub (aH x y z) (aY x y z)))->ρ.lookup ("s":Str)=some (.aV (oE (aH x y z) (aY x y z)))->ρ.lookup ("l":Str)=some (.aV (div (add (aH x y z) (aY x y z)) 0x4000000000000000))->
   wpAny (model PW c.w) A' (execs ((bp (aw 10)).drop 7) (bG (ak (aw 10)) "rgb_to_hls" L ad cd)) Q E s:=by
   intro ρ s F qm qr qg qb Y qs ql;refine av F (λG=>ag (ag (aa qm) (aa qr) rfl) (aa Y) (bZ z2)) (.inl rfl) rfl rfl λU F=>?_;refine av F (λG=>ag (ag (aa qm) (aa qg) rfl) (aa Y) (bZ z2)) (.inl rfl) rfl rfl λU F=>?_;refine av F (λG=>ag (ag (aa qm) (aa qb) rfl) (aa Y) (bZ z2)) (.inl rfl) rfl rfl λU F=>?_;cases ha:iE x (aH x y z)with
   |true=>rw[ha]at I;refine bK F (b:=true) (λG=>aC g.B J (a:= .aV x) (b:= .aV (aH x y z)) (aa qr) (aa qm) (congrArg some ha)) λU F=>?_;refine av F (λG=>ag (aa rfl) (aa rfl) rfl) (.inl rfl) rfl rfl λU F=>wpAny_execs_nil (fin _ (I _ rfl) _ _ F rfl qs ql)
   |false=>
    rw[ha]at I;refine bK F (b:=false) (λG=>aC g.B J (a:= .aV x) (b:= .aV (aH x y z)) (aa qr) (aa qm) (congrArg some ha)) λU F=>?_;cases hb:iE y (aH x y z)with
    |true=>rw[hb]at I;refine bK F (b:=true) (λG=>aC g.B J (a:= .aV y) (b:= .aV (aH x y z)) (aa qg) (aa qm) (congrArg some hb)) λU F=>?_;refine av F (λG=>ag (ag dD (aa rfl) rfl) (aa rfl) rfl) (.inl rfl) rfl rfl λU F=>wpAny_execs_nil (wpAny_execs_nil (fin _ (I _ rfl) _ _ F rfl qs ql))
    |false=>rw[hb]at I;refine bK F (b:=false) (λG=>aC g.B J (a:= .aV y) (b:= .aV (aH x y z)) (aa qg) (aa qm) (congrArg some hb)) λU F=>?_;refine av F (λG=>ag (ag dD (aa rfl) rfl) (aa rfl) rfl) (.inl rfl) rfl rfl λU F=>wpAny_execs_nil (wpAny_execs_nil (fin _ (I _ rfl) _ _ F rfl qs ql))
  cases hl:FC (div (add (aH x y z) (aY x y z)) 0x4000000000000000) 0x3FE0000000000000 with
  |true=>
   have e:oE (aH x y z) (aY x y z)=div (Float64.sub (aH x y z) (aY x y z)) (add (aH x y z) (aY x y z)):=by unfold oE;rw[hl];rfl
   refine bK F (b:=true) (λG=>aC g.B J (a:= .aV (div (add (aH x y z) (aY x y z)) 0x4000000000000000)) (b:= .aV 0x3FE0000000000000) (aa rfl) dD (congrArg some hl)) λU F=>?_;refine av (d:= .aV (div (Float64.sub (aH x y z) (aY x y z)) (add (aH x y z) (aY x y z)))) F (λG=>ag (aa rfl) (aa rfl) (bZ (z3 hl))) (.inl rfl) rfl rfl λU F=>wpAny_execs_nil (mid _ _ F rfl rfl rfl rfl rfl (by rw[e];rfl) rfl)
  |false=>
   have e:oE (aH x y z) (aY x y z)=div (Float64.sub (aH x y z) (aY x y z)) (Float64.sub (Float64.sub 0x4000000000000000 (aH x y z)) (aY x y z)):=by unfold oE;rw[hl];rfl
   refine bK F (b:=false) (λG=>aC g.B J (a:= .aV (div (add (aH x y z) (aY x y z)) 0x4000000000000000)) (b:= .aV 0x3FE0000000000000) (aa rfl) dD (congrArg some hl)) λU F=>?_;refine av (d:= .aV (div (Float64.sub (aH x y z) (aY x y z)) (Float64.sub (Float64.sub 0x4000000000000000 (aH x y z)) (aY x y z)))) F (λG=>ag (aa rfl) (ag (ag dD (aa rfl) rfl) (aa rfl) rfl) (bZ (z4 hl))) (.inl rfl) rfl rfl λU F=>wpAny_execs_nil (mid _ _ F rfl rfl rfl rfl rfl (by rw[e];rfl) rfl)
open PySem.W
noncomputable abbrev jM(Ls:List (Addr×Obj)):Heap->Prop:=λh=>∀q∈Ls,h.get? q.1=some q.2
noncomputable def Hd.pin(H:Hd)(Ls:List (Addr×Obj)):Hd:={H with fp:=Ls.map (·.1),J:=jM Ls}
noncomputable def Hd.wide(H:Hd)(T:List Addr):Hd:={H with X:=T++H.X}
noncomputable def aN(s:Shared)(T:List Addr):Shared:={s with heap:=hideAll s.heap T}
structure Tb where
 P:Addr
 code:Addr
 pos:Pos
 qual:Str
def jA(o:Obj)(q:Str):Prop:=∃vs t,o.data= .fields vs/\vs[1]? =some (.str q t)
def Told(Ls:List (Addr×Obj))(t:Tb):Prop:=
 (t.P,tabObj #[])∈Ls\/∃ps c' z,(t.P,tabObj ps)∈Ls/\(c',z)∈Ls/\TriplesOk ps.toList/\codeAmong t.pos ps.toList=some (.ref c')/\jA z t.qual
def Full(Ls:List (Addr×Obj))(t:Tb):Prop:=
 ∃ps c' z,(t.P,tabObj ps)∈Ls/\(c',z)∈Ls/\TriplesOk ps.toList/\codeAmong t.pos ps.toList=some (.ref c')/\jA z t.qual
variable{T:List Addr}{Ls bL:List (Addr×Obj)}{b8 fs eT:List Tb}
theorem Fs.D4(F:Fs c ah af H O ρ own s)(h:jM Ls s.heap)(hz:∀q∈Ls,q.1∉H.Z):Fs c ah af (H.pin Ls) O ρ own s where
 gd:=F.gd
 rest:=F.rest
 old:=F.old
 new:=F.new
 ex:=F.ex
 view:=F.view
 own:=F.own
 frame:=F.frame
 gR:=F.gR
 zx:=F.zx
 inv:=h
 eS:=λh h' J I q D=>I _ (mem_map_of_mem D) _ (J q D)
 jz:=λb hb=>by refine aq (et hb) λq D z=>?_;obtain rfl:=z;exact hz q D
 gQ:=λb hb=>by refine aq (et hb) λq D z=>?_;obtain rfl:=z;exact⟨_,h q D⟩
 apart:=F.apart
 dt:=F.dt
theorem b9{b:Addr}{o:Obj}(h:s.heap.get? b=some o)(hb:b∉T):(aN s T).heap.get? b=some o:=hideAll_get _ h hb
theorem gX{b:Addr}{o:Obj}(h:(aN s T).heap.get? b=some o):s.heap.get? b=some o:=of_hideAll _ h
theorem dy{b:Addr}(h:s.heap.get? b=none):(aN s T).heap.get? b=none:=by exact oN λo q=>Lw.sn ((gX q).symm.trans h)
theorem Fs.qW(F:Fs c ah af H O ρ own s)(hT:∀t∈T,∃o,af.heap.get? t=some o)(hG:∀a o,ah a o->a∉T)(hc:∀x a,O.cells.lookup x=some a->a∉T):Fs c ah (aN af T) (H.wide T) O ρ own s:=by
 have Y:∀t∈T,t∉H.X:=λt ht z=>by obtain⟨o,e⟩:=hT t ht;rw[F.new t z]at e;exact ns e
 have up:∀a o,aX ah af H.X s a o->aX ah (aN af T) (T++H.X) s a o:=by
  rintro a o (h|⟨D,I,J⟩)
  .exact .inl h
  .exact .inr ⟨D,dy I,λhm=>(de hm).elim (λhm=>by obtain⟨o,e⟩:=hT a hm;rw[I]at e;exact ns e) J⟩
 exact{
  gd:=⟨λa o g=>b9 (F.gd.sub a o g) (hG a o g),F.gd.base,F.gd.toks⟩
  rest:=F.rest
  old:=λb o e=>F.old b o (gX e)
  new:=λx z=>by
   rcases de z with hm|hm
   .exact hideAll_none _ hm
   .exact dy (F.new x hm)
  ex:=λx z=>by
   rcases de z with hm|hm
   .obtain⟨o,e⟩:=hT x hm;exact⟨o,F.old _ _ e⟩
   .exact F.ex x hm
  view:={sub:=by
          rintro b p (h|⟨D,_,_⟩)
          .exact F.view.sub _ _ (.inl h)
          .exact D
         base:=λb p e=>up _ _ (F.view.base b p e)
         toks:=F.view.toks
         kind:=F.view.kind
         glob:=F.view.glob
         fq:=F.view.fq
         vars:=λy d e=>let⟨u,i,q⟩:=F.view.vars y d e;⟨u,i,q.mono up⟩
         apart:=F.apart
         cells:=F.view.cells}
  own:=λe he=>let⟨D,I,J,o,h4,h5⟩:=F.own e he;⟨D,I,J,o,h4,h5.mono up⟩
  frame:=F.frame
  gR:=F.gR
  zx:=λb hb=>cv ((F.zx b hb))
  inv:=F.inv
  eS:=F.eS
  jz:=F.jz
  gQ:=F.gQ
  apart:=F.apart
  dt:=λy a h=>⟨(F.dt y a h).1,by
   rcases(F.dt y a h).2 with q|q
   .exact .inl λhm=>(de hm).elim (hc y a h) q
   .exact .inr q⟩}
structure jy(c:Cx)(T:List Addr)(b8 fs:List Tb)(G:PH)(s:Shared)(Ls bL:List (Addr×Obj))(d:D)(v:Value)(U:Shared):Prop where
 rest:U={s with heap:=U.heap,toks:=U.toks}
 old:∀b o,b∉T->s.heap.get? b=some o->U.heap.get? b=some o
 ex:∀b∈T,∃o,U.heap.get? b=some o
 pin:jM bL U.heap
 told:∀t∈b8,Told bL t
 full:(∀t∈b8,Full Ls t)->bL=Ls
 mono:∀t∈b8,Full Ls t->Full bL t
 done:∀t∈fs,t∈b8/\Full bL t
 P0:∀q∈bL,(q.1∈T\/G q.1 q.2\/s.heap.get? q.1=none)
 rep:Rep c.w c.C (grow G s U) d v
def cJ(c:Cx)(T:List Addr)(b8 fs:List Tb)(A:Around)(f:Value)(ds:List D)(d:D):Prop:=
 ∀E s G vs Ls,Gd c G s->(∀a o,G a o->a∉T)->(∀b∈T,∃o,s.heap.get? b=some o)->jM Ls s.heap->(∀t∈b8,Told Ls t)->(∀q∈Ls,q.1∈T\/G q.1 q.2)->aE c.w c.C G ds vs->
  wpAny (model PW c.w) A (call f vs) (λv U=>s.toks<=U.toks/\∃bL,jy c T b8 fs G s Ls bL d v U) E s
theorem Callee.R4{c':Cx}{f:Value}{ds:List D}{d:D}(h:cJ c T b8 fs A f ds d)(J:c'.w=c.w)(hC:c'.C=c.C)(hh:∀a o,c.h₀.get? a=some o->c'.h₀.get? a=some o)
 (hT:∀b∈T,∃r∈Ls,r.1=b)(hp:jM Ls c'.h₀)(s7:∀q∈Ls,q.1∈T\/c.h₀.get? q.1=some q.2)(hf:∀t∈b8,Full Ls t)(hg:∀a o,c.h₀.get? a=some o->a∉T)
 (Y:∀G vs,aE c.w c.C G ds vs->aE c.w c.C (λ_ _=>False) ds vs):Callee c' A f ds d:=λE s G vs g l=>by
 have e:c'.w=c.w:=J;rw[J,hC]at l;rw[J];refine wpAny_mono (h E s (λa o=>c.h₀.get? a=some o) vs Ls ⟨λa o q=>g.old _ _ (hh _ _ q),λ_ _ q=>q,g.toks⟩ (λa o q=>hg a o q) (λb hb=>?_) (λq hq=>g.old _ _ (hp q hq)) (λt ht=> .inr (hf t ht)) s7 ((Y _ _ l).mono (λ_ _ q=>q.elim))) (λv U p=>?_) λ_ _ e=>e
 .refine aq (hT b hb) λr I z=>?_;obtain rfl:=z;exact⟨_,g.old _ _ (hp r I)⟩
 .obtain⟨_,bL,P⟩:=p;have e:=P.full hf;subst e;refine⟨⟨U.heap,U.toks,P.rest,λb o q=>?_⟩,?_⟩
  .by_cases hb:b∈T
   .refine aq (hT b hb) λr I z=>?_;obtain rfl:=z;have h1:=g.old _ _ (hp r I);rw[q]at h1;obtain rfl:=bg h1;exact P.pin r I
   .exact P.old b o hb q
  .rw[hC];exact P.rep.mono λa o q=>q.elim (λq=> .inl (g.base a o (hh _ _ q))) .inr
def DY(c:Cx)(G:PH)(af:Shared)(T:List Addr)(b8 fs:List Tb)(Ls:List (Addr×Obj))(O:Env)(d:D)(fl:Flow)(U:Shared):Prop:=
 ∃H' bP cq bL,Fs c G (aN af T) (Hd.pin H' bL) O bP cq U/\(∀t∈T,t∈H'.X)/\(∀t∈b8,Told bL t)/\((∀t∈b8,Full Ls t)->bL=Ls)/\(∀t∈b8,Full Ls t->Full bL t)/\(∀t∈fs,t∈b8/\Full bL t)/\
  (∀q∈bL,(q.1∈T\/G q.1 q.2\/af.heap.get? q.1=none))/\Rep c.w c.C (aX G (aN af T) H'.X U) d (j0 fl)
theorem DY.step{d:D}{fl:Flow}(h:DY c G af T b8 fs Ls O d fl U):∃bL,jy c T b8 fs G af Ls bL d (j0 fl) U:=by
 refine Dq h λH' bP cq bL F I h2 h3 h5 h6 h4 r=>?_;clear h;refine⟨bL,F.rest,λb o hb e=>F.old b o (b9 e hb),λb hb=>F.ex b (I b hb),F.inv,h2,h3,h5,h6,h4,r.mono ?_⟩;rintro a o (q|⟨Y,z,J⟩)
 .exact .inl q
 .refine .inr ⟨Y,?_⟩;cases e:af.heap.get? a with
  |none=>rfl
  |some p=>
   by_cases ha:a∈T
   .exact absurd (I a ha) J
   .rw[b9 e ha]at z;exact sn z
theorem k7{scope:Scope}{qn:Str}{L a:Addr}{I:Value}(D:∀y∈jS scope L,af.heap.get? y=none)(hT:∀t∈T,∃o,af.heap.get? t=some o):
 ∀x b,(bG scope qn L a I).cells.lookup x=some b->b∉T:=λx b h z=>by
 obtain⟨o,e⟩:=hT b z;rw[D b (hV (n:=x) h)]at e;exact ns e
theorem eK(B:c.B)(R:aL A (k+1)){v:Value}{ps:List Str}{scope:Scope}{body:List Stmt}{qn:Str}(f:gi c v ps scope body qn){ds:List D}{d:D}(hlen:ds.length=ps.length)
 (hkind:scope.kind= .function)(pK:scope.isCoroutine=false)(uL:scope.isGenerator=false)(rM:ps.Nodup)
 (BE:∀x∈ps,scope.names.lookup x=some .local\/scope.names.lookup x=some .cell)(hY:∀y∈cw scope,scope.names.lookup y=some .cell)
 (hb:∀(A':Around)(L a:Addr)(cd:Value)(G:PH)(E:Value->Shared->Prop)(af s:Shared)(Ls:List (Addr×Obj))(Q:Flow->Shared->Prop),(∀fl U,DY c G af T b8 fs Ls (bG scope qn L a cd) d fl U->Q fl U)->aL A' k->v= .ref a->(∃o fd,c.h₀.get? a=some o/\o.data= .func fd/\fd.code=cd)->
  (∀t∈T,∃o,af.heap.get? t=some o)->(∀q∈Ls,∃o,af.heap.get? q.1=some o)->(∀t∈b8,Told Ls t)->(∀q∈Ls,q.1∈T\/G q.1 q.2)->(∀y∈(iG scope L).X,af.heap.get? y=none)->
  Fs c G (aN af T) (((iG scope L).wide T).pin Ls) (bG scope qn L a cd) (ps.zip ds) [] s->wpAny (model PW c.w) A' (execs body (bG scope qn L a cd)) Q E s):
 cJ c T b8 fs A v ds d:=λE s G vs Ls g hG Y z I s7 l=>by
 refine wpAny_mono (wpAny_toks (E:=E) (Q:=λv U=>∃bL,jy c T b8 fs G s Ls bL d v U) ?_) (λv U p=>p) λ_ _ e=>e.2;refine mn B R f hlen hkind pK uL rM BE hY g l λA' a cd E' U Q' R' hv s6 J F=>?_;have F1:=F.qW (T:=T) Y hG (k7 (λy hy=>F.new y (.tail _ hy)) Y);have F2:=F1.D4 (Ls:=Ls) (λq J=>F.old _ _ (z q J)) (λq J hm=>by have e:=z q J;rw[F.new q.1 hm]at e;exact ns e)
 exact hb A' _ a cd G E' s U Ls Q' (λfl cP h=>J fl cP h.step) R' hv s6 Y (λq J=>⟨_,z q J⟩) I s7 F.new F2
structure RN(T:List Addr)(b8 fs:List Tb)(ct:List (Addr×Obj))(ah:PH)(af:Shared)(X Z:List Addr)(Ls:List (Addr×Obj)):Prop where
 hX:∀t∈T,t∈X
 hZ:∀t∈T,t∉Z
 told:∀t∈b8,Told Ls t
 full:(∀t∈b8,Full ct t)->Ls=ct
 mono:∀t∈b8,Full ct t->Full Ls t
 done:∀t∈fs,t∈b8/\Full Ls t
 lz:∀q∈Ls,(q.1∈T\/ah q.1 q.2\/(af.heap.get? q.1=none/\q.1∉X))
noncomputable abbrev PS(T:List Addr)(b8 fs:List Tb)(ct:List (Addr×Obj))(ah:PH)(af:Shared)(H:Hd)(Ls:List (Addr×Obj)):Prop:=RN T b8 fs ct ah af H.X H.Z Ls
structure Bv(T:List Addr)(HH:List (Addr×Obj)->Hd):Prop where
 X:∀L z,(HH z).X=(HH L).X
 Z:∀L z,(HH z).Z=(HH L).Z
 Y:∀L z,(HH z).Y=(HH L).Y
 inv:∀L h,(HH L).J h->jM L h
 step:∀L z h h',(HH L).J h->(∀b o,b∉T->h.get? b=some o->h'.get? b=some o)->jM z h'->(HH z).J h'
 fr:∀L h h',(HH L).J h->(∀b∈(HH L).fp,∀o,h.get? b=some o->h'.get? b=some o)->(HH L).J h'
 fp:∀L b,b∈(HH L).fp->(∃o,(b,o)∈L)\/(b∉T/\∀z,b∈(HH z).fp)
theorem m8{T:List Addr}{H:Hd}:Bv T H.pin where
 X:=λ_ _=>rfl
 Z:=λ_ _=>rfl
 Y:=λ_ _=>rfl
 inv:=λL h j=>j
 step:=λL L' h h' j k p=>p
 fr:=λL h h' J I q z=>I _ (mem_map_of_mem z) _ (J q z)
 fp:=λL b hb=>by refine aq (et hb) λq z D=>?_;obtain rfl:=D;exact .inl ⟨_,z⟩
variable{ct:List (Addr×Obj)}{HH:List (Addr×Obj)->Hd}
theorem PS.fin{d:D}{fl:Flow}(P:PS T b8 fs ct G af H Ls)(F:Fs c G (aN af T) (H.pin Ls) O ρ own s)(r:Rep c.w c.C (aX G (aN af T) H.X s) d (j0 fl)):DY c G af T b8 fs ct O d fl s:=
 ⟨H,ρ,own,Ls,F,P.hX,P.told,P.full,P.mono,P.done,λq z=>(P.lz q z).imp id (Or.imp id And.left),r⟩
theorem PS.start{scope:Scope}{L:Addr}(hX:∀y∈(iG scope L).X,af.heap.get? y=none)(hT:∀t∈T,∃o,af.heap.get? t=some o)(z:∀t∈b8,Told Ls t)(D:∀q∈Ls,q.1∈T\/G q.1 q.2):PS T b8 [] Ls G af ((iG scope L).wide T) Ls where
 hX:=λt ht=>d7 ht
 hZ:=λt ht J=>by obtain⟨o,e⟩:=hT t ht;rw[hX t J]at e;exact ns e
 told:=z
 full:=λ_=>rfl
 mono:=λ_ _ h=>h
 done:=λ_ h=>nomatch h
 lz:=λq I=>(D q I).imp id .inl
theorem Fs.D3(I:Bv T HH)(F:Fs c ah (aN af T) (HH Ls) O ρ own s)(P:PS T b8 eT ct ah af (HH Ls) Ls){d:D}{v:Value}(tk:s.toks<=U.toks)(h:jy c T b8 fs (aX ah (aN af T) (HH Ls).X s) s Ls bL d v U):
 Fs c ah (aN af T) (HH bL) O ρ own U/\PS T b8 (fs++eT) ct ah af (HH bL) bL/\Rep c.w c.C (aX ah (aN af T) (HH bL).X U) d v:=by
 have hs:=h.rest;have zJ:∀b,b∉T->s.heap.get? b=none->af.heap.get? b=none:=λb hb e=>by exact oN λo q=>Lw.sn ((F.old b o (b9 q hb)).symm.trans e)
 have xw:∀b,s.heap.get? b=none->b∉(HH Ls).X:=λb e hm=>(F.ex b hm).elim λo q=>Lw.ns (e.symm.trans q);have sn:∀b,b∉T->(aN af T).heap.get? b=none->af.heap.get? b=none:=λb hb e=>by exact oN λo q=>Lw.sn ((b9 q hb).symm.trans e)
 have lz:∀q∈bL,(q.1∈T\/ah q.1 q.2\/(af.heap.get? q.1=none/\q.1∉(HH Ls).X)):=λq J=>by
  by_cases ht:q.1∈T
  .exact .inl ht
  .rcases h.P0 q J with z|(z|⟨_,z2,z3⟩)|z
   .exact .inl z
   .exact .inr (.inl z)
   .exact .inr (.inr ⟨sn _ ht z2,z3⟩)
   .exact .inr (.inr ⟨zJ _ ht z,xw _ z⟩)
 have Lp:∀q∈bL,q.1∉(HH Ls).Z:=λq J hz=>by
  rcases lz q J with z|z|z
  .exact P.hZ _ z hz
  .have:=F.gd.sub _ _ z;rw[F.new _ (F.zx _ hz)]at this;exact ns this
  .exact z.2 (F.zx _ hz)
 have F':Fs c ah (aN af T) (HH bL) O ρ own {s with heap:=U.heap,toks:=U.toks}:=F.moved (wr:=T) (I.X _ _) (I.Z _ _) (I.Y _ _) P.hX P.hZ h.old h.ex tk (I.step _ _ _ _ F.inv h.old h.pin)
  (λnI gL hj hk=>I.fr _ _ _ hj hk) (λb hb=>by
   rw[I.Z Ls bL];rcases I.fp _ b hb with⟨o,J⟩|⟨_,J⟩
   .exact Lp _ J
   .exact F.jz b (J Ls))
  (λb hb=>by
   rcases I.fp _ b hb with⟨o,J⟩|⟨hT,J⟩
   .exact⟨_,h.pin _ J⟩
   .obtain⟨o,e⟩:=F.gQ b (J Ls);exact⟨o,h.old b o hT e⟩)
 rw[<-hs]at F';refine⟨F',⟨by rw[I.X Ls bL];exact P.hX,by rw[I.Z Ls bL];exact P.hZ,h.told,λhf=>?_,λt ht hf=>h.mono t ht (P.mono t ht hf),λt ht=>?_,by rw[I.X Ls bL];exact lz⟩,h.rep.mono ?_⟩
 .have e:=P.full hf;subst e;exact h.full hf
 .rcases de ht with ht|ht
  .exact h.done t ht
  .obtain⟨h1,h2⟩:=P.done t ht;exact⟨h1,h.mono t h1 h2⟩
 .rw[I.X Ls bL];rintro a o ((q|⟨q1,q2,q3⟩)|⟨q1,q2⟩)
  .exact .inl q
  .exact .inr ⟨h.old a o (λht=>q3 (P.hX a ht)) q1,q2,q3⟩
  .refine .inr ⟨q1,?_,λhm=>?_⟩
   .exact oN λp e=>Lw.sn ((F.old a p e).symm.trans q2)
   .obtain⟨p,e⟩:=F.ex a hm;rw[e]at q2;exact Lw.sn q2
theorem Fs.JS(B:c.B)(pf:Bv T HH)(F:Fs c ah (aN af T) (HH Ls) O ρ own s)(P:PS T b8 eT ct ah af (HH Ls) Ls){x:Str}{f:Value}{p pos:Pos}{es:List Expr}{ds:List D}{d:D}(hk:O.kindOf x=some .globalImplicit)(hm:c.mg x=some f)
 (hp:Plain c f)(ha:∀G,oQ c A O ρ G es ds)(iC:(starEach es O).any (·.1)=false)(hc:cJ c T b8 fs A f ds d){Q:Value->Shared->Prop}
 (kk:∀v U bL,Fs c ah (aN af T) (HH bL) O ρ own U->PS T b8 (fs++eT) ct ah af (HH bL) bL->Rep c.w c.C (aX ah (aN af T) (HH bL).X U) d v->(∀b o,b∉T->s.heap.get? b=some o->U.heap.get? b=some o)->Q v U)(Jl:(x==("__debug__":Str))=false):
 wpAny (model PW c.w) A (eval (.Call (.Name x p) es [] pos) O) Q E s:=by
 have V:=F.view;refine wpAny_Call_NameR (Calls.Name_function_global V.kind hk (Calls.loadGlobal_global (V.glob▸B.g.keeps V.old) hm ?_) Jl);have key:wpAny (model PW c.w) A (spliced (backTo pos (starEach es O))) (λvs s₁=>Fs c ah (aN af T) (HH Ls) O ρ own s₁/\wpAny (model PW c.w) A (call f ([]++vs)) Q E s₁) E s:=
  wpAny_mono (wpAny_toks ((ha _).1 E s pos V)) (λvs s₁ q=>by
   refine eJ q λtk J Fy=>?_;clear q;have I:=F.keeps J tk;refine⟨I,wpAny_mono (hc E s₁ (aX ah (aN af T) (HH Ls).X s₁) vs Ls ⟨I.view.sub,I.view.base,I.view.toks⟩ ?_ (λt ht=>I.ex t (P.hX t ht)) (pf.inv _ _ I.inv) P.told (λq hq=>(P.lz q hq).imp id λz=>z.imp id λz=>⟨pf.inv _ _ I.inv q hq,dy z.1,z.2⟩) (Fy.mono (bF F.ex F.old J))) (λv ay q=>?_) λ_ _ e=>e⟩
   .rintro a o (q|⟨_,_,q⟩) ht
    .have:=I.gd.sub a o q;rw[show(aN af T).heap.get? a=none from hideAll_none _ ht]at this;exact ns this
    .exact q (P.hX a ht)
   .obtain⟨PQ,bL,h⟩:=q;refine eJ (I.D3 pf P PQ h) λoA NG r=>?_;exact kk v ay bL oA NG r λb o hb e=>h.old b o hb (dH J b o e)) λ_ _ e=>e.2
 have Y:=iq (pos:=pos) iC;cases hp with
 |b id=>exact Calls.callWith_builtin Y (bN Y (wpAny_mono key (λ_ _ h=>h.2) λ_ _ e=>e))
 |t Uw=>exact PySem.callWith_type Y (bN Y (wpAny_mono key (λ_ _ h=>h.2) λ_ _ e=>e))
 |f a o fd h hd=>exact Calls.callWith_function (bN Y (wpAny_mono key (λ_ s₁ h'=>⟨⟨h'.1.view.old a o h,hd⟩,h'.2⟩) λ_ _ e=>e))
def yn(c:Cx)(A:Around)(T:List Addr)(b8 fs:List Tb)(O:Env)(ρ:List (Str×D))(e:Expr)(d:D):Prop:=
 ∀(ah:PH)(af s:Shared)(HH:List (Addr×Obj)->Hd)(eT:List Tb)(ct Ls:List (Addr×Obj))(own:List (Str×Addr×OD))(E:Value->Shared->Prop)(Q:Value->Shared->Prop),Bv T HH->Fs c ah (aN af T) (HH Ls) O ρ own s->PS T b8 eT ct ah af (HH Ls) Ls->
  (∀v U bL,Fs c ah (aN af T) (HH bL) O ρ own U->PS T b8 (fs++eT) ct ah af (HH bL) bL->Rep c.w c.C (aX ah (aN af T) (HH bL).X U) d v->(∀b o,b∉T->s.heap.get? b=some o->U.heap.get? b=some o)->Q v U)->wpAny (model PW c.w) A (eval e O) Q E s
theorem fB(B:c.B){x:Str}{f:Value}{p pos:Pos}{es:List Expr}{ds:List D}{d:D}(hk:O.kindOf x=some .globalImplicit)(hm:c.mg x=some f)
 (Y:Plain c f)(ha:∀G,oQ c A O ρ G es ds)(z:(starEach es O).any (·.1)=false)(hc:cJ c T b8 fs A f ds d)(hd:(x==("__debug__":Str))=false:=by decide):yn c A T b8 fs O ρ (.Call (.Name x p) es [] pos) d:=
 λah af s HH eT ct Ls own E Q I F P J=>F.JS B I P hk hm Y ha z hc J hd
theorem jH{x:Str}{p pos:Pos}{e:Expr}{d:D}{rest:List Stmt}{Q:Flow->Shared->Prop}(F:Fs c ah (aN af T) (H.pin Ls) O ρ own s)(P:PS T b8 eT ct ah af H Ls)(he:yn c A T b8 fs O ρ e d)(hb:kK O H x)(ho:own.all (λe=> !(e.1==x))=true)
 (hs:swapsWith e (some (.Name x p)) pos.line O=pure false)(k:∀U bL,Fs c ah (aN af T) (H.pin bL) O ((x,d)::ρ) own U->PS T b8 (fs++eT) ct ah af H bL->wpAny (model PW c.w) A (execs rest O) Q E U):
 wpAny (model PW c.w) A (execs (.Assign [.Name x p] e pos::rest) O) Q E s:=
 wpAny_execs_cons (wpAny_Assign_Name (he _ _ _ H.pin _ _ _ _ _ _ m8 F P λv U bL J I r _=>J.store hb r ho λcP z=>k cP bL z I) hs)
theorem mL{ts:List Expr}{n:Nat}{p pos:Pos}{e:Expr}{d:D}{rest:List Stmt}{Q:Flow->Shared->Prop}(F:Fs c ah (aN af T) (H.pin Ls) O ρ own s)(P:PS T b8 eT ct ah af H Ls)(he:yn c A T b8 fs O ρ e d)(ha:∀bL,wQ c A (H.pin bL) O own (.Tuple ts n p) d ρ bP)
 (k:∀U bL,Fs c ah (aN af T) (H.pin bL) O bP own U->PS T b8 (fs++eT) ct ah af H bL->wpAny (model PW c.w) A (execs rest O) Q E U)
 (hs:swapsWithSole [.Tuple ts n p] e pos.line O=pure false:=by rfl)(I:swappedStores [.Tuple ts n p] e O=pure none:=by rfl):
 wpAny (model PW c.w) A (execs (.Assign [.Tuple ts n p] e pos::rest) O) Q E s:=
 wpAny_execs_cons (PyProof.Rows.Assign_Tuple (he _ _ _ H.pin _ _ _ _ _ _ m8 F P λv U bL Y J r _=>wpAny_mono (ha bL _ _ _ _ _ Y r) (λ_ ay z=>k ay bL z.1 J) λ_ _ e=>e) hs I)
theorem uj{e:Expr}{pos:Pos}{d:D}{rest:List Stmt}{Q:Flow->Shared->Prop}(F:Fs c ah (aN af T) (H.pin Ls) O ρ own s)(P:PS T b8 eT ct ah af H Ls)(he:yn c A T b8 fs O ρ e d)
 (k:∀v U bL,Fs c ah (aN af T) (H.pin bL) O ρ own U->PS T b8 (fs++eT) ct ah af H bL->Rep c.w c.C (aX ah (aN af T) H.X U) d v->Q (.ret v) U):wpAny (model PW c.w) A (execs (.Return (some e) pos::rest) O) Q E s:=
 wpAny_execs_cons (wpAny_Return_some (he _ _ _ H.pin _ _ _ _ _ _ m8 F P λv U bL I z r _=>k v U bL I z r))
structure yk(c:Cx)(t:Tb):Prop where
 head:CodeHd c.h₀ t.code t.P
 fq:∃z o,c.mg "__builtins__"=some (.ref z)/\z≠builtinsNs/\z≠mainGlobals/\c.h₀.get? z=some o/\o.cls= .type "module"/\o.dict=some builtinsNs/\o.data= .plain
noncomputable abbrev ky(name qual:Str)(z:Arguments)(body:List Stmt)(scope:Scope)(clos:List (Str×Addr))(doc J I D:Value):Obj:=
 {cls:= .type "function",data:= .func (fnX name qual z body scope clos .none .none doc J none I D)}
theorem qO{Ls:List (Addr×Obj)}{h:Heap}{a:Addr}{o o':Obj}(p:jM Ls h)(D:(a,o)∈Ls)(z:(a,o')∈Ls):o=o':=by have e1:=p _ D;have e2:=p _ z;simp only at e1 e2;rw[e1]at e2;obtain rfl:=bg e2;rfl
theorem zH{Ls:List (Addr×Obj)}{h:Heap}{t:Tb}(p:jM Ls h)(J:(t.P,tabObj #[])∈Ls)(z:Full Ls t):False:=by
 refine yb z λps c' oc I q2 q3 D q5=>?_;clear z;have e:=qO p J I;have Y:(#[]:Array Value)=ps:=by simpa[tabObj]using e
 subst Y;simp[codeAmong]at D
theorem yZ(B:c.B){t:Tb}(tk:yk c t)(ht:t∈b8)(FV:t.P∈T)(Ab:∀t'∈b8,t'.P=t.P->t'=t){name:Str}{D:Arguments}{body:List Stmt}{scope:Scope}{clos:List (Str×Addr)}{rest:List Stmt}{Q:Flow->Shared->Prop}
 (F:Fs c ah (aN af T) (H.pin Ls) O ρ own s)(P:PS T b8 fs ct ah af H Ls)(iy:O.code= .ref t.code)(yt:closureFor scope O=pure clos)(Y:qualnameIn O name name=t.qual)
 (Mr:D.defaults=[])(QN:D.kw_defaults=[])(ha:annTrees D none O=[])(hb:kK O H name)(ho:own.all (λe=> !(e.1==name))=true)
 (kk:∀U bL fa doc pm c' oc J,Fs c ah (aN af T) (H.pin bL) O ((name,.adr fa)::ρ) own U->PS T b8 (t::fs) ct ah af H bL->aX ah (aN af T) H.X U fa (ky name t.qual D body scope clos doc pm (.ref c') J)->(c',oc)∈bL->jA oc t.qual->
  wpAny (model PW c.w) A (execs rest O) Q E U):
 wpAny (model PW c.w) A (execs (.FunctionDef name D body [] none [] scope none name t.pos::rest) O) Q E s:=by
 have zJ:∀b,b∉T->s.heap.get? b=none->af.heap.get? b=none:=λb hb e=>by exact oN λo q=>Lw.sn ((F.old b o (b9 q hb)).symm.trans e)
 have Eo:∀b,s.heap.get? b=none->(aN af T).heap.get? b=none:=λb e=>by exact oN λo q=>Lw.sn ((F.old b o q).symm.trans e)
 have xw:∀b,s.heap.get? b=none->b∉H.X:=λb e hm=>(F.ex b hm).elim λo q=>Lw.ns (e.symm.trans q);refine M9 tk.fq λbm ob b1 b2 b3 b4 b5 b6 b7=>?_;have old:=F.view.old;have Kv:=B.g.keeps old;have C:=tk.head.keeps old
 have fin:∀(fa:Addr)(doc pm:Value)(c':Addr)(oc:Obj)(J:Value)(s₁:Shared)(bL:List (Addr×Obj)),Fs c ah (aN af T) (H.pin bL) O ρ own s₁->PS T b8 (t::fs) ct ah af H bL->
  aX ah (aN af T) H.X s₁ fa (ky name t.qual D body scope clos doc pm (.ref c') J)->(c',oc)∈bL->jA oc t.qual->
  wpAny (model PW c.w) A (storeName O name (.ref fa)) (λ_ cP=>wpAny (model PW c.w) A (execs rest O) Q E cP) E s₁:=λfa doc pm c' oc J s₁ bL rL G2 hv hm pK=>
  rL.gy (d:= .adr fa) hb (by exact rfl) ho λay oA hk=>kk ay bL fa doc pm c' oc J oA G2 (gT rL.zx hk _ _ hv) hm pK
 refine wpAny_execs_cons (nestDef_K Mr QN ha ?_);rw[Y];rcases P.told t ht with uN|⟨ps,c',oc,q1,q2,q3,q4,q5⟩
 .have hP:s.heap.get? t.P=some (tabObj #[]):=F.inv _ uN;have QR:mainGlobals≠t.P:=λq=>by refine dR Kv λo es ep e hd _=>?_;clear Kv;rw[q,hP]at e;obtain rfl:=bg e;cases hd
  have Mz:bm≠t.P:=λq=>by have e:=old _ _ b4;rw[q,hP]at e;obtain rfl:=bg e;cases b5
  refine wpAny_mono (wpAny_toks (makeFunction_K (Q:=λv s₁=>∃fa doc pm c' oc J bL,v= .ref fa/\(s.toks<=s₁.toks->Fs c ah (aN af T) (H.pin bL) O ρ own s₁)/\PS T b8 (t::fs) ct ah af H bL/\
   aX ah (aN af T) H.X s₁ fa (ky name t.qual D body scope clos doc pm (.ref c') J)/\(c',oc)∈bL/\jA oc t.qual) (c:=t.code) (P:=t.P) (mg:=c.mg) (ps:= #[]) yt F.view.glob Kv iy C hP trivial (by simp[codeAmong]) QR ⟨bm,ob,b1,b2,b3,Mz,old _ _ b4,b5,b6,b7⟩ λc' J doc h' tk' hx BJ jW IZ Oz=>?_))
   (λv s₁ w=>by refine MM w.2 λfa doc pm c' oc J bL e rL G2 h1 h2 h3=>?_;subst e;exact fin fa doc pm c' oc J s₁ bL (rL w.1) G2 h1 h2 h3) λ_ _ e=>e.2
  refine Dr IZ λc₂ oc vs tt e2 CU hd hv=>?_;clear IZ;cases e2;have cA:s.heap.get? c'=none:=get?_none_of_le BJ;have sY:s.heap.get? h'.objs.size=none:=get?_none_of_le (le_trans BJ (Nat.le_of_lt jW));have Lq:c'∉T:=λhm=>by exact(F.ex c' (P.hX _ hm)).elim λo q=>Lw.ns (cA.symm.trans q)
  have pL:jM ((t.P,tabObj (#[]++ #[rawInt t.pos.line,rawInt t.pos.col,.ref c']))::(c',oc)::Ls.filter (λq=>q.1 !=t.P)) (h'.push (fnMade name t.qual D body scope clos doc ((c.mg "__name__").getD .none) c' J)):=λq Y=>by
   rcases dg Y with rfl|Y
   .exact get?_push_of_some _ Oz
   .rcases dg Y with rfl|Y
    .exact get?_push_of_some _ CU
    .obtain⟨Y,jQ⟩:=mem_filter.mp Y;exact get?_push_of_some _ (hx _ _ (by simpa using jQ) (F.inv q Y))
  have keep:∀b o,b∉T->s.heap.get? b=some o->(h'.push (fnMade name t.qual D body scope clos doc ((c.mg "__name__").getD .none) c' J)).get? b=some o:=λb o hb e=>get?_push_of_some _ (hx b o (λq=>hb (q▸FV)) e)
  have up:∀(tb:Tb),tb∈b8->tb≠t->(∀x:Array Value,(tb.P,tabObj x)∈Ls->(tb.P,tabObj x)∈Ls.filter (λq=>q.1 !=t.P)):=λtb I jQ x hm=>mem_filter.mpr ⟨hm,by simpa using λq=>jQ (Ab tb I q)⟩
  have N5:∀(a:Addr)(o:Obj)(q:Str),(a,o)∈Ls->jA o q->(a,o)∈Ls.filter (λq=>q.1 !=t.P):=λa o q hm hc=>mem_filter.mpr ⟨hm,by simp only[bne_iff_ne,ne_eq];intro e;subst e;have:=qO F.inv uN hm;subst this;refine cC hc λvs tt z1 z2=>?_;clear hc;simp[tabObj]at z1;subst z1;simp at z2⟩
  have Ip:Full ((t.P,tabObj (#[]++ #[rawInt t.pos.line,rawInt t.pos.col,.ref c']))::(c',oc)::Ls.filter (λq=>q.1 !=t.P)) t:=
   ⟨_,c',oc,.head _,.tail _ (.head _),by simp[TriplesOk,rawInt],codeAmong_snoc [] trivial rfl,⟨vs,tt,hd,hv⟩⟩
  have Ed:∀tb∈b8,Full Ls tb->Full ((t.P,tabObj (#[]++ #[rawInt t.pos.line,rawInt t.pos.col,.ref c']))::(c',oc)::Ls.filter (λq=>q.1 !=t.P)) tb:=λtb I hf=>by
   by_cases e:tb=t
   .subst e;exact Ip
   .refine yb hf λLk c2 Fu z1 z2 z3 z4 z5=>?_;clear hf;exact⟨Lk,c2,Fu,.tail _ (.tail _ (up tb I e _ z1)),.tail _ (.tail _ (N5 _ _ _ z2 z5)),z3,z4,z5⟩
  refine⟨h'.objs.size,doc,_,c',oc,J,(t.P,tabObj (#[]++ #[rawInt t.pos.line,rawInt t.pos.col,.ref c']))::(c',oc)::Ls.filter (λq=>q.1 !=t.P),rfl,λLb=>?_,⟨P.hX,P.hZ,λtb I=>?_,λhf=>?_,λtb I hf=>Ed tb I (P.mono tb I hf),λtb I=>?_,λq Y=>?_⟩,
   .inr ⟨get?_push_size _ rfl,Eo _ sY,xw _ sY⟩,.tail _ (.head _),⟨vs,tt,hd,hv⟩⟩
  .refine F.moved (wr:=T) rfl rfl rfl P.hX P.hZ keep (λb hb=>?_) Lb pL (λnI gL hj hk q Y=>hk _ (mem_map_of_mem Y) _ (hj q Y)) (λb hb=>?_) (λb hb=>?_)
   .by_cases e:b=t.P
    .subst e;exact⟨_,get?_push_of_some _ Oz⟩
    .obtain⟨o,q⟩:=F.ex b (P.hX b hb);exact⟨o,get?_push_of_some _ (hx b o e q)⟩
   .refine aq (et hb) λq Y gD=>?_;obtain rfl:=gD;rcases dg Y with rfl|Y
    .exact P.hZ _ FV
    .rcases dg Y with rfl|Y
     .exact λhz=>xw _ cA (F.zx _ hz)
     .exact F.jz q.1 (mem_map_of_mem (mem_filter.mp Y).1)
   .refine aq (et hb) λq Y gD=>?_;obtain rfl:=gD;exact⟨_,pL q Y⟩
  .by_cases e:tb=t
   .subst e;refine .inr ⟨_,c',oc,.head _,.tail _ (.head _),?_,?_,⟨vs,tt,hd,hv⟩⟩
    .simp[TriplesOk,rawInt]
    .exact codeAmong_snoc [] trivial rfl
   .rcases P.told tb I with z|⟨Lk,c2,Fu,z1,z2,z3,z4,z5⟩
    .exact .inl (.tail _ (.tail _ (up tb I e _ z)))
    .exact .inr ⟨Lk,c2,Fu,.tail _ (.tail _ (up tb I e _ z1)),.tail _ (.tail _ (N5 _ _ _ z2 z5)),z3,z4,z5⟩
  .have e:=P.full hf;subst e;exact(zH F.inv uN (hf t ht)).elim
  .rcases dg I with e|I
   .rw[e];exact⟨ht,Ip⟩
   .obtain⟨h1,h2⟩:=P.done tb I;exact⟨h1,Ed tb h1 h2⟩
  .rcases dg Y with rfl|Y
   .exact .inl FV
   .rcases dg Y with rfl|Y
    .exact .inr (.inr ⟨zJ _ Lq cA,xw _ cA⟩)
    .exact P.lz q (mem_filter.mp Y).1
 .have hP:s.heap.get? t.P=some (tabObj ps):=F.inv _ q1;have Mz:bm≠t.P:=λq=>by have e:=old _ _ b4;rw[q,hP]at e;obtain rfl:=bg e;cases b5
  refine wpAny_mono (wpAny_toks (makeFunction_hit (Q:=λv s₁=>∃fa doc pm J,v= .ref fa/\(s.toks<=s₁.toks->Fs c ah (aN af T) (H.pin Ls) O ρ own s₁)/\
   aX ah (aN af T) H.X s₁ fa (ky name t.qual D body scope clos doc pm (.ref c') J)) (c:=t.code) (P:=t.P) (mg:=c.mg) (ps:=ps) yt F.view.glob Kv iy C hP q3 q4 ⟨bm,ob,b1,b2,b3,Mz,old _ _ b4,b5,b6,b7⟩ λJ doc h' tk' hk hsz=>?_))
   (λv s₁ w=>by refine Gx w.2 λfa doc pm J e rL h1=>?_;subst e;exact fin fa doc pm c' oc J s₁ Ls (rL w.1) ⟨P.hX,P.hZ,P.told,P.full,P.mono,λtb I=>(dg I).elim (λe=>by rw[e];exact⟨ht,ps,c',oc,q1,q2,q3,q4,q5⟩) (P.done tb),P.lz⟩ h1 q2 q5) λ_ _ e=>e.2
  have sY:s.heap.get? h'.objs.size=none:=get?_none_of_le hsz;refine⟨h'.objs.size,doc,_,J,rfl,λLb=>F.keeps ⟨_,_,rfl,λb o e=>get?_push_of_some _ (hk b o e)⟩ Lb,.inr ⟨get?_push_size _ rfl,Eo _ sY,xw _ sY⟩⟩
variable{ρf:List (Str×D)}{M:List Addr}
theorem lookup_mem{z:Type}:∀{l:List (Str×z)}{x:Str}{v:z},(l.map (·.1)).Nodup->(x,v)∈l->l.lookup x=some v
 |(n,u)::r,x,v,hn,h=>by
  simp only[map_cons,nodup_cons]at hn;rw[lookup_cons];rcases dg h with e|h
  .cases e;simp
  .have:x≠n:=λe=>hn.1 (e▸mem_map_of_mem (f:=(·.1)) h);rw[show(x==n)=false from by simpa using this];exact lookup_mem hn.2 h
theorem ur{ps:List Str}{vs:List Value}{x:Str}{v:Value}(hn:((ps.zip vs).map (·.1)).Nodup)(h:(x,v)∈ps.zip vs):(ps.zip vs).reverse.lookup x=some v:=by
 have:((ps.zip vs).reverse.map (·.1)).Nodup:=by rw[map_reverse];exact List.pairwise_reverse.mpr (hn.imp Ne.symm)
 exact lookup_mem this (List.mem_reverse.mpr h)
noncomputable abbrev JK(L:Addr)(M:List Addr):Hd:={X:=L::M,Z:=L::M,Y:=[],fp:=[],J:=λ_=>True}
theorem tL(B:c.B)(R:aL A (k+1))(g:Gd c G (aN s M)){fa c':Addr}{name qual:Str}{I:Arguments}{body:List Stmt}{scope:Scope}{cl:List (Str×Addr)}{doc pm AP:Value}{ps:List Str}{ds:List D}{vs:List Value}{Q:Value->Shared->Prop}
 (Gb:s.heap.get? fa=some (ky name qual I body scope cl doc pm (.ref c') AP))(Mt:s.heap.CodeRec (.ref c') qual)(l:aE c.w c.C G ds vs)(hlen:ds.length=ps.length)
 (Jq:∀vals:List Value,vals.length=ps.length->bindArgs (fnX name qual I body scope cl .none .none doc pm none (.ref c') AP) ⟨vals,[]⟩=pure (ps.zip vals))
 (hM:∀b∈M,∃o,s.heap.get? b=some o)(hkind:scope.kind= .function)(pK:scope.isCoroutine=false)(uL:scope.isGenerator=false)(Jn:∀x∈scope.names,x.2≠ .cell)(BE:∀x∈ps,scope.names.lookup x=some .local)(rM:ps.Nodup)
 (Jh:∀x d,ρf.lookup x=some d->∃a v,cl.lookup x=some a/\s.heap.IsCell a (some v)/\Rep c.w c.C G d v/\scope.names.lookup x=some .free/\(x==("__classdict__":Str))=false)
 (yt:∀x a,cl.lookup x=some a->a∉M/\∃o,s.heap.get? a=some o)(Ky:∀x y a,cl.lookup x=some a->cl.lookup y=some a->x=y)
 (LW:∀e∈own,e.2.1∈M/\(∃a,cl.lookup e.1=some a/\s.heap.IsCell a (some (.ref e.2.1)))/\scope.names.lookup e.1=some .free/\(e.1==("__classdict__":Str))=false/\∃o,s.heap.get? e.2.1=some o/\cg c G e.2.1 e.2.2 o)
 (hb:∀A' L E' U,aL A' k->s.heap.get? L=none->s.toks<=U.toks->Fs c G (aN s M) (JK L M) (envX qual scope L fa (.ref c') cl) (ps.zip ds++ρf) own U->
  wpAny (model PW c.w) A' (execs body (envX qual scope L fa (.ref c') cl)) (λfl cP=>Q (j0 fl) cP) E' U):
 wpAny (model PW c.w) A (call (.ref fa) vs) Q E s:=by
 have hl:vs.length=ps.length:=l.length.trans hlen;have J:((ps.zip vs).map (·.1)).Nodup:=by rw[map_fst_zip (le_of_eq hl.symm)];exact rM
 have old:∀b o,c.h₀.get? b=some o->s.heap.get? b=some o:=λb o e=>gX (g.old b o e)
 refine wpAny_call (codeAny_call_def (fd:=fnX name qual I body scope cl .none .none doc pm none (.ref c') AP) (body:=body) (binds:=ps.zip vs) (by have:=R.depth;have:recursionLimit=1000:=rfl;lia) Gb rfl (B.nolimit.keeps old) Mt rfl
  (BindsTo.of_eq (Jq vs hl)) Jn (λx hx=>BE x.1 (of_mem_zip hx).1) (λnI Ht z=>?_) pK uL hkind)
 have KC:s.heap.get? s.heap.objs.size=none:=get?_none_of_le (le_refl _);have LM:s.heap.objs.size∉M:=λhm=>by obtain⟨o,e⟩:=hM _ hm;rw[KC]at e;exact ns e
 have new:∀y∈s.heap.objs.size::M,(aN s M).heap.get? y=none:=λy Y=>by
  rcases dg Y with rfl|Y
  .exact dy KC
  .exact hideAll_none _ Y
 have F:Fs c G (aN s M) (JK s.heap.objs.size M) (envX qual scope s.heap.objs.size fa (.ref c') cl) (ps.zip ds++ρf) own {s with heap:=nI,toks:=s.toks+(ps.zip vs).length}:={
  gd:=g
  rest:=rfl
  old:=λb o e=>z b o (gX e)
  new:=new
  ex:=λy Y=>by
   rcases dg Y with rfl|Y
   .refine fR Ht λo _ _ e _=>?_;clear Ht;exact⟨o,e⟩
   .obtain⟨o,e⟩:=hM y Y;exact⟨o,z _ _ e⟩
  view:={sub:=by
          rintro b p (h|⟨h1,_,_⟩)
          .exact z _ _ (gX (g.sub _ _ h))
          .exact h1
         base:=λb p e=> .inl (g.base b p e)
         toks:=lt_of_lt_of_le g.toks (le_add_right _ _)
         kind:=hkind
         glob:=rfl
         fq:=rfl
         vars:=λy d e=>by
          rw[lookup_append]at e;cases q:(ps.zip ds).lookup y with
          |some d'=>rw[q]at e;obtain rfl:=bg e;refine aq (mB l q) λv h1 h2=>?_;exact⟨v,.inl ⟨BE y (of_mem_zip h1).1,_,Ht,ur J h1⟩,h2.mono λa o q=> .inl q⟩
          |none=>rw[q]at e;refine k9 (Jh y d e) λa v h1 h2 h3 h4 h5=>?_;exact⟨v,.inr ⟨.inr ⟨h4,h5⟩,a,h1,h2.keeps z⟩,h3.mono λa o q=> .inl q⟩
         apart:=Ky
         cells:=λy a h=>let⟨o,e⟩:=(yt y a h).2;⟨o,z _ _ e⟩}
  own:=λe he=>by obtain⟨h1,⟨a,h2,h3⟩,h4,h5,o,h6,h7⟩:=LW e he;exact⟨.tail _ h1,.inr ⟨.inr ⟨h4,h5⟩,a,h2,h3.keeps z⟩,λq=>LM (by have OU:=h1;rw[show e.2.1=s.heap.objs.size from q]at OU;exact OU),o,z _ _ h6,h7.mono λa o q=> .inl q⟩
  frame:=⟨.head _,_,Ht⟩
  gR:=λy Y=>nomatch Y
  zx:=λb hb=>hb
  inv:=trivial
  eS:=λ_ _ _ _=>trivial
  jz:=λb hb=>nomatch hb
  gQ:=λb hb=>nomatch hb
  apart:=Ky
  dt:=λy b h=>⟨let⟨o,e⟩:=(yt y b h).2;⟨o,z _ _ e⟩,.inl λhm=>by
   rcases dg hm with rfl|hm
   .obtain⟨o,e⟩:=(yt y _ h).2;rw[KC]at e;exact ns e
   .exact(yt y b h).1 hm⟩}
 refine wpAny_mono (hb _ s.heap.objs.size _ _ R.deeper KC (le_add_right _ _) F) (λfl cP q=>?_) λ_ _ e=>e;cases fl<;>exact q
@[elab_as_elim] theorem du{z:Type}{a x:Str}{u r:z}{l:List (Str×z)}{P:Str->z->Prop}(e:((a,u)::l).lookup x=some r)(I:P a u)(D:l.lookup x=some r->P x r):P x r:=by
  rw[lookup_cons]at e;cases q:x==a with
  |true=>rw[q]at e;obtain rfl:=eq_of_beq q;exact bg e▸I
  |false=>rw[q]at e;exact D e
noncomputable def only(h:Heap)(p:Addr->Bool):Heap:=hideAll h ((range h.objs.size).filter λa=> !p a)
theorem sI{h:Heap}{p:Addr->Bool}{a:Addr}{o:Obj}(e:h.get? a=some o)(z:p a=true):(only h p).get? a=some o:=
 hideAll_get _ e λD=>by have:=(mem_filter.mp D).2;rw[z]at this;exact ft this
theorem CF{h:Heap}{p:Addr->Bool}{a:Addr}{o:Obj}(e:(only h p).get? a=some o):h.get? a=some o/\p a=true:=by
 have z:=of_hideAll _ e;refine⟨z,?_⟩;cases q:p a with
 |true=>rfl
 |false=>have D:a∈(range h.objs.size).filter λa=> !p a:=mem_filter.mpr ⟨mem_range.mpr (lt_size z),by simp[q]⟩;have:=hideAll_none (h:=h) _ D;unfold only at e;rw[this]at e;exact ns e
noncomputable def Cx.ext(c:Cx)(h:Heap)(As:List Addr):Cx:={c with h₀:=only h λa=>(c.h₀.get? a).isSome||As.contains a}
variable{h:Heap}
theorem Cx.rk(ho:∀a o,c.h₀.get? a=some o->h.get? a=some o):∀a o,c.h₀.get? a=some o->(c.ext h As).h₀.get? a=some o:=λa o e=>sI (ho a o e) (by rw[e];rfl)
theorem Cx.rn{a:Addr}{o:Obj}(z:a∈As)(e:h.get? a=some o):(c.ext h As).h₀.get? a=some o:=sI e (by simp[z])
theorem Cx.uC(ho:∀a o,c.h₀.get? a=some o->h.get? a=some o){a:Addr}{o:Obj}(e:(c.ext h As).h₀.get? a=some o):c.h₀.get? a=some o\/(a∈As/\h.get? a=some o):=by
 obtain⟨z,D⟩:=CF e;cases q:c.h₀.get? a with
 |some o'=>rw[ho a o' q]at z;exact .inl z
 |none=>exact .inr ⟨by simpa[q]using D,z⟩
theorem Base.more{w:World}{C:Addr}{h₀ z:Heap}{mg mb:Str->Option Value}(B:Base w C h₀ mg mb)(k:∀a o,h₀.get? a=some o->z.get? a=some o):Base w C z mg mb:=
 ⟨NoneBooked.uJ B.booked k,B.nolimit.keeps k,B.g.keeps k,B.b.keeps k,B.builtins⟩
theorem gi.more{c':Cx}{v:Value}{ps:List Str}{scope:Scope}{body:List Stmt}{qn:Str}(f:gi c v ps scope body qn)(k:∀a o,c.h₀.get? a=some o->c'.h₀.get? a=some o):gi c' v ps scope body qn:=by refine Eu f.ex λa o fd h0 h1 h2 h3 h4 h5 Y J I D z=>?_;exact⟨a,o,fd,h0,k _ _ h1,h2,h3,h4,h5,Y,J,I.keeps k,D,z⟩
theorem Fs.runC{c':Cx}{e:Expr}{d:D}{Q:Value->Shared->Prop}(he:∀G,Ev c' A O ρ G e d)(I:c'.w=c.w)(J:c'.C=c.C)(F:Fs c ah af H O ρ own s)(hb:∀a o,c'.h₀.get? a=some o->aX ah af H.X s a o)
 (k:∀v U,Fs c ah af H O ρ own U->Rep c.w c.C (aX ah af H.X U) d v->Q v U):wpAny (model PW c.w) A (eval e O) Q E s:=by
 have V:Vw c' O ρ (aX ah af H.X s) s:={sub:=F.view.sub,base:=hb,toks:=F.view.toks,kind:=F.view.kind,glob:=F.view.glob,fq:=F.view.fq,vars:=by rw[I,J];exact F.view.vars,apart:=F.view.apart,cells:=F.view.cells};have h:=wpAny_toks ((he _).1 E s V);rw[I,J]at h;refine wpAny_mono h (λv U p=>?_) λ_ _ p=>p.2;have z:=p.2;exact k v U (F.keeps z.1 p.1) (F.up z)
theorem Fs.bare{X' Z':List Addr}(F:Fs c ah af H O ρ [] s)(hX:∀a∈X',a∈H.X)(hZ:∀a∈Z',a∈H.Z)(hl:O.locals∈Z')(zx:∀a∈Z',a∈X')(hc:∀x a,O.cells.lookup x=some a->a∉X'\/a∈Z'):
 Fs c ah af {H with X:=X',Z:=Z',Y:=[]} O ρ [] s:=by
 have up:∀a o,aX ah af H.X s a o->aX ah af X' s a o:=by
  rintro a o (h|⟨D,h2,h3⟩)
  .exact .inl h
  .exact .inr ⟨D,h2,λJ=>h3 (hX a J)⟩
 exact{
  gd:=F.gd
  rest:=F.rest
  old:=F.old
  new:=λx z=>F.new x (hX x z)
  ex:=λx z=>F.ex x (hX x z)
  view:={sub:=by
          rintro a o (h|⟨D,_,_⟩)
          .exact F.view.sub _ _ (.inl h)
          .exact D
         base:=λa o e=>up _ _ (F.view.base a o e)
         toks:=F.view.toks
         kind:=F.view.kind
         glob:=F.view.glob
         fq:=F.view.fq
         vars:=λy d e=>let⟨u,i,q⟩:=F.view.vars y d e;⟨u,i,q.mono up⟩
         apart:=F.apart
         cells:=F.view.cells}
  own:=λe he=>nomatch he
  frame:=⟨hl,F.frame.2⟩
  gR:=λy I=>nomatch I
  zx:=zx
  inv:=F.inv
  eS:=F.eS
  jz:=λb hb hz=>F.jz b hb (hZ b hz)
  gQ:=F.gQ
  apart:=F.apart
  dt:=λy a h=>⟨(F.dt y a h).1,hc y a h⟩}
theorem n6(B:c.B){x:Str}{fa:Addr}{o:Obj}{fd:FuncData}{p pos:Pos}{es:List Expr}{ds:List D}{d:D}(Y:ρ.lookup x=some (.adr fa))(J:c.h₀.get? fa=some o)(hd:o.data= .func fd)
 (ha:oQ c A O ρ G es ds)(I:(starEach es O).any (·.1)=false)(hc:Callee c A (.ref fa) ds d)(z:(x==("__debug__":Str))=false:=by decide):
 Ev c A O ρ G (.Call (.Name x p) es [] pos) d:= .mk λE s V=>by
 refine aq (V.vars x _ Y) λv i r=>?_;subst r;have q:=eV (G:=G) (E:=E) (pos:=pos) (ds0:=[]) (first:=[]) (.f fa o fd J hd) (bj s) V.sub V (by exact rfl) ha I hc;refine wpAny_Call_NameR ?_;rcases i with⟨a,m,n,e⟩|⟨a|a,b,n,e⟩
 .exact wpAny_Name (wpAny_loadName_local V.kind a n e q) z
 .exact wpAny_Name (wpAny_loadName_cell V.kind a n e q) z
 .exact wpAny_Name (wpAny_loadName_free V.kind a.1 n e q a.2) z
noncomputable def dO(n:Nat):List Int->Int
 |[]=>0
 |d::r=>d+2^n*dO n r
theorem iI{n:Nat}:dO n []=0:=rfl
theorem iJ{n:Nat}{d:Int}{r:List Int}:dO n (d::r)=d+2^n*dO n r:=rfl
theorem lC{n:Nat}:∀{xs ys:List Int},dO n (xs++ys)=dO n xs+2^(n*xs.length)*dO n ys
 |[],ys=>by simp[iJ,iI]
 |x::r,ys=>by have z:=lC (n:=n) (xs:=r) (ys:=ys);simp only[cons_append,iJ,iI,z,length_cons,mul_add,Nat.mul_one];rw[add_comm (n*r.length) n,Int.pow_add,Int.mul_add,mul_assoc,Int.add_assoc]
theorem mI{n:Nat}:∀{xs:List Int},(∀x∈xs,0<=x/\x<2^n)->0<=dO n xs/\dO n xs<2^(n*xs.length)
 |[],_=>by simp[iJ,iI]
 |x::r,h=>by
  obtain⟨h1,Y⟩:=mI (xs:=r) λy D=>h y (.tail _ D);obtain⟨J,I⟩:=h x (.head _);have z:(0:Int)<2^n:=pow_pos (by decide);simp only[iJ,iI,length_cons,mul_add,Nat.mul_one];rw[add_comm (n*r.length) n,Int.pow_add];constructor
  .have:=mul_nonneg (le_of_lt z) h1;exact aM 0xb028a028ba1028 [] [_,_] J this
  .have:2^n*dO n r+2^n<=2^n*2^(n*r.length):=by have:=Int.mul_le_mul_of_nonneg_left (Int.add_one_le_of_lt Y) (le_of_lt z);rw[Int.mul_add,mul_one]at this;exact this
   exact aM 0xd112a18cdb18c112ba118 [] [_,_,_,_] this I
noncomputable def inD(m i:Nat):Stmt:=oC (bp (aw m)) i
noncomputable def posOf:Stmt->Pos
 | .FunctionDef _ _ _ _ _ _ _ _ _ p=>p
 |_=>⟨0,0,0,0⟩
noncomputable def rj:Stmt->Arguments
 | .FunctionDef _ a _ _ _ _ _ _ _ _=>a
 |_=>default
noncomputable def part(xs:List Int)(L R:Nat):List Int:=(xs.drop L).take (R-L)
theorem sD{xs:List Int}{L R:Nat}(h:R<=xs.length):(part xs L R).length=R-L:=by simp[part];exact(le_total (L) (R)).elim (λz=>dG (ao 12192672 [_,_] [] yo) (ao 12192672 [_,_] [] (G6 (cU 0xcb1e0ed0dca10ba0 [_,_,_,_,_] [] (dE z) h eC)))) λz=>dG (ao 12192672 [_,_] [] yo) (ao 2755488 [_,_] [] (EF z))
theorem zr{xs:List Int}{L m R:Nat}(z:L<=m)(D:m<=R)(h:R<=xs.length):part xs L R=part xs L m++part xs m R:=by unfold part;rw[show R-L=(m-L)+(R-m)from by exact dG (cU 0xdb1f0fc1e0eda10cb1a0 [_,_,_,_,_,_] [] (dE (aM 50479106976 [_,_,_] [] z D)) eC eC) (cU 0xdc1f0feb10eda10cba10 [_,_,_,_,_,_] [] (dE (ao 12192672 [_,_] [] z)) (dE (ao 12192672 [_,_] [] D)) eC),List.take_add,drop_drop,show L+(m-L)=m from by exact dG (ao 870553795088 [_,_,_] [] (dE (ao 12192672 [_,_] [] z))) (ao 807890891168 [_,_,_] [] eC)]
theorem zp{xs:List Int}{L:Nat}(h:L<xs.length):part xs L (L+1)=[xs[L]]:=by unfold part;rw[drop_eq_getElem_cons h,show L+1-L=1 from by exact dG (ao 4832472269394592 [_,_] [] (dE (aI 17998240 [_] []))) (ao 0xba1112b10a1120 [_,_] [] eC)];rfl
theorem nk{z:Int}{k:Nat}(I:0<=z)(h:z<2^k)(D:k<=4000):z.natAbs<big:=by
 obtain⟨m,rfl⟩:=Int.eq_ofNat_of_zero_le I;rw[natAbs_natCast];have:m<2^k:=by exact_mod_cast h
 exact lt_of_lt_of_le this (pow_le_pow_right (by decide) D)
theorem kN{xs:List D}{L:Nat}(h:L<=100000):mK (.list xs) (.int (L:Int))=xs[L]? :=
 yT (natCast_nonneg _) (by exact ao 0x186a052a03e2215112a718 [_] [] h)
theorem zq{xs:List Int}{L R:Nat}{x:Int}(h:x∈part xs L R):x∈xs:=mem_of_mem_drop (mem_of_mem_take h)
structure NK(c:Cx)(fa:Addr)(xs:List Int)(n:Nat):Prop where
 ex:∃doc J c' I z cl,c.h₀.get? fa=some (ky "inner" "_digits2int.<locals>.inner" (rj (inD 6 0)) (bp (inD 6 0)) (ak (inD 6 0)) cl doc J (.ref c') z)/\c.h₀.get? c'=some I/\jA I "_digits2int.<locals>.inner"/\
  (∀x d,([("digits",.list (xs.map .int)),("n",.int n),("inner",.adr fa)]:List (Str×D)).lookup x=some d->∃a v,cl.lookup x=some a/\c.h₀.IsCell a (some v)/\Rep c.w c.C (λa o=>c.h₀.get? a=some o) d v/\(ak (inD 6 0)).names.lookup x=some .free/\(x==("__classdict__":Str))=false)/\
  (∀x a,cl.lookup x=some a->∃o,c.h₀.get? a=some o)/\(∀x y a,cl.lookup x=some a->cl.lookup y=some a->x=y)
theorem qa{h:Heap}{c':Addr}{z:Obj}{q:Str}(e:h.get? c'=some z)(k:jA z q):h.CodeRec (.ref c') q:=
 let⟨vs,t,I,D⟩:=k;⟨c',z,vs,t,rfl,e,I,D⟩
theorem lU(B:c.B){fa:Addr}{xs:List Int}{n:Nat}(I:NK c fa xs n)(hx:∀x∈xs,0<=x/\x<2^n)(hn:n*xs.length<=3900)(hl:xs.length<=4000){k L R:Nat}(Rm:aL A (k+1))(z:L<R)(Y:R<=xs.length)
 (ih:∀(A':Around)(L' J:Nat),aL A' k->L'<J->J<=R->(J-L')*2<=R-L+1->L+1<R->Callee c A' (.ref fa) [.int L',.int J] (.int (dO n (part xs L' J)))):
 Callee c A (.ref fa) [.int L,.int R] (.int (dO n (part xs L R))):=by
 intro E s G vs g l;refine Gu I.ex λdoc pm c' oc AP cl h1 h2 h3 h4 h5 h6=>?_;have old:=g.old
 refine tL (M:=[]) (ρf:=[("digits",.list (xs.map .int)),("n",.int n),("inner",.adr fa)]) (own:=[]) (k:=k) (ps:=["L","R"]) B Rm g (old _ _ h1) (qa (old _ _ h2) h3) l rfl (λvals hv=>?_) (λb hb=>nomatch hb) rfl rfl rfl (by decide) (by decide) (by decide) (λx d e=>?_) (λx a e=>?_) h6 (λe he=>nomatch he)
  λA' L0 E' U J Ra tk F=>?_
 .refine oM (FA hv) λa b e=>?_;subst e;rfl
 .refine k9 (h4 x d e) λa v e1 e2 e3 e4 e5=>?_;exact⟨a,v,e1,e2.keeps old,e3.mono λa o q=>g.base a o q,e4,e5⟩
 .obtain⟨o,e⟩:=h5 x a e;exact⟨by simp,o,old _ _ e⟩
 .have fin:∀{H' bP cP}{v:Value},Fs c G (aN s []) H' (envX "_digits2int.<locals>.inner" (ak (inD 6 0)) L0 fa (.ref c') cl) bP [] cP->Rep c.w c.C (aX G (aN s []) H'.X cP) (.int (dO n (part xs L R))) v->cf c.w c.C G s (.int (dO n (part xs L R))) v cP:=λF r=>⟨⟨_,_,F.rest,F.old⟩,by show ∃_,_;exact r⟩
  refine bK F (b:=decide (L+1=R)) (λG=>?_) λU F=>?_
  .exact aC B J (a:= .int ((L:Int)+1)) (b:= .int R) (ag (a:= .int L) (b:= .int 1) (aa rfl) aj rfl) (aa rfl) (by show some _=some _;congr 1;rw[Bool.eq_iff_iff];simp[pT];exact⟨λq0=>dG (ao 0xb112a10b112a10 [_,_] [] z) (ao 0x112b71a78112b1a0 [_,_] [] (rQ q0)),λq0=>dq (ao 0xb112a10b7112a718 [_,_] [] z) (ao 0x112b1a0112b71a78 [_,_] [] (ju q0))⟩)
  .by_cases he:L+1=R
   .rw[decide_eq_true he];refine aK (d:= .int (dO n (part xs L R))) F (λG=>?_) λv U F r=>fin F r;refine aS (o:= .list (xs.map .int)) (i:= .int L) (aa rfl) (aa rfl) ?_;subst he;have hL:L<xs.length:=by exact ao 0xb112a10b112a10 [_,_] [] Y
    rw[kN (by exact aM 0xfa032b0b112a10186a052a0 [_,_] [] hL hl),getElem?_map,getElem?_eq_getElem hL,zp hL];simp only[Option.map,iJ,iI];rw[Int.mul_zero,add_zero]
   .rw[decide_eq_false he];have hb:=mI (n:=n) (xs:=part xs ((L+R)/2) R) λx hm=>hx x (zq hm);have Ae:0<xs.length:=by exact aM 0xb112c10ab0a1120210 [_,_,_] [] Y z
    have L3:n<=4000:=le_trans (Nat.le_mul_of_pos_right n Ae) (by exact ao 0xf3c32a0fa032a0 [_] [] hn);have My:(dO n (part xs ((L+R)/2) R)).natAbs<big:=nk hb.1 hb.2 (le_trans (mul_le_mul_left n (by rw[sD Y];exact aM 50479106976 [_,_,_] [] qx Y)) (le_trans hn (by decide)));have hmul:(((L+R)/2:Nat)-(L:Nat))*n<=3900:=le_trans (Nat.mul_le_mul_right n (show(L+R)/2-L<=xs.length by exact cU 0xbe0ec1d2140dca11ba1 [_,_,_,_,_] [] (dE (cU 0xc112a10ca1b2140212b2141112ca111ba1 [_,_,_] [] vp kJ z)) kJ Y)) (by rw[Nat.mul_comm];exact hn);refine wpAny_execs_nil ?_;refine av (d:= .int ((L+R)/2:Nat)) F (λG=>?_) (.inl rfl) rfl rfl λU F=>?_
    .refine ag (a:= .int ((L:Int)+R)) (b:= .int 1) (ag (a:= .int L) (b:= .int R) (aa rfl) (aa rfl) rfl) aj ?_;rw[rD (by decide)];show some (D.int ((↑L+ ↑R:Int).fdiv 2))=_;rw[fdiv_eq_ediv_of_nonneg _ (by decide)];congr 2
    refine av (d:= .int ((((L+R)/2:Nat)-(L:Nat))*n:Nat)) F (λG=>?_) (.inl rfl) rfl rfl λU F=>?_
    .refine ag (a:= .int (((L+R)/2:Nat)-(L:Int))) (b:= .int n) (ag (a:= .int ((L+R)/2:Nat)) (b:= .int L) (aa rfl) (aa rfl) rfl) (aa rfl) ?_;rw[dp (bh ?_ ?_)]
     .congr 2;rw[natCast_mul,Int.ofNat_sub (by exact cU 0xc112a10ca1b2140212b2141112ca111ba1 [_,_,_] [] vp kJ z)]
     .exact lt_of_le_of_lt (show _<=4000 by exact G4 0xfa032e0ed0dc1b2140c7b76a79fa032a1 [_,_,_,_,_] [] (t4 (cU 0xc112b10cb1a2140212a2141112cb111b7a76029 [_,_,_] [] vp kJ z)) kJ Y hl) (by unfold big;decide+kernel)
     .exact lt_of_le_of_lt (show _<=4000 by simp;exact L3) (by unfold big;decide+kernel)
    refine aK (d:= .int (dO n (part xs L R))) F (λG=>?_) λv U F r=>fin F r
    refine ag (a:= .int (dO n (part xs ((L+R)/2) R)*2^((((L+R)/2:Nat)-(L:Nat))*n))) (b:= .int (dO n (part xs L ((L+R)/2)))) (ag (a:= .int (dO n (part xs ((L+R)/2) R))) (b:= .int ((((L+R)/2:Nat)-(L:Nat))*n:Nat))
     (n6 B rfl h1 rfl (ae (aa rfl) (ae (aa rfl) ai)) rfl (ih A' _ _ J (by exact aM 0xb112c10bc1a2140b112a11 [_,_,_] [] kJ z) (le_refl _) (by exact G4 0x212c2141112de110deb10eb1d1dca11112b1a2140 [_,_,_,_,_] [] (dE (aM 0xb112c10bc1a2140ba1 [_,_,_] [] kJ z)) eC (dE (ao 760521755552 [_,_] [] z)) vp) (by exact ao 0xb112112a110b112112a110 [_,_] [] (J8 (ao 0xb112a10b112a10 [_,_] [] z) he)))) (aa rfl) ?_)
     (n6 B rfl h1 rfl (ae (aa rfl) (ae (aa rfl) ai)) rfl (ih A' _ _ J (by lia) (by exact aM 0xb112c10bc1a2140ba1 [_,_,_] [] kJ z) (by exact cU 0xcb1e0ec1d2140dca11112b1a2140 [_,_,_,_,_] [] (dE (cU 0xc112a10ca1b2140212b2141112ca111ba1 [_,_,_] [] vp kJ z)) kJ eC) (by exact ao 0xb112112a110b112112a110 [_,_] [] (J8 (ao 0xb112a10b112a10 [_,_] [] z) he)))) ?_
    .rw[rE (iT ?_ ?_ ?_)]
     .rw[toNat_natCast]
     .exact natCast_nonneg _
     .exact My
     .exact ao 0xf3c32a0186a052a78 [_] [] hmul
    .show some _=some _;congr 2;rw[zr (L:=L) (m:=(L+R)/2) (R:=R) (by exact cU 0xc112a10ca1b2140212b2141112ca111ba1 [_,_,_] [] vp kJ z) (by exact aM 0xb112c10bc1a2140ba1 [_,_,_] [] kJ z) Y,lC,sD (by exact cU 0xbd1d112c10dc1a2140ba1 [_,_,_,_] [] kJ z Y),mul_comm,Nat.mul_comm,Int.add_comm]
theorem xq(B:c.B){fa:Addr}{xs:List Int}{n:Nat}(I:NK c fa xs n)(hx:∀x∈xs,0<=x/\x<2^n)(hn:n*xs.length<=3900)(hl:xs.length<=4000):
 ∀(j:Nat)(A:Around)(L R:Nat),aL A (j+1)->L<R->R<=xs.length->R-L<=2^j->Callee c A (.ref fa) [.int L,.int R] (.int (dO n (part xs L R))):=by
 intro j;induction j with
 |zero=>intro A L R Rm J D z;exact lU B I hx hn hl Rm J D λA' L' R' _ _ _ h6 h7=>False.elim (by exact Hb (cU 0x215c0ac1b0b112112a110021120 [_,_,_] [] h7 eC z))
 |succ j ih=>intro A L R Rm J D z;exact lU B I hx hn hl Rm J D λA' L' R' Y h4 h5 h6 h7=>ih A' L' R' Y h4 (by exact aM 50479106976 [_,_,_] [] h5 D) (by rw[pow_succ]at z;exact aM 0xb214c0112c1a2140ba1 [_,_,_] [] h6 z)
theorem B0{l:List Value}{v:Value}(h:TriplesOk l)(e:l[1]? =some v):∃i t,v= .int i t:=by
 cases l with
 |nil=>exact ns e
 |cons a r=>cases r with
  |nil=>exact ns e
  |cons b r=>cases a with
   |int x u=>cases b with
    |int i t=>exact⟨i,t,(bg e).symm⟩
    |_=>exact False.elim h
   |_=>exact False.elim h
theorem oW{Ls:List (Addr×Obj)}{h:Heap}{t:Tb}{J:Obj}{q:Str}(p:jM Ls h)(h1:Told Ls t)(h2:(t.P,J)∈Ls)(Y:jA J q):False:=by
 have D:∀ps,(t.P,tabObj ps)∈Ls->TriplesOk ps.toList->False:=λps hm ht=>by have:=qO p hm h2;subst this;refine cC Y λvs tt z1 I=>?_;clear Y;cases z1;rw[<-Array.getElem?_toList]at I;refine oM (B0 ht I) λi t e=>?_;cases e
 rcases h1 with z|⟨ps,c',R5,q1,q2,q3,q4,q5⟩
 .exact D _ z trivial
 .exact D _ q1 q3
theorem j6{w:World}{C:Addr}{G G':PH}:∀{xs:List Int}{vs:List Value},aE w C G (xs.map .int) vs->aE w C G' (xs.map .int) vs
 |[],_,h=>by simpa[aE]using h
 |x::r,_,h=>by show ∃_,_;refine bD h λv t e D z=>?_;clear h;exact⟨v,t,e,D,j6 z⟩
theorem EO{a L:Nat}(h:a=L)(ha:a=L+1+1+1\/a=L+1+1\/a=L+1):False:=by lia
noncomputable def B3(P code:Addr):Tb:=⟨P,code,posOf (inD 6 0),"_digits2int.<locals>.inner"⟩
theorem oI{T:List Addr}{b8:List Tb}(g:Gl c)(R:aL A 20){v:Value}(f:FnAt c 6 "_digits2int" v){P code:Addr}(tk:yk c (B3 P code))(ht:B3 P code∈b8)(FV:P∈T)(Ab:∀t'∈b8,t'.P=P->t'=B3 P code)(MA:∀b∈T,∃t∈b8,t.P=b)
 (Mj:∀a o fd,v= .ref a->c.h₀.get? a=some o->o.data= .func fd->fd.code= .ref code)
 {xs:List Int}{n:Nat}(hx:∀x∈xs,0<=x/\x<2^n)(hn:n*xs.length<=3900)(hl:xs.length<=4000):
 cJ c T b8 [B3 P code] A v [.list (xs.map .int),.int n] (.int (dO n xs)):=by
 refine eK g.B R f.f rfl rfl rfl rfl (by decide) (by decide) (by decide) λA' L ad cd G E af s Ls Q kq R' hv s6 hT hex nJ s7 cA F=>?_;refine bD s6 λo fd q1 q2 q3=>?_;clear s6;have iy:cd= .ref code:=by rw[<-q3];exact Mj ad o fd hv q1 q2
 have tY:PS T b8 [] Ls G af ((iG (ak (aw 6)) L).wide T) Ls:=PS.start cA hT nJ s7;refine yZ g.B tk ht FV Ab (clos:=f9 (ak (inD 6 0)) (bG (ak (aw 6)) "_digits2int" L ad cd)) F tY (by subst iy;rfl) ?_ rfl rfl rfl rfl (.inr (show _∈cw (ak (aw 6)) by decide)) rfl λU bL fa doc pm c' oc AP F P' z7 hm pK=>?_
 .rfl
 .have Aj:∀x a,(bG (ak (aw 6)) "_digits2int" L ad cd).cells.lookup x=some a->a∉T++[L]:=λx a h hm=>by
   have hc:([("inner",L+1+1+1),("n",L+1+1),("digits",L+1)]:List (Str×Addr)).lookup x=some a:=h;have ha:a=L+1+1+1\/a=L+1+1\/a=L+1:=du (P:=λ_ a=>a=L+1+1+1\/a=L+1+1\/a=L+1) hc (.inl rfl) λe=>du (P:=λ_ a=>a=L+1+1+1\/a=L+1+1\/a=L+1) e (.inr (.inl rfl)) λe=>du (P:=λ_ a=>a=L+1+1+1\/a=L+1+1\/a=L+1) e (.inr (.inr rfl)) ns;rcases de hm with hm|hm
   .rcases(F.dt x a h).2 with q|q
    .exact q (P'.hX a hm)
    .exact P'.hZ a hm q
   .have hL:=gj hm;exact EO hL ha
  have F2:=F.bare (X':=T++[L]) (Z':=[L]) (λa ha=>by
   rcases de ha with h|h
   .exact d7 h
   .rw[gj h];exact cv ((.head _))) (λa ha=>by rw[gj ha];exact .head _) (.head _) (λa ha=>cv ha) (λx a h=> .inl (Aj x a h))
  have og:∀x d,(bG (ak (aw 6)) "_digits2int" L ad cd).kindOf x=some .cell->(([("inner",.adr fa),("digits",.list (xs.map .int)),("n",.int n)]):List (Str×D)).lookup x=some d->
        ∃a v,(bG (ak (aw 6)) "_digits2int" L ad cd).cells.lookup x=some a/\U.heap.IsCell a (some v)/\Rep c.w c.C (aX G (aN af T) (T++[L]) U) d v:=λx d hk hd=>by
   refine aq (F2.view.vars x d hd) λv i r=>?_;rcases i with⟨q,_⟩|⟨_,a,q1,q2⟩
   .rw[hk]at q;cases q
   .exact⟨a,v,q1,q2,r⟩
  refine bD (og "digits" _ rfl rfl) λca va a1 a2 a3=>?_;refine bD (og "n" _ rfl rfl) λcb vb b1 b2 b3=>?_;refine bD (og "inner" _ rfl rfl) λcc vc d1 d2 d3=>?_;have u':∀x a v,(bG (ak (aw 6)) "_digits2int" L ad cd).cells.lookup x=some a->U.heap.IsCell a (some v)->x∈cw (ak (aw 6))->∃o,aX G (aN af T) (T++[L]) U a o/\o.data= .cell (some v):=λx a v h1 h2 h3=>by refine aq h2 λo e hd=>?_;clear h2;obtain⟨_,a',v',q1,q2,_⟩:=F.gR x h3;rw[h1]at q1;obtain rfl:=bg q1;exact⟨o,.inr ⟨e,F.new _ (F.zx _ q2),Aj x a h1⟩,hd⟩
  refine aq (u' _ _ _ a1 a2 (by decide)) λoa EN K9=>?_;refine aq (u' _ _ _ b1 b2 (by decide)) λob EL K8=>?_;refine aq (u' _ _ _ d1 d2 (by decide)) λFu EK K7=>?_;have Ga:aX G (aN af T) (T++[L]) U fa (ky "inner" "_digits2int.<locals>.inner" (rj (inD 6 0)) (bp (inD 6 0)) (ak (inD 6 0)) (f9 (ak (inD 6 0)) (bG (ak (aw 6)) "_digits2int" L ad cd)) doc pm (.ref c') AP):=by
   rcases z7 with z|⟨z1,z2,z3⟩
   .exact .inl z
   .refine .inr ⟨z1,z2,λhm=>z3 ?_⟩;rcases de hm with h|h
    .exact d7 h
    .rw[gj h];exact cv ((.head _))
  have Gf:aX G (aN af T) (T++[L]) U c' oc:=by
   rcases P'.lz _ hm with z|z|⟨z1,z2⟩
   .refine aq (MA _ z) λt h1 h2=>?_;exact(oW F.inv (P'.told t h1) (by rw[h2];exact hm) pK).elim
   .exact .inl z
   .refine .inr ⟨F.inv _ hm,dy z1,λJd=>z2 ?_⟩;rcases de Jd with h|h
    .exact d7 h
    .rw[gj h];exact cv ((.head _))
  have O5:=a3;refine dR O5 λla vs nn mh gl rl=>?_;clear O5;obtain rfl:=mh;have sub:∀a o,aX G (aN af T) (T++[L]) U a o->U.heap.get? a=some o:=F2.view.sub;have ho:∀a o,c.h₀.get? a=some o->U.heap.get? a=some o:=F2.view.old;have hb:∀a o,(c.ext U.heap [fa,c',ca,cb,cc,la]).h₀.get? a=some o->aX G (aN af T) (T++[L]) U a o:=λa o e=>by
   rcases Cx.uC ho e with e|⟨hm,e⟩
   .exact F2.view.base a o e
   .have at':∀{b p},a=b->aX G (aN af T) (T++[L]) U b p->aX G (aN af T) (T++[L]) U a o:=λ{b p}hq hv=>by subst hq;rw[sub _ _ hv]at e;obtain rfl:=bg e;exact hv
    exact(dg hm).elim (λq=>at' q Ga) λhm=>(dg hm).elim (λq=>at' q Gf) λhm=>(dg hm).elim (λq=>at' q EN) λhm=>(dg hm).elim (λq=>at' q EL) λhm=>(dg hm).elim (λq=>at' q EK) λhm=>at' (gj hm) gl
  have B':(c.ext U.heap [fa,c',ca,cb,cc,la]).B:=g.B.more (Cx.rk ho);have nw:∀{a o},a∈[fa,c',ca,cb,cc,la]->aX G (aN af T) (T++[L]) U a o->(c.ext U.heap [fa,c',ca,cb,cc,la]).h₀.get? a=some o:=λhm hv=>Cx.rn hm (sub _ _ hv)
  have I1:∀x d,([("digits",.list (xs.map .int)),("n",.int n),("inner",.adr fa)]:List (Str×D)).lookup x=some d->∃a v,(f9 (ak (inD 6 0)) (bG (ak (aw 6)) "_digits2int" L ad cd)).lookup x=some a/\(c.ext U.heap [fa,c',ca,cb,cc,la]).h₀.IsCell a (some v)/\
   Rep c.w c.C (λa o=>(c.ext U.heap [fa,c',ca,cb,cc,la]).h₀.get? a=some o) d v/\(ak (inD 6 0)).names.lookup x=some .free/\(x==("__classdict__":Str))=false:=λx d e=>by
   refine du e ?_ λe=>?_
   .exact⟨ca,_,a1,⟨oa,nw (.tail _ (.tail _ (.head _))) EN,K9⟩,by show ∃_,_;exact⟨la,vs,nn,rfl,nw (.tail _ (.tail _ (.tail _ (.tail _ (.tail _ (.head _)))))) gl,j6 rl⟩,rfl,by decide⟩
   refine du e ?_ λe=>?_
   .exact⟨cb,_,b1,⟨ob,nw (.tail _ (.tail _ (.tail _ (.head _)))) EL,K8⟩,b3,rfl,by decide⟩
   refine du e ?_ ns;exact⟨cc,_,d1,⟨Fu,nw (.tail _ (.tail _ (.tail _ (.tail _ (.head _))))) EK,K7⟩,d3,rfl,by decide⟩
  have I2:∀x a,(f9 (ak (inD 6 0)) (bG (ak (aw 6)) "_digits2int" L ad cd)).lookup x=some a->∃o,(c.ext U.heap [fa,c',ca,cb,cc,la]).h₀.get? a=some o:=λx a e=>by
   have hc:([("inner",L+1+1+1),("n",L+1+1),("digits",L+1)]:List (Str×Addr)).lookup x=some a:=eU e;have ea:L+1=ca:=bg a1;have eb:L+1+1=cb:=bg b1;have ec:L+1+1+1=cc:=bg d1;refine du hc ?_ λh=>?_
   .rw[ec];exact⟨_,nw (.tail _ (.tail _ (.tail _ (.tail _ (.head _))))) EK⟩
   refine du h ?_ λh=>?_
   .rw[eb];exact⟨_,nw (.tail _ (.tail _ (.tail _ (.head _)))) EL⟩
   refine du h ?_ ns;rw[ea];exact⟨_,nw (.tail _ (.tail _ (.head _))) EN⟩
  have I:NK (c.ext U.heap [fa,c',ca,cb,cc,la]) fa xs n:=⟨doc,pm,c',oc,AP,_,nw (.head _) Ga,nw (.tail _ (.head _)) Gf,pK,I1,I2,λx y a h1 h2=>F2.apart x y a (eU h1) (eU h2)⟩;refine wpAny_execs_cons (wpAny_Return_some (F2.runC (c':=c.ext U.heap [fa,c',ca,cb,cc,la]) (d:= .int (dO n xs)) (λG'=>?_) rfl rfl hb λv cP F3 r=>?_))
  .refine pR (b:=decide (xs≠[])) (gU (a:= .list (xs.map .int)) (aa rfl) ?_) (λh=>?_) (λh=>?_)
   .show(if sizeOk (xs.map D.int).length then some (!(xs.map D.int).isEmpty)else none)=_;rw[if_pos (by rw[length_map];exact ble_eq_true_of_le (by exact ao 0xfa032a0100000072a0 [_] [] hl))];cases xs<;>simp
   .have jQ:xs≠[]:=by simpa using h
    have hlen:0<xs.length:=List.length_pos_iff.mpr jQ;have hp:part xs 0 xs.length=xs:=by simp[part]
    refine aB (d:= .int (dO n (part xs 0 xs.length))) ?_ (by rw[hp])
    refine n6 B' rfl (nw (.head _) Ga) rfl (ae aj (ae (aF B' rfl (g.no _ (by decide)) boot_len (by decide) (.b _) (ae (aa (d:= .list (xs.map .int)) rfl) ai) rfl (gP (n:=xs.length) ?_)) ai)) rfl
     (xq B' I hx hn hl 12 A' 0 xs.length (R'.le (by decide)) hlen (le_refl _) (by exact aM 0xfa032b0ba0c1215a0 [_,_] [] qx hl))
    show(if sizeOk (xs.map D.int).length then some ((xs.map D.int).length:Int)else none)=_;rw[if_pos (by rw[length_map];exact ble_eq_true_of_le (by exact ao 0xfa032a0100000072a0 [_] [] hl)),length_map]
   .have:xs=[]:=by simpa using h
    subst this;exact aj
  .refine kq _ _ (PS.fin (H:={X:=T++[L],Z:=[L],Y:=[],fp:=[],J:=λ_=>True}) ⟨λt ht=>d7 ht,λt ht hm=>?_,P'.told,P'.full,P'.mono,P'.done,λq hq=>?_⟩ F3 r)
   .rw[gj hm]at ht;exact P'.hZ _ ht (.head _)
   .exact(P'.lz q hq).imp id (Or.imp id λz=>⟨z.1,λhm=>z.2 (by
     rcases de hm with h|h
     .exact d7 h
     .rw[gj h];exact cv ((.head _)))⟩)
noncomputable def bX(n:Nat):Nat->Nat->List Int
 |0,_=>[]
 |m+1,x=>((x%2^n:Nat):Int)::bX n m (x/2^n)
theorem lh{n x:Nat}:bX n 0 x=[]:=rfl
theorem jV{n m x:Nat}:bX n (m+1) x=((x%2^n:Nat):Int)::bX n m (x/2^n):=rfl
theorem ei{n:Nat}:∀{m x:Nat},(bX n m x).length=m
 |0,_=>rfl
 |m+1,x=>by simp[jV,lh,ei]
theorem tD{n:Nat}:∀{m x:Nat},bX n m (x%2^(n*m))=bX n m x
 |0,_=>rfl
 |m+1,x=>by
  simp only[jV];have e:2^(n*(m+1))=2^n*2^(n*m):=by rw[mul_add,Nat.mul_one,add_comm,pow_add]
  have D:x%2^(n*(m+1))%2^n=x%2^n:=by rw[e];exact Nat.mod_mul_right_mod _ _ _
  have z:x%2^(n*(m+1))/2^n=(x/2^n)%2^(n*m):=by rw[e];exact Nat.mod_mul_right_div_self _ _ _
  rw[D,z,tD]
theorem tE{n:Nat}{k:Nat}:∀{m x:Nat},bX n (m+k) x=bX n m x++bX n k (x/2^(n*m))
 |0,x=>by simp[jV,lh]
 |m+1,x=>by rw[show m+1+k=(m+k)+1 from by exact dG (aI 77328728766718224 [_,_] []) (aI 0xb112a11112ba110 [_,_] [])];simp only[jV,lh,cons_append];rw[tE,Nat.div_div_eq_div_mul,<-pow_add,mul_add,Nat.mul_one,add_comm n]
theorem ie{n:Nat}:∀{m x:Nat},∀d∈bX n m x,0<=d/\d<2^n
 |0,_,d,h=>nomatch h
 |m+1,x,d,h=>by
  simp only[jV,lh]at h;rcases dg h with rfl|h
  .refine⟨natCast_nonneg _,?_⟩;have:x%2^n<2^n:=mod_lt _ (Nat.pow_pos (by decide))
   exact_mod_cast this
  .exact ie d h
noncomputable def put:List Int->Nat->List Int->List Int
 |ds,_,[]=>ds
 |ds,L,y::ys=>put (ds.set L y) (L+1) ys
theorem so{ds ys:List Int}{L:Nat}{y:Int}:put ds L (y::ys)=put (ds.set L y) (L+1) ys:=rfl
theorem vC{ds:List Int}{L:Nat}:put ds L []=ds:=rfl
theorem vD:∀{ys:List Int}{ds:List Int}{L:Nat},(put ds L ys).length=ds.length
 |[],_,_=>rfl
 |y::ys,ds,L=>by rw[so,vD,length_set]
theorem vE{z:List Int}:∀{ys ds:List Int}{L:Nat},put ds L (ys++z)=put (put ds L ys) (L+ys.length) z
 |[],_,_=>rfl
 |y::ys,ds,L=>by simp only[cons_append,so,vC,length_cons];rw[vE,add_assoc,add_comm 1]
theorem vF:∀{ys ds:List Int}{L:Nat},L+ys.length=ds.length->put ds L ys=ds.take L++ys
 |[],ds,L,h=>by simp only[so,vC,append_nil];rw[take_of_length_le (by simp at h;exact ao 12192672 [_,_] [] (ju h))]
 |y::ys,ds,L,h=>by
  simp only[length_cons]at h;simp only[so,vC];rw[vF (by rw[length_set];exact dG (ao 0xc112b1a10cb112a110 [_,_,_] [] (dX h)) (ao 0x112c1b1a0c112b11a0 [_,_,_] [] (ju h)))];have z:L<ds.length:=by exact ao 0xb112c1a10b112a10 [_,_,_] [] (dX h)
  rw[take_add_one,List.getElem?_set_self z,List.take_set_of_le (le_refl _)];simp
theorem BS{x k:Nat}:Builtin.bitXor (x:Int) ((x/2^k*2^k:Nat):Int)=((x%2^k:Nat):Int):=by
 rw[bitXor_and,bitAnd_pp (natCast_nonneg _) (natCast_nonneg _),toNat_natCast,toNat_natCast];have h:x&&&(x/2^k*2^k)=x/2^k*2^k:=by
  apply Nat.eq_of_testBit_eq;intro i;rw[Nat.testBit_and,Nat.testBit_mul_two_pow,Nat.testBit_div_two_pow];by_cases hi:k<=i
  .rw[Nat.sub_add_cancel hi];simp
  .simp[hi]
 rw[h];have:=div_add_mod x (2^k);have z:x/2^k*2^k+x%2^k=x:=by rw[Nat.mul_comm];exact this
 exact dq (ao 0xcb1a0c7b7213b7a7168 [_,_,_] [] (ju z)) (ao 0xbac10c7213c7b716a78 [_,_,_] [] (dX z))
def DW(c:Cx)(A:Around)(f:Value)(la:Addr)(ds:List D)(xs ys:List Int):Prop:=
 ∀(E:Value->Shared->Prop)(s:Shared)(G:PH)(vs:List Value),Gd c G (aN s [la])->(∃o,s.heap.get? la=some o/\cg c G la (.lst (xs.map .int)) o)->aE c.w c.C G ds vs->
  wpAny (model PW c.w) A (call f vs) (λv U=>v= .none/\U={s with heap:=U.heap,toks:=U.toks}/\(∀b o,b≠la->s.heap.get? b=some o->U.heap.get? b=some o)/\∃o,U.heap.get? la=some o/\cg c G la (.lst (ys.map .int)) o) E s
variable{c':Cx}
theorem qP{a:Addr}{xs:List Int}{o:Obj}(h:cg c G a (.lst (xs.map .int)) o):cg c G' a (.lst (xs.map .int)) o:=by refine cC h λvs n e l=>?_;clear h;exact⟨vs,n,e,j6 l⟩
theorem aE.cx{w:World}{C:Addr}{ds:List D}{vs:List Value}(z:nR ds=true)(h:∀a o,G' a o->G a o\/o.cls≠ .type "tuple")(l:aE w C G' ds vs):aE w C G ds vs:=l.flatten h z
theorem Fs.mutated{x:Str}{la:Addr}{od:OD}{ys:List Int}(F:Fs c ah af H O ρ [(x,la,od)] s)(J:U={s with heap:=U.heap,toks:=U.toks})(tk:s.toks<=U.toks)
 (Y:∀b o,b≠la->s.heap.get? b=some o->U.heap.get? b=some o){o:Obj}(ho:U.heap.get? la=some o)(I:cg c G la (.lst (ys.map .int)) o):Fs c ah af H O ρ [(x,la,.lst (ys.map .int))] U:=by
 refine aq F.l8 λD z _=>?_;have hf:o.isFreed=false:=(Heap.get?_some_iff.mp ho).2;have e1:=Heap.get?_update_self (λ_=>o) z hf;have F1:=F.mut (od':= .lst (ys.map .int)) (tk:=s.toks) (Heap.SameBut.update s.heap la λ_=>o) (le_refl _) e1 (qP I);refine F1.keeps ⟨U.heap,U.toks,J,λb p e=>?_⟩ tk;by_cases hb:b=la
 .subst hb;have e:(s.heap.update b λ_=>o).get? b=some p:=e;rw[e1]at e;obtain rfl:=bg e;exact ho
 .have e:(s.heap.update la λ_=>o).get? b=some p:=e;rw[Heap.get?_update_other _ _ (Ne.symm hb)]at e;exact Y b p hb e
theorem mM{x y:Str}{la fa:Addr}{o:Obj}{fd:FuncData}{xs ys:List Int}{p J pos:Pos}{es:List Expr}{ds:List D}{rest:List Stmt}{Q:Flow->Shared->Prop}(hw:c'.w=c.w)(hC:c'.C=c.C)
 (F:Fs c ah af H O ρ [(y,la,.lst (xs.map .int))] s)(hb:∀a o,c'.h₀.get? a=some o->aX ah af H.X s a o)(hx:ρ.lookup x=some (.adr fa))(Gb:c'.h₀.get? fa=some o)(hd:o.data= .func fd)
 (ha:∀G,oQ c' A O (l7 [(y,la,.lst (xs.map .int))]++ρ) G es ds)(Hv:nR ds=true)(iC:(starEach es O).any (·.1)=false)(hc:DW c' A (.ref fa) la ds xs ys)
 (kk:∀U,Fs c ah af H O ρ [(y,la,.lst (ys.map .int))] U->wpAny (model PW c.w) A (execs rest O) Q E U)
 (hi:interactive O=false)(hs:swapsWith (.Call (.Name x p) es [] J) none pos.line O=pure false)(Jl:(x==("__debug__":Str))=false:=by decide):
 wpAny (model PW c.w) A (execs (.Expr (.Call (.Name x p) es [] J) pos::rest) O) Q E s:=by
 refine wpAny_execs_cons (wpAny_Expr ?_ hi hs);refine aq (F.view.vars x _ hx) λv i r=>?_;subst r;have X:=F.hW;have V:Vw c' O (l7 [(y,la,.lst (xs.map .int))]++ρ) (HZ (aX ah af H.X s) [(y,la,.lst (xs.map .int))] s) s:=
  {sub:=X.sub,base:=λa o e=> .inl (hb a o e),toks:=X.toks,kind:=X.kind,glob:=X.glob,fq:=X.fq,vars:=by rw[hw,hC];exact X.vars,apart:=X.apart,cells:=X.cells}
 have q:wpAny (model PW c'.w) A (callWith J (.ref fa) [] (backTo J (starEach es O)) []) (λv U=>v= .none/\wpAny (model PW c.w) A (execs rest O) Q E U) E s:=by
  refine Be (.f fa o fd Gb hd) V (ha _) iC λvs s₁ kp tk l ou=>?_;have z:=F.keeps kp tk;refine aq z.l8 λIi I5 Y=>?_;obtain⟨BF,_⟩:=z.own _ (.head _);have BF:la∈H.X:=z.zx _ BF;have l':aE c'.w c'.C (aX ah af H.X s₁) ds vs:=by
   refine l.flatten (λa o hg=>?_) Hv;rcases hg with(h|⟨e,he,rfl,h⟩)|h
   .exact .inl (bF F.ex F.old kp _ _ (.inl h))
   .obtain⟨_,_,_,o',h4,h5⟩:=F.own e he;rw[h]at h4;obtain rfl:=bg h4;exact .inr h5.cls
   .exact .inl (bF F.ex F.old kp _ _ (.inr h))
  have gd:Gd c' (aX ah af H.X s₁) (aN s₁ [la]):={
   sub:=λa o hv=>b9 (z.view.sub a o hv) λhm=>by
    rw[gj hm]at hv;rcases hv with hv|hv
    .have:=F.gd.sub _ _ hv;rw[F.new _ BF]at this;exact ns this
    .exact hv.2.2 BF
   base:=λa o e=>bF F.ex F.old kp _ _ (.inl (hb a o e))
   toks:=z.view.toks}
  refine wpAny_mono (wpAny_toks (hc E s₁ _ vs gd ⟨Ii,I5,by refine cC Y λI zF Gp Fw=>?_;clear Y;exact⟨I,zF,Gp,by rw[hw,hC];exact Fw⟩⟩ l')) (λv ay p=>?_) λ_ _ p=>p.2;obtain⟨p0,pv,p1,p2,Lm,p3,p4⟩:=p;refine⟨pv,kk ay (z.mutated p1 p0 p2 p3 (G:=aX ah af H.X s₁) ?_)⟩;refine cC p4 λI zF Gp Fw=>?_;clear p4;exact⟨I,zF,Gp,j6 (by rw[<-hw,<-hC];exact Fw)⟩
 rw[hw]at q;refine wpAny_Call_NameR ?_;have q:=wpAny_mono (E':=E) (Q':=λv U=>match v with| .ref a=>False|x=>wpAny (model PW c.w) A (execs rest O) Q E U) q (λv U h=>by obtain⟨rfl,h⟩:=h;exact h) λ_ _ e=>e;rcases i with⟨a,m,n,e⟩|⟨a|a,b,n,e⟩
 .exact wpAny_Name (wpAny_loadName_local F.view.kind a n e q) Jl
 .exact wpAny_Name (wpAny_loadName_cell F.view.kind a n e q) Jl
 .exact wpAny_Name (wpAny_loadName_free F.view.kind a.1 n e q a.2) Jl
structure NL(c:Cx)(fa la:Addr)(n:Nat):Prop where
 ex:∃doc J c' I z cl,c.h₀.get? fa=some (ky "inner" "_int2digits.<locals>.inner" (rj (inD 5 1)) (bp (inD 5 1)) (ak (inD 5 1)) cl doc J (.ref c') z)/\c.h₀.get? c'=some I/\jA I "_int2digits.<locals>.inner"/\
  (∀x d,([("n",.int n),("inner",.adr fa)]:List (Str×D)).lookup x=some d->∃a v,cl.lookup x=some a/\c.h₀.IsCell a (some v)/\Rep c.w c.C (λa o=>c.h₀.get? a=some o) d v/\(ak (inD 5 1)).names.lookup x=some .free/\(x==("__classdict__":Str))=false)/\
  (∃a,cl.lookup ("a_digits":Str)=some a/\c.h₀.IsCell a (some (.ref la)))/\
  (∀x a,cl.lookup x=some a->∃o,c.h₀.get? a=some o)/\(∀x y a,cl.lookup x=some a->cl.lookup y=some a->x=y)
 la:c.h₀.get? la=none
theorem Ba{la:Addr}(z:c.h₀.get? la=none){a:Addr}(h:∃o,c.h₀.get? a=some o):a∉[la]:=λD=>by obtain⟨o,e⟩:=h;rw[gj D,z]at e;exact ns e
theorem lW(B:c.B){fa la:Addr}{n N:Nat}(I:NL c fa la n)(hn:n*N<=3900)(hl:N<=4000){k L R x:Nat}{ds:List Int}(hd:ds.length=N)(Rm:aL A (k+1))(z:L<R)(hR:R<=N)(hx:x<2^(n*(R-L)))
 (ih:∀(A':Around)(L' J x':Nat)(Na:List Int),Na.length=N->aL A' k->L'<J->J<=R->(J-L')*2<=R-L+1->L+1<R->x'<2^(n*(J-L'))->DW c A' (.ref fa) la [.int x',.int L',.int J] Na (put Na L' (bX n (J-L') x'))):
 DW c A (.ref fa) la [.int x,.int L,.int R] ds (put ds L (bX n (R-L) x)):=by
 intro E s G vs g Y l;refine MR I.ex λdoc pm c' oc AP cl h1 h2 h3 h4 h7 h5 h6=>?_;refine aq Y λlo OG FX=>?_;clear Y;have old:∀b o,c.h₀.get? b=some o->s.heap.get? b=some o:=λb o e=>gX (g.old b o e)
 refine tL (M:=[la]) (ρf:=[("n",.int n),("inner",.adr fa)]) (own:=[("a_digits",la,.lst (ds.map .int))]) (k:=k) (ps:=["x","L","R"]) B Rm g (old _ _ h1) (qa (old _ _ h2) h3) l rfl (λvals hv=>?_) (λb hb=>?_) rfl rfl rfl (by decide) (by decide) (by decide) (λx d e=>?_) (λx a e=>?_) h6 (λe he=>?_)
  λA' L0 E' U J Ra tk F=>?_
 .refine AI (CM hv) λa b d e=>?_;subst e;rfl
 .rw[gj hb];exact⟨_,OG⟩
 .refine k9 (h4 x d e) λa v e1 e2 e3 e4 e5=>?_;exact⟨a,v,e1,e2.keeps old,e3.mono λa o q=>g.base a o q,e4,e5⟩
 .obtain⟨o,e⟩:=h5 x a e;exact⟨Ba I.la ⟨o,e⟩,o,old _ _ e⟩
 .rw[gj he];refine aq h7 λa e1 e2=>?_;clear h7;exact⟨.head _,⟨a,e1,e2.keeps old⟩,rfl,show(("a_digits":Str)==("__classdict__":Str))=false by decide,lo,OG,FX⟩
 .have fin:∀{H' bP cP}{ys:List Int},Fs c G (aN s [la]) H' (envX "_int2digits.<locals>.inner" (ak (inD 5 1)) L0 fa (.ref c') cl) bP [("a_digits",la,.lst (ys.map .int))] cP->H'.X=L0::[la]->
   Value.none= .none/\cP={s with heap:=cP.heap,toks:=cP.toks}/\(∀b o,b≠la->s.heap.get? b=some o->cP.heap.get? b=some o)/\∃o,cP.heap.get? la=some o/\cg c G la (.lst (ys.map .int)) o:=λF hX=>
   ⟨rfl,F.rest,λb o hb e=>F.old b o (b9 e λhm=>hb (gj hm)),let⟨o,h1,h2⟩:=F.l8;⟨o,h1,qP h2⟩⟩
  refine bK F (b:=decide (L+1=R)) (λG=>?_) λU F=>?_
  .exact aC B J (a:= .int ((L:Int)+1)) (b:= .int R) (ag (a:= .int L) (b:= .int 1) (aa rfl) aj rfl) (aa rfl) (by show some _=some _;congr 1;rw[Bool.eq_iff_iff];simp;exact⟨λq0=>dG (ao 0xb112a10b112a10 [_,_] [] z) (ao 0x112b71a78112b1a0 [_,_] [] (rQ q0)),λq0=>dq (ao 0xb112a10b7112a718 [_,_] [] z) (ao 0x112b1a0112b71a78 [_,_] [] (ju q0))⟩)
  .by_cases he:L+1=R
   .rw[decide_eq_true he];subst he;rw[show L+1-L=1 from by exact dG (ao 4832472269394592 [_,_] [] (dE (aI 17998240 [_] []))) (ao 0xba1112b10a1120 [_,_] [] eC)]at hx⊢;rw[Nat.mul_one]at hx;refine qF (n:=(L:Int)) (d:= .int x) F (λG=>aa rfl) rfl (λG=>aa rfl) (natCast_nonneg _) (by rw[length_map];exact aM 0xbc0c112a10b7112a718 [_,_,_] [] hR (ju hd)) (aD (by rw[length_map];exact aM 0xfa032b0ba03d090062a0 [_,_] [] (dX hd) hl)) λU F=>?_;refine wpAny_execs_cons (wpAny_Return_none ?_);have e:(ds.map D.int).set (L:Int).toNat (.int x)=(put ds L (bX n 1 x)).map .int:=by simp only[jV,lh,so,vC,Nat.mod_eq_of_lt hx,toNat_natCast,map_set]
    rw[e]at F;exact fin F rfl
   .rw[decide_eq_false he];have Ae:0<N:=by exact aM 0xb112c10ab0a1120210 [_,_,_] [] hR z
    have L3:n<=4000:=le_trans (Nat.le_mul_of_pos_right n Ae) (by exact ao 0xf3c32a0fa032a0 [_] [] hn);have hmul:(((L+R)/2:Nat)-(L:Nat))*n<=3900:=le_trans (Nat.mul_le_mul_right n (show(L+R)/2-L<=N by exact cU 0xbe0ec1d2140dca11ba1 [_,_,_,_,_] [] (dE (cU 0xc112a10ca1b2140212b2141112ca111ba1 [_,_,_] [] vp kJ z)) kJ hR)) (by rw[Nat.mul_comm];exact hn);have Qi:x<big:=lt_of_lt_of_le hx (pow_le_pow_right (by decide) (le_trans (mul_le_mul_left n (show R-L<=N by exact aM 50479106976 [_,_,_] [] qx hR)) (by exact ao 0xf3c32a0fa032a0 [_] [] hn)));refine wpAny_execs_nil ?_;refine av (d:= .int ((L+R)/2:Nat)) F (λG=>?_) (.inl rfl) rfl rfl λU F=>?_
    .refine ag (a:= .int ((L:Int)+R)) (b:= .int 1) (ag (a:= .int L) (b:= .int R) (aa rfl) (aa rfl) rfl) aj ?_;rw[rD (by decide)];show some (D.int ((↑L+ ↑R:Int).fdiv 2))=_;rw[fdiv_eq_ediv_of_nonneg _ (by decide)];congr 2
    refine av (d:= .int ((((L+R)/2:Nat)-(L:Nat))*n:Nat)) F (λG=>?_) (.inl rfl) rfl rfl λU F=>?_
    .refine ag (a:= .int (((L+R)/2:Nat)-(L:Int))) (b:= .int n) (ag (a:= .int ((L+R)/2:Nat)) (b:= .int L) (aa rfl) (aa rfl) rfl) (aa rfl) ?_;rw[dp (bh ?_ ?_)]
     .congr 2;rw[natCast_mul,Int.ofNat_sub (by exact cU 0xc112a10ca1b2140212b2141112ca111ba1 [_,_,_] [] vp kJ z)]
     .exact lt_of_le_of_lt (show _<=4000 by exact G4 0xfa032e0ed0dc1b2140c7b76a79fa032a1 [_,_,_,_,_] [] (t4 (cU 0xc112b10cb1a2140212a2141112cb111b7a76029 [_,_,_] [] vp kJ z)) kJ hR hl) (by unfold big;decide+kernel)
     .exact lt_of_le_of_lt (show _<=4000 by simp;exact L3) (by unfold big;decide+kernel)
    refine av (d:= .int (x/2^(((L+R)/2-L)*n):Nat)) F (λG=>?_) (.inl rfl) rfl rfl λU F=>?_
    .refine ag (a:= .int x) (b:= .int ((((L+R)/2:Nat)-(L:Nat))*n:Nat)) (aa rfl) (aa rfl) ?_;rw[rD (natCast_nonneg _),toNat_natCast,fdiv_eq_ediv_of_nonneg _ (by exact le_of_lt (pow_pos (by decide)))];congr 2
    refine av (d:= .int (x%2^(((L+R)/2-L)*n):Nat)) F (λG=>?_) (.inl rfl) rfl rfl λU F=>?_
    .refine ag (a:= .int x) (b:= .int (x/2^(((L+R)/2-L)*n)*2^(((L+R)/2-L)*n):Nat)) (aa rfl) (ag (a:= .int (x/2^(((L+R)/2-L)*n):Nat)) (b:= .int ((((L+R)/2:Nat)-(L:Nat))*n:Nat)) (aa rfl) (aa rfl) ?_) ?_
     .rw[rE (iT ?_ ?_ ?_)]
      .rw[toNat_natCast];congr 2
      .exact natCast_nonneg _
      .rw[natAbs_natCast];exact lt_of_le_of_lt (div_le_self _ _) Qi
      .exact ao 0xf3c32a0186a052a78 [_] [] hmul
     .show some (D.int (Builtin.bitXor _ _))=_;rw[BS]
    have L8:(((L+R)/2:Nat)-(L:Nat))*n=n*((L+R)/2-L):=Nat.mul_comm _ _
    refine mM rfl rfl F F.view.base rfl h1 rfl (λG=>ae (aa rfl) (ae (aa rfl) (ae (aa rfl) ai))) rfl rfl
     (ih A' L ((L+R)/2) (x%2^(((L+R)/2-L)*n)) ds hd J (by lia) (by exact aM 0xb112c10bc1a2140ba1 [_,_,_] [] kJ z) (by exact cU 0xcb1e0ec1d2140dca11112b1a2140 [_,_,_,_,_] [] (dE (cU 0xc112a10ca1b2140212b2141112ca111ba1 [_,_,_] [] vp kJ z)) kJ eC) (by exact ao 0xb112112a110b112112a110 [_,_] [] (J8 (ao 0xb112a10b112a10 [_,_] [] z) he)) (by rw[L8];exact mod_lt _ (Nat.pow_pos (by decide)))) (λU F=>?_) rfl rfl
    refine mM rfl rfl F F.view.base rfl h1 rfl (λG=>ae (aa rfl) (ae (aa rfl) (ae (aa rfl) ai))) rfl rfl
     (ih A' ((L+R)/2) R (x/2^(((L+R)/2-L)*n)) _ (by rw[vD];exact hd) J (by exact aM 0xb112c10bc1a2140b112a11 [_,_,_] [] kJ z) (by exact aI 2720 [_] []) (by exact G4 0x212c2141112de110deb10eb1d1dca11112b1a2140 [_,_,_,_,_] [] (dE (aM 0xb112c10bc1a2140ba1 [_,_,_] [] kJ z)) eC (dE (ao 760521755552 [_,_] [] z)) vp) (by exact ao 0xb112112a110b112112a110 [_,_] [] (J8 (ao 0xb112a10b112a10 [_,_] [] z) he)) ?_) (λU F=>?_) rfl rfl
    .rw[L8];refine Nat.div_lt_of_lt_mul ?_;rw[<-pow_add,<-mul_add,show(L+R)/2-L+(R-(L+R)/2)=R-L from by exact dG (cU 0xdc1f0feb10eda10cba10 [_,_,_,_,_,_] [] (dE (cU 0xc112a10ca1b2140212b2141112ca111ba1 [_,_,_] [] vp kJ z)) (dE (aM 0xb112c10bc1a2140ba1 [_,_,_] [] kJ z)) eC) (cU 0xdb1f0fc1e0eda10cb1a0 [_,_,_,_,_,_] [] (dE (ao 760521755552 [_,_] [] z)) eC eC)];exact hx
    refine wpAny_execs_nil ?_;have e:put (put ds L (bX n ((L+R)/2-L) (x%2^(((L+R)/2-L)*n)))) ((L+R)/2) (bX n (R-(L+R)/2) (x/2^(((L+R)/2-L)*n)))=put ds L (bX n (R-L) x):=by rw[show R-L=((L+R)/2-L)+(R-(L+R)/2)from by exact dG (cU 0xdb1f0fc1e0eda10cb1a0 [_,_,_,_,_,_] [] (dE (ao 760521755552 [_,_] [] z)) eC eC) (cU 0xdc1f0feb10eda10cba10 [_,_,_,_,_,_] [] (dE (cU 0xc112a10ca1b2140212b2141112ca111ba1 [_,_,_] [] vp kJ z)) (dE (aM 0xb112c10bc1a2140ba1 [_,_,_] [] kJ z)) eC),tE,vE,ei,L8,tD];congr 1;exact dG (ao 807890891168 [_,_,_] [] eC) (ao 870553795088 [_,_,_] [] (dE (cU 0xc112a10ca1b2140212b2141112ca111ba1 [_,_,_] [] vp kJ z)))
    rw[e]at F;exact fin F rfl
theorem xr(B:c.B){fa la:Addr}{n N:Nat}(I:NL c fa la n)(hn:n*N<=3900)(hl:N<=4000):
 ∀(j:Nat)(A:Around)(L R x:Nat)(ds:List Int),ds.length=N->aL A (j+1)->L<R->R<=N->R-L<=2^j->x<2^(n*(R-L))->DW c A (.ref fa) la [.int x,.int L,.int R] ds (put ds L (bX n (R-L) x)):=by
 intro j;induction j with
 |zero=>intro A L R x ds hd Rm h1 Y J z;exact lW B I hn hl hd Rm h1 Y z λA' L' R' x' D _ _ _ _ h6 h7=>False.elim (by exact Hb (cU 0x215c0ac1b0b112112a110021120 [_,_,_] [] h7 eC J))
 |succ j ih=>intro A L R x ds hd Rm h1 Y J z;exact lW B I hn hl hd Rm h1 Y z λA' L' R' x' D uO RM z h5 h6 h7 h8=>ih A' L' R' x' D uO RM z (by exact aM 50479106976 [_,_,_] [] h5 Y) (by rw[pow_succ]at J;exact aM 0xb214c0112c1a2140ba1 [_,_,_] [] h6 J) h8
noncomputable def B4(P code:Addr):Tb:=⟨P,code,posOf (inD 5 1),"_int2digits.<locals>.inner"⟩
theorem Fs.JX{X' Z':List Addr}(F:Fs c ah af H O ρ own s)(hX:∀a∈X',a∈H.X)(hZ:∀a∈Z',a∈H.Z)(hl:O.locals∈Z')(zx:∀a∈Z',a∈X')(hc:∀x a,O.cells.lookup x=some a->a∉X'\/a∈Z')(ho:∀e∈own,e.2.1∈Z'):
 Fs c ah af {H with X:=X',Z:=Z',Y:=[]} O ρ own s:=by
 have up:∀a o,aX ah af H.X s a o->aX ah af X' s a o:=by
  rintro a o (h|⟨J,I,D⟩)
  .exact .inl h
  .exact .inr ⟨J,I,λhm=>D (hX a hm)⟩
 exact{
  gd:=F.gd
  rest:=F.rest
  old:=F.old
  new:=λx z=>F.new x (hX x z)
  ex:=λx z=>F.ex x (hX x z)
  view:={sub:=by
          rintro a o (h|⟨J,_,_⟩)
          .exact F.view.sub _ _ (.inl h)
          .exact J
         base:=λa o e=>up _ _ (F.view.base a o e)
         toks:=F.view.toks
         kind:=F.view.kind
         glob:=F.view.glob
         fq:=F.view.fq
         vars:=λy d e=>let⟨u,i,q⟩:=F.view.vars y d e;⟨u,i,q.mono up⟩
         apart:=F.apart
         cells:=F.view.cells}
  own:=λe he=>let⟨_,I,D,o,h4,h5⟩:=F.own e he;⟨ho e he,I,D,o,h4,h5.mono up⟩
  frame:=⟨hl,F.frame.2⟩
  gR:=λy hy=>nomatch hy
  zx:=zx
  inv:=F.inv
  eS:=F.eS
  jz:=λb hb hz=>F.jz b hb (hZ b hz)
  gQ:=F.gQ
  apart:=F.apart
  dt:=λy a h=>⟨(F.dt y a h).1,hc y a h⟩}
theorem PS.add(P:PS T b8 fs ct ah af H Ls){D:Addr}(Y:D∉H.X)(J:∀q∈Ls,q.1≠D):PS T b8 fs ct ah af (H.add D) Ls where
 hX:=λt ht=> .tail _ (P.hX t ht)
 hZ:=λt ht hm=>by
  rcases dg hm with rfl|hm
  .exact Y (P.hX _ ht)
  .exact P.hZ t ht hm
 told:=P.told
 full:=P.full
 mono:=P.mono
 done:=P.done
 lz:=λq I=>(P.lz q I).imp id (Or.imp id λz=>⟨z.1,λhm=>by
  rcases dg hm with e|hm
  .exact J q I e
  .exact z.2 hm⟩)
theorem Df{b n:Nat}(hn:0<n):((b:Int)+n-1).fdiv n=((b+n-1)/n:Nat):=by
 rw[fdiv_eq_ediv_of_nonneg _ (natCast_nonneg _)];have:(b:Int)+n-1=((b+n-1:Nat):Int):=by exact dq (ao 0x112c1ba10c7112b7a7168 [_,_,_] [] eC) (ao 0xcb1112a10112c7b716a78 [_,_,_] [] (dE (ao 0xb1120210ba11120 [_,_] [] hn)))
 rw[this]
 norm_cast
theorem E5{test:Expr}{body z:List Stmt}{pos:Pos}{rest:List Stmt}{b:Bool}{Q:Flow->Shared->Prop}(F:Fs c ah af H O ρ own s)(he:∀G,jt c A O ρ G test b)
 (k:∀U,Fs c ah af H O ρ own U->Keeps s U->wpAny (model PW c.w) A (execs (bif b then body else z) O) (λf U=>match f with| .next=>wpAny (model PW c.w) A (execs rest O) Q E U|f=>Q f U) E U):
 wpAny (model PW c.w) A (execs (.If test body z pos::rest) O) Q E s:=
 wpAny_execs_cons (wpAny_If (wpAny_mono (wpAny_toks ((he _).1 E s F.view)) (λv U p=>by rw[p.2.1];cases b<;>exact k U (F.keeps p.2.2 p.1) p.2.2) λ_ _ p=>p.2))
theorem tu{e:Expr}{od od':OD}(h:BQ c A O ρ G e od)(z:od=od'):BQ c A O ρ G e od':=z▸h
theorem oG{T:List Addr}{b8:List Tb}(g:Gl c)(R:aL A 20){v:Value}(f:FnAt c 5 "_int2digits" v){P code:Addr}(tk:yk c (B4 P code))(ht:B4 P code∈b8)(FV:P∈T)(Ab:∀t'∈b8,t'.P=P->t'=B4 P code)(MA:∀b∈T,∃t∈b8,t.P=b)
 (Mj:∀a o fd,v= .ref a->c.h₀.get? a=some o->o.data= .func fd->fd.code= .ref code)
 {x n:Nat}(ua:0<n)(QC:n<=4000)(hn:n*((intBits x+n-1)/n)<=3900)(hl:(intBits x+n-1)/n<=4000):
 cJ c T b8 [B4 P code] A v [.int x,.int n] (.list ((bX n ((intBits x+n-1)/n) x).map .int)):=by
 refine eK g.B R f.f rfl rfl rfl rfl (by decide) (by decide) (by decide) λA' L ad cd G E af s Ls Q kq R' hv s6 hT hex nJ s7 cA F=>?_;refine bD s6 λo fd q1 q2 q3=>?_;clear s6;have iy:cd= .ref code:=by rw[<-q3];exact Mj ad o fd hv q1 q2
 have tY:PS T b8 [] Ls G af ((iG (ak (aw 5)) L).wide T) Ls:=PS.start cA hT nJ s7;have L6:n<=4000\/(intBits x+n-1)/n=0:=by
  rcases Nat.eq_zero_or_pos ((intBits x+n-1)/n)with h|h
  .exact .inr h
  .exact .inl (le_trans (Nat.le_mul_of_pos_right n h) (by exact ao 0xf3c32a0fa032a0 [_] [] hn))
 generalize hm:(intBits x+n-1)/n=m at*;have QD:x=0->m=0:=λh=>by subst h;rw[<-hm,show intBits ((0:Nat):Int)=0 from by decide,zero_add];exact Nat.div_eq_of_lt (by exact ao 0xb112a10b112a10 [_,_] [] (dE (ao 0xa1120210a1120 [_] [] ua)))
 have Hn:x<2^(n*m):=by have h1:(x:Int).natAbs<2^intBits x:=intBits_le_iff.mp (le_refl _);rw[natAbs_natCast]at h1;refine lt_of_lt_of_le h1 (pow_le_pow_right (by decide) ?_);have:=div_add_mod (intBits x+n-1) n;have h3:=mod_lt (intBits x+n-1) ua;rw[hm]at this;exact cU 0xc112e10eb1d0112d1ca10ba0 [_,_,_,_,_] [] eC (ju this) h3
 refine iS (H:=((iG (ak (aw 5)) L).wide T).pin Ls) (od:= .lst ((replicate m (0:Int)).map .int)) F (λG=>?_) (.inr (show _∈cw (ak (aw 5)) by decide)) rfl rfl λal U vZ F=>?_
 .refine tu (rp (ds:=[.int 0]) (n:=(m:Int)) (bq (ae aj ai)) (ag (a:= .int ((intBits x:Int)+n-1)) (b:= .int n) (ag (a:= .int ((intBits x:Int)+n)) (b:= .int 1) (ag (a:= .int (intBits x:Nat)) (b:= .int n) (dA (d0:= .int x) nq rfl (aa rfl) ai rfl vj rfl rfl rfl) (aa rfl) rfl) aj rfl) (aa rfl) ?_)
   (natCast_nonneg _) (by exact ao 0xfa032a0142215112a718 [_] [] hl) (by simp;exact ao 0xfa032a010000062112a10 [_] [] hl)) ?_
  .rw[fT (dW (by exact oD (ao 0xa1120210a71120218 [_] [] ua)) ?_),Df ua,hm];rw[natAbs_natCast];exact lt_of_le_of_lt QC (by decide+kernel)
  .simp
 have PA:=tY.add vZ λq hq h=>F.jz q.1 (mem_map_of_mem hq) (by rw[h];exact .head _);refine yZ (H:=((iG (ak (aw 5)) L).wide T).add al) g.B tk ht FV Ab (clos:=f9 (ak (inD 5 1)) (bG (ak (aw 5)) "_int2digits" L ad cd)) F PA (by subst iy;rfl) ?_ rfl rfl rfl rfl (.inr (show _∈cw (ak (aw 5)) by decide)) rfl λU bL fa doc pm c' oc AP F P' z7 hm pK=>?_
 .rfl
 have Aj:∀x a,(bG (ak (aw 5)) "_int2digits" L ad cd).cells.lookup x=some a->a∉T++[L,al]:=λx a h hm=>by
  have hc:([("inner",L+1+1+1),("a_digits",L+1+1),("n",L+1)]:List (Str×Addr)).lookup x=some a:=h;have ha:a=L+1+1+1\/a=L+1+1\/a=L+1:=du (P:=λ_ a=>a=L+1+1+1\/a=L+1+1\/a=L+1) hc (.inl rfl) λe=>du (P:=λ_ a=>a=L+1+1+1\/a=L+1+1\/a=L+1) e (.inr (.inl rfl)) λe=>du (P:=λ_ a=>a=L+1+1+1\/a=L+1+1\/a=L+1) e (.inr (.inr rfl)) ns;rcases de hm with hm|hm
  .rcases(F.dt x a h).2 with q|q
   .exact q (P'.hX a hm)
   .exact P'.hZ a hm q
  .rcases dg hm with hL|hm
   .exact EO hL ha
   .rw[gj hm]at h;exact vZ (cv ((.tail _ (hV h))))
 have F2:=F.JX (X':=T++[L,al]) (Z':=[L,al]) (λa ha=>by
  rcases de ha with h|h
  .exact P'.hX a h
  .rcases dg h with h|h
   .rw[h];exact F.zx _ F.frame.1
   .rw[gj h];exact .head _) (λa ha=>by
  rcases dg ha with h|h
  .rw[h];exact F.frame.1
  .rw[gj h];exact .head _) (.head _) (λa ha=>cv ha) (λx a h=> .inl (Aj x a h)) (λe he=>by rw[gj he];exact .tail _ (.head _))
 have LC:∀a,a∈T++[L,al]->a∈(((iG (ak (aw 5)) L).wide T).add al).X:=λa ha=>by
  rcases de ha with h|h
  .exact P'.hX a h
  .rcases dg h with h|h
   .rw[h];exact F.zx _ F.frame.1
   .rw[gj h];exact .head _
 have N8:∀t∈T,t≠al:=λt ht h=>by rw[h]at ht;exact P'.hZ al ht (.head _)
 have PN:∀t∈T,t≠L:=λt ht h=>by rw[h]at ht;exact P'.hZ L ht F.frame.1
 have fin:∀{bP cP},Fs c G (aN af T) (Hd.pin {X:=T++[L,al],Z:=[L,al],Y:=[],fp:=[],J:=λ_=>True} bL) (bG (ak (aw 5)) "_int2digits" L ad cd) bP [("a_digits",al,.lst ((bX n m x).map .int))] cP->bP.lookup ("a_digits":Str)=some (.adr al)->
  wpAny (model PW c.w) A' (execs [.Return (some (.Name "a_digits" ⟨47,11,47,19⟩)) ⟨47,4,47,19⟩] (bG (ak (aw 5)) "_int2digits" L ad cd)) Q E cP:=λ{bP cP}F hl=>by
  have Ff:=F.freeze ["a_digits"] (λy hy=>by rw[gj hy];exact hl);refine aK (d:= .list ((bX n m x).map .int)) Ff (λG=>aa rfl) λv bB oP r=>?_;refine kq _ _ (PS.fin (H:=Hd.del {X:=T++[L,al],Z:=[L,al],Y:=[],fp:=[],J:=λ_=>True} al) ⟨λt ht=>?_,λt ht hm=>?_,P'.told,P'.full,P'.mono,P'.done,λq hq=>?_⟩ oP r)
  .exact mem_filter.mpr ⟨d7 ht,by simpa using N8 t ht⟩
  .have:=(mem_filter.mp hm).1;rcases dg this with h|h
   .exact PN t ht h
   .exact N8 t ht (gj h)
  .exact(P'.lz q hq).imp id (Or.imp id λz=>⟨z.1,λhm=>z.2 (LC _ (mem_filter.mp hm).1)⟩)
 refine E5 (H:=Hd.pin {X:=T++[L,al],Z:=[L,al],Y:=[],fp:=[],J:=λ_=>True} bL) F2 (b:=decide (x≠0)) (λG=>gU (a:= .int x) (aa rfl) ?_) λay F3 kp=>?_
 .show some _=some _;congr 1;rw[Bool.eq_iff_iff];simp
 by_cases Kn:x=0
 .rw[decide_eq_false (by simp[Kn])];refine wpAny_execs_nil ?_;have F4:=F3;rw[show(replicate m (0:Int))=bX n m x from by rw[QD Kn];rfl]at F4;exact fin F4 rfl
 .rw[decide_eq_true Kn];have Km:0<x:=Nat.pos_of_ne_zero Kn;have L9:0<m:=Nat.pos_of_ne_zero λh=>by rw[h,mul_zero]at Hn;simp at Hn;exact Hb (aM 0xa112021002a0021120 [_] [] (dX Hn) Km)
  have Hw:∀a o,aX G (aN af T) (T++[L,al]) U a o->aX G (aN af T) (T++[L,al]) ay a o:=λa o h=>bF F2.ex F2.old kp _ _ (.inl h)
  have og:∀y d,(bG (ak (aw 5)) "_int2digits" L ad cd).kindOf y=some .cell->(([("inner",.adr fa),("a_digits",.adr al),("a",.int x),("n",.int n)]):List (Str×D)).lookup y=some d->
        ∃a v,(bG (ak (aw 5)) "_int2digits" L ad cd).cells.lookup y=some a/\ay.heap.IsCell a (some v)/\Rep c.w c.C (aX G (aN af T) (T++[L,al]) ay) d v:=λy d hk hd=>by
   refine aq (F3.view.vars y d hd) λv i r=>?_;rcases i with⟨q,_⟩|⟨_,a,q1,q2⟩
   .rw[hk]at q;cases q
   .exact⟨a,v,q1,q2,r⟩
  refine bD (og "a_digits" _ rfl rfl) λca va a1 a2 a3=>?_;refine bD (og "n" _ rfl rfl) λcb vb b1 b2 b3=>?_;refine bD (og "inner" _ rfl rfl) λcc vc d1 d2 d3=>?_;subst a3;have u':∀y a v,(bG (ak (aw 5)) "_int2digits" L ad cd).cells.lookup y=some a->ay.heap.IsCell a (some v)->y∈cw (ak (aw 5))->∃o,aX G (aN af T) (T++[L,al]) ay a o/\o.data= .cell (some v):=λy a v h1 h2 h3=>by refine aq h2 λo e hd=>?_;clear h2;obtain⟨_,a',v',q1,q2,_⟩:=F.gR y h3;rw[h1]at q1;obtain rfl:=bg q1;exact⟨o,.inr ⟨e,F.new _ (F.zx _ q2),Aj y a h1⟩,hd⟩
  refine aq (u' _ _ _ a1 a2 (by decide)) λoa EN K9=>?_;refine aq (u' _ _ _ b1 b2 (by decide)) λob EL K8=>?_;refine aq (u' _ _ _ d1 d2 (by decide)) λFu EK K7=>?_;have Ga:aX G (aN af T) (T++[L,al]) ay fa (ky "inner" "_int2digits.<locals>.inner" (rj (inD 5 1)) (bp (inD 5 1)) (ak (inD 5 1)) (f9 (ak (inD 5 1)) (bG (ak (aw 5)) "_int2digits" L ad cd)) doc pm (.ref c') AP):=Hw _ _ (by
   rcases z7 with z|⟨z1,z2,z3⟩
   .exact .inl z
   .exact .inr ⟨z1,z2,λhm=>z3 (LC _ hm)⟩)
  have Gf:aX G (aN af T) (T++[L,al]) ay c' oc:=Hw _ _ (by
   rcases P'.lz _ hm with z|z|⟨z1,z2⟩
   .refine aq (MA _ z) λt h1 h2=>?_;exact(oW F.inv (P'.told t h1) (by rw[h2];exact hm) pK).elim
   .exact .inl z
   .exact .inr ⟨F.inv _ hm,dy z1,λJd=>z2 (LC _ Jd)⟩)
  have sub:∀a o,aX G (aN af T) (T++[L,al]) ay a o->ay.heap.get? a=some o:=F3.view.sub;have ho:∀a o,c.h₀.get? a=some o->ay.heap.get? a=some o:=F3.view.old;have hb:∀a o,(c.ext ay.heap [fa,c',ca,cb,cc]).h₀.get? a=some o->aX G (aN af T) (T++[L,al]) ay a o:=λa o e=>by
   rcases Cx.uC ho e with e|⟨hm,e⟩
   .exact F3.view.base a o e
   .have at':∀{b p},a=b->aX G (aN af T) (T++[L,al]) ay b p->aX G (aN af T) (T++[L,al]) ay a o:=λ{b p}hq hv=>by subst hq;rw[sub _ _ hv]at e;obtain rfl:=bg e;exact hv
    exact(dg hm).elim (λq=>at' q Ga) λhm=>(dg hm).elim (λq=>at' q Gf) λhm=>(dg hm).elim (λq=>at' q EN) λhm=>(dg hm).elim (λq=>at' q EL) λhm=>at' (gj hm) EK
  have B':(c.ext ay.heap [fa,c',ca,cb,cc]).B:=g.B.more (Cx.rk ho);have nw:∀{a o},a∈[fa,c',ca,cb,cc]->aX G (aN af T) (T++[L,al]) ay a o->(c.ext ay.heap [fa,c',ca,cb,cc]).h₀.get? a=some o:=λhm hv=>Cx.rn hm (sub _ _ hv)
  have I1:∀y d,([("n",.int n),("inner",.adr fa)]:List (Str×D)).lookup y=some d->∃a v,(f9 (ak (inD 5 1)) (bG (ak (aw 5)) "_int2digits" L ad cd)).lookup y=some a/\(c.ext ay.heap [fa,c',ca,cb,cc]).h₀.IsCell a (some v)/\
   Rep c.w c.C (λa o=>(c.ext ay.heap [fa,c',ca,cb,cc]).h₀.get? a=some o) d v/\(ak (inD 5 1)).names.lookup y=some .free/\(y==("__classdict__":Str))=false:=λy d e=>by
   refine du e ?_ λe=>?_
   .exact⟨cb,_,b1,⟨ob,nw (.tail _ (.tail _ (.tail _ (.head _)))) EL,K8⟩,b3,rfl,by decide⟩
   refine du e ?_ ns;exact⟨cc,_,d1,⟨Fu,nw (.tail _ (.tail _ (.tail _ (.tail _ (.head _))))) EK,K7⟩,d3,rfl,by decide⟩
  have I2:∀y a,(f9 (ak (inD 5 1)) (bG (ak (aw 5)) "_int2digits" L ad cd)).lookup y=some a->∃o,(c.ext ay.heap [fa,c',ca,cb,cc]).h₀.get? a=some o:=λy a e=>by
   have hc:([("inner",L+1+1+1),("a_digits",L+1+1),("n",L+1)]:List (Str×Addr)).lookup y=some a:=eU e;have ea:L+1+1=ca:=bg a1;have eb:L+1=cb:=bg b1;have ec:L+1+1+1=cc:=bg d1;refine du hc ?_ λh=>?_
   .rw[ec];exact⟨_,nw (.tail _ (.tail _ (.tail _ (.tail _ (.head _))))) EK⟩
   refine du h ?_ λh=>?_
   .rw[ea];exact⟨_,nw (.tail _ (.tail _ (.head _))) EN⟩
   refine du h ?_ ns;rw[eb];exact⟨_,nw (.tail _ (.tail _ (.tail _ (.head _)))) EL⟩
  have BF:(c.ext ay.heap [fa,c',ca,cb,cc]).h₀.get? al=none:=by
   cases e:(c.ext ay.heap [fa,c',ca,cb,cc]).h₀.get? al with
   |none=>rfl
   |some o=>
    rcases hb _ _ e with h|h
    .have:=F.gd.sub _ _ h;rw[F.new al (.head _)]at this;exact ns this
    .exact absurd (cv ((.tail _ (.head _)))) h.2.2
  have I:NL (c.ext ay.heap [fa,c',ca,cb,cc]) fa al n:=⟨⟨doc,pm,c',oc,AP,_,nw (.head _) Ga,nw (.tail _ (.head _)) Gf,pK,I1,⟨ca,a1,oa,nw (.tail _ (.tail _ (.head _))) EN,K9⟩,I2,λx y a h1 h2=>F3.apart x y a (eU h1) (eU h2)⟩,BF⟩
  refine mM (c':=c.ext ay.heap [fa,c',ca,cb,cc]) (ds:=[.int x,.int (0:Nat),.int m]) rfl rfl F3 hb rfl (nw (.head _) Ga) rfl (λG=>ae (aa rfl) (ae aj (ae (aF B' rfl (g.no _ (by decide)) boot_len (by decide) (.b _) (ae (aa (d:= .list ((replicate m (0:Int)).map .int)) rfl) ai) rfl (gP (n:=(m:Int)) ?_)) ai))) rfl rfl
   (xr B' I hn hl 12 A' 0 m x (replicate m 0) (length_replicate ..) (R'.le (by decide)) L9 (le_refl _) (by exact aM 0xfa032b0ba0c1215a0 [_,_] [] qx hl) (by rw[Nat.sub_zero];exact Hn)) (λbB F=>?_) rfl rfl
  .show(if sizeOk ((replicate m (0:Int)).map D.int).length then some ((((replicate m (0:Int)).map D.int).length:Nat):Int)else none)=_;rw[if_pos (aD (by rw[length_map,length_replicate];exact ao 0xfa032a03d090062a0 [_] [] hl)),length_map,length_replicate]
  .have e:put (replicate m 0) 0 (bX n (m-0) x)=bX n m x:=by rw[vF (by rw[ei,length_replicate];exact dG (ao 49941185040 [_,_] [] qx) (ao 2961928364448 [_,_] [] eC))];simp
   rw[e]at F;refine wpAny_execs_nil ?_;exact fin F rfl
noncomputable def nC(b:Int)(n:Nat)(p:List Int×Int)(d:Int):List Int×Int:=(p.1++[(p.2*2^n+d)/b],(p.2*2^n+d)%b)
noncomputable def ld(b:Int)(n:Nat)(ds:List Int):List Int×Int:=ds.foldl (nC b n) ([],0)
theorem zS{b:Int}{n:Nat}{ds:List Int}{d:Int}:ld b n (ds++[d])=nC b n (ld b n ds) d:=by simp[ld,foldl_append]
theorem Ec{b:Int}{n:Nat}(hb:0<b):∀(m:Nat)(ds:List Int),ds.length=m->(∀d∈ds,0<=d/\d<2^n)->
 dO n ds.reverse=dO n (ld b n ds).1.reverse*b+(ld b n ds).2/\0<=(ld b n ds).2/\(ld b n ds).2<b/\(∀q∈(ld b n ds).1,0<=q/\q<2^n)/\(ld b n ds).1.length=ds.length:=by
 intro m;induction m with
 |zero=>intro ds h _;have:=eq_nil_of_length_eq_zero h;subst this;exact⟨by simp[ld,iJ,iI],by simp[ld],by simpa[ld]using hb,λq z=>by simp[ld]at z,by simp[ld]⟩
 |succ m ih=>
  intro ds h Y;obtain⟨xs,d,rfl⟩:∃xs d,ds=xs++[d]:=⟨ds.dropLast,ds.getLast (by intro e;rw[e]at h;cases h),(List.dropLast_concat_getLast _).symm⟩;refine ib (ih xs (by simpa using h) λy hy=>Y y (d7 hy)) λh1 h2 h3 h4 h5=>?_;obtain⟨d0,d1⟩:=Y d (cv ((.head _)));rw[zS];unfold nC;have J:(0:Int)<2^n:=pow_pos (by decide);generalize ld b n xs=p at*;have I:0<=p.2*2^n+d:=add_nonneg (mul_nonneg h2 (le_of_lt J)) d0;have D:p.2*2^n+d<2^n*b:=by have:(p.2+1)*2^n<=b*2^n:=Int.mul_le_mul_of_nonneg_right h3 (le_of_lt J);rw[add_mul,one_mul,mul_comm b]at this;exact aM 0xd112b18cda18c112ba118 [] [_,_,_,_] this d1
  refine⟨?_,Int.emod_nonneg _ (by exact oD (ao 0xa1120218a1120218 [] [_] hb)),Int.emod_lt_of_pos _ hb,λq z=>?_,by simp[h5]⟩
  .simp only[List.reverse_append,List.reverse_cons,List.reverse_nil,nil_append,List.singleton_append,iJ,iI,h1];have:=Int.mul_ediv_add_emod (p.2*2^n+d) b;rw[add_mul,Int.mul_add,mul_assoc];generalize (p.2*2^n+d)/b=u at*;generalize (p.2*2^n+d)%b=r at*;rw[mul_comm b u,mul_comm p.2]at this;exact dq (ao 0xed1ac18ebd11cb1a18 [] [_,_,_,_,_] (rQ this)) (ao 0xde1ca18eb1d1cba118 [] [_,_,_,_,_] (t7 this))
  .rcases de z with z|z
   .exact h4 q z
   .rw[gj z];exact⟨Int.ediv_nonneg I (le_of_lt hb),Int.ediv_lt_of_lt_mul hb D⟩
theorem oV{n:Nat}:∀{m x:Nat},x<2^(n*m)->dO n (bX n m x)=x
 |0,x,h=>by simp at h;subst h;rfl
 |m+1,x,h=>by
  have z:x/2^n<2^(n*m):=Nat.div_lt_of_lt_mul (by rwa[<-pow_add,add_comm,<-Nat.mul_succ]);simp only[jV,lh,iJ,iI,oV z];have:=Nat.mod_add_div x (2^n)
  exact_mod_cast this
theorem uh{x:Str}{a:Addr}{ds:List D}{p apos z pos:Pos}{rest:List Stmt}{Q:Flow->Shared->Prop}(F:Fs c ah af H O ρ [(x,a,.lst ds)] s)(hz:sizeOk ds.length=true)
 (kk:∀U,Fs c ah af H O ρ [(x,a,.lst ds.reverse)] U->wpAny (model PW c.w) A (execs rest O) Q E U)
 (hi:interactive O=false)(hs:swapsWith (.Call (.Attribute (.Name x p) "reverse" apos) [] [] z) none pos.line O=pure false)
 (kj:attributeBase (.Name x p) "reverse" O (eval (.Name x p) O)=eval (.Name x p) O)
 (uM:((backTo z (starEach [] O)).all (λx=> !x.1)&&(backToKw z (keywordEach [] O)).all (λx=>x.1.isSome)
  &&decide (([]:List Expr).length+([]:List Keyword).length+(if([]:List Keyword).isEmpty then 0 else 1)<30))=true)
 (sZ:(apos.endLine==z.line)=true)(hd:(x==("__debug__":Str))=false:=by decide):
 wpAny (model PW c.w) A (execs (.Expr (.Call (.Attribute (.Name x p) "reverse" apos) [] [] z) pos::rest) O) Q E s:=by
 refine wpAny_execs_cons (wpAny_Expr ?_ hi hs);refine wpAny_Call_method kj uM sZ PySem.F.plainAttrs_list PySem.F.slot_list_reverse PySem.F.type_list_reverse (i9 F ?_ hd);obtain⟨o,ho,vs,n,rfl,l⟩:=F.l8;refine⟨⟨_,ho,rfl⟩,λb e=>by cases e;exact⟨_,ho,rfl⟩,?_⟩;refine Calls.callWith_builtin rfl (bN rfl (wpAny_mono (wpAny_toks ((ai (c:=c) (ρ:=ρ) (A:=A) (G:=aX ah af H.X s)).1 E s z F.view)) (λus s₁ p=>?_) λ_ _ p=>p.2));refine eJ p λtk kp Y=>?_;clear p;subst Y;have rL:=F.keeps kp tk;obtain⟨Ii,J,I,n₁,rfl,Y⟩:=rL.l8;have Qd:I.toArray.size<=sizeLine:=by rw[size_toArray,Y.length];exact le_trans (le_of_ble_eq_true hz) (by rw[sizeLine_eq];decide)
 refine call_meets PySem.F.slot_list_reverse ⟨_,J,rfl⟩ PySem.F.entry_list_reverse (PySem.F.args_list_reverse_1 _) (AutoSeq1.list_reverse_list_0 a I.toArray n₁ Qd) ⟨J,?_⟩;refine kk _ (rL.mut (od':= .lst ds.reverse) (Heap.SameBut.update ..) (le_refl _) (o':={cls:= .type "list",data:= .seq I.reverse.toArray n₁}) ?_ ⟨I.reverse,n₁,rfl,Y.reverse⟩);rw[Heap.get?_update_self _ J rfl];simp[Obj.mapSeq]
structure Ar(c:Cx)(P5 C5 P6 C6:Addr):Prop where
 gl:Gl c
 t5:yk c (B4 P5 C5)
 t6:yk c (B3 P6 C6)
 ne:P5≠P6
 f3:∃v,FnAt c 3 "_div2n1n" v
 f5:∃v,FnAt c 5 "_int2digits" v/\∀a o fd,v= .ref a->c.h₀.get? a=some o->o.data= .func fd->fd.code= .ref C5
 f6:∃v,FnAt c 6 "_digits2int" v/\∀a o fd,v= .ref a->c.h₀.get? a=some o->o.data= .func fd->fd.code= .ref C6
 f7:∃v,FnAt c 7 "_divmod_pos" v
 f8:∃v,FnAt c 8 "int_divmod" v
noncomputable abbrev tT(P5 P6:Addr):List Addr:=[P5,P6]
noncomputable abbrev tF(P5 C5 P6 C6:Addr):List Tb:=[B3 P6 C6,B4 P5 C5]
noncomputable abbrev tB(P5 C5 P6 C6:Addr):List Tb:=[B4 P5 C5,B3 P6 C6]
variable{P5 C5 P6 C6:Addr}
theorem yP:∀b∈tT P5 P6,∃t∈tB P5 C5 P6 C6,t.P=b:=λb hb=>by
 rcases dg hb with rfl|hb
 .exact⟨_,.head _,rfl⟩
 .rw[gj hb];exact⟨_,.tail _ (.head _),rfl⟩
theorem Ar.IK(ar:Ar c P5 C5 P6 C6)(R:aL A 20):∃v,FnAt c 5 "_int2digits" v/\∀{x n:Nat},0<n->n<=4000->n*((intBits x+n-1)/n)<=3900->(intBits x+n-1)/n<=4000->
 cJ c (tT P5 P6) (tB P5 C5 P6 C6) [B4 P5 C5] A v [.int x,.int n] (.list ((bX n ((intBits x+n-1)/n) x).map .int)):=by
 refine aq ar.f5 λv f z=>?_;refine⟨v,f,λY J I D=>oG ar.gl R f ar.t5 (.head _) (.head _) (λt ht he=>?_) yP z Y J I D⟩;rcases dg ht with rfl|ht
 .rfl
 .rw[gj ht]at he;exact absurd he.symm ar.ne
theorem Ar.Rj(ar:Ar c P5 C5 P6 C6)(R:aL A 20):∃v,FnAt c 6 "_digits2int" v/\∀{xs:List Int}{n:Nat},(∀x∈xs,0<=x/\x<2^n)->n*xs.length<=3900->xs.length<=4000->
 cJ c (tT P5 P6) (tB P5 C5 P6 C6) [B3 P6 C6] A v [.list (xs.map .int),.int n] (.int (dO n xs)):=by
 refine aq ar.f6 λv f z=>?_;refine⟨v,f,λJ I D=>oI ar.gl R f ar.t6 (.tail _ (.head _)) (.tail _ (.head _)) (λt ht he=>?_) yP z J I D⟩;rcases dg ht with rfl|ht
 .exact absurd he ar.ne
 .exact gj ht
theorem rC{b:Nat}:b<2^intBits b:=by have z:(b:Int).natAbs<2^intBits b:=intBits_le_iff.mp (le_refl _);rwa[natAbs_natCast]at z
theorem JV{b k:Nat}(h:b<2^k):intBits b<=k:=intBits_le_iff.mpr (by rwa[natAbs_natCast])
theorem Bo{b:Nat}(h:0<b):0<intBits b:=by
 rcases Nat.eq_zero_or_pos (intBits b)with e|e
 .have:=rC (b:=b);rw[e]at this;simp at this;exact aM 0xb112021002b0a1120210 [_,_] [] (dX this) h
 .exact e
theorem rx{a b n m:Nat}(hb:0<b)(ha:a<2^(n*m)):dO n (ld b n (bX n m a).reverse).1.reverse=((a/b:Nat):Int)/\(ld b n (bX n m a).reverse).2=((a%b:Nat):Int):=by
 refine ib (Ec (b:=b) (n:=n) (by exact_mod_cast hb) m (bX n m a).reverse (by simp[ei]) λd hd=>ie d (by simpa using hd)) λD J I _ _=>?_;rw[List.reverse_reverse,oV ha]at D;generalize dO n (ld b n (bX n m a).reverse).1.reverse=q at*;generalize (ld b n (bX n m a).reverse).2=r at*;have Y:r=((a%b:Nat):Int):=by rw[Int.natCast_emod,D,Int.add_comm,Int.add_mul_emod_self_right,Int.emod_eq_of_lt J I]
 refine⟨?_,Y⟩;have z:(b:Int)≠0:=by exact oD (ao 0xa1120210a71120218 [_] [] hb)
 rw[Int.natCast_ediv,D,Int.add_comm,Int.add_mul_ediv_right _ _ z,Int.ediv_eq_zero_of_lt J I,Int.zero_add]
theorem oH(ar:Ar c P5 C5 P6 C6)(R:aL A 25){v:Value}(f:FnAt c 7 "_divmod_pos" v){a b:Nat}(hb:0<b)(ha:intBits a<=1900)(I:intBits b<=1900):
 cJ c (tT P5 P6) (tB P5 C5 P6 C6) (tF P5 C5 P6 C6) A v [.int a,.int b] (.tup [.int (a/b:Nat),.int (a%b:Nat)]):=by
 have g:=ar.gl;refine eK g.B R f.f rfl rfl rfl rfl (by decide) (by decide) (by decide) λA' L ad cd G E af s Ls Q kq R' hv s6 hT hex nJ s7 cA F=>?_;have tY:PS (tT P5 P6) (tB P5 C5 P6 C6) [] Ls G af ((iG (ak (aw 7)) L).wide (tT P5 P6)) Ls:=PS.start cA hT nJ s7;have ua:=Bo hb;have Mx:=rC (b:=b);have QZ:=rC (b:=a);refine aq (ar.IK (A:=A') (R'.le (by decide))) λv5 f5 c5=>?_;refine aq (ar.Rj (A:=A') (R'.le (by decide))) λv6 f6 c6=>?_;obtain⟨v3,f3⟩:=ar.f3;refine av (d:= .int (intBits b:Nat)) F (λG=>dA (d0:= .int b) nq rfl (aa rfl) ai rfl vj rfl rfl rfl) (.inl rfl) rfl rfl λU F=>?_;have Hn:a<2^(intBits b*((intBits a+intBits b-1)/intBits b)):=by refine lt_of_lt_of_le QZ (pow_le_pow_right (by decide) ?_);have:=div_add_mod (intBits a+intBits b-1) (intBits b);have h3:=mod_lt (intBits a+intBits b-1) ua;exact cU 0xc112e10eb1d0112d1ca10ba0 [_,_,_,_,_] [] eC (ju this) h3
 have OF:intBits b*((intBits a+intBits b-1)/intBits b)<=3900:=le_trans (Nat.mul_div_le _ _) (by exact cU 0x76c32c076c32b0cb1a0f3c32a0 [_,_,_] [] qx ha I);have Jc:(intBits a+intBits b-1)/intBits b<=4000:=le_trans (div_le_self _ _) (by exact cU 0x76c32c076c32b0cb1a0fa032a0 [_,_,_] [] qx ha I);have Rp:=c5 ua (by exact ao 0x76c32a0fa032a0 [_] [] I) OF Jc;obtain⟨p1,p2⟩:=rx hb Hn;generalize intBits b=n at*;generalize (intBits a+n-1)/n=m at*;have Oi:∀i,(∀q∈(ld b n ((bX n m a).reverse.take i)).1,0<=q/\q<2^n)/\(ld b n ((bX n m a).reverse.take i)).1.length<=m/\0<=(ld b n ((bX n m a).reverse.take i)).2/\(ld b n ((bX n m a).reverse.take i)).2<b:=λi=>by refine ib (Ec (b:=b) (n:=n) (by exact_mod_cast hb) _ ((bX n m a).reverse.take i) rfl λd hd=>ie (m:=m) (x:=a) d (by simpa using mem_of_mem_take hd)) λh1 h2 h3 h4 h5=>?_;exact⟨h4,by rw[h5,length_take,length_reverse,ei];exact ao 12192672 [_,_] [] Bx,h2,h3⟩
 refine jH (d:= .list ((bX n m a).map .int)) F tY (fB g.B rfl f5.g f5.f.plain (λG=>ae (aa rfl) (ae (aa rfl) ai)) rfl Rp) (.inl rfl) rfl rfl λU bL F tY=>?_;refine av (d:= .int 0) F (λG=>aj) (.inl rfl) rfl rfl λU F=>?_;have Qe:=F.zx;refine iS (od:= .lst (([]:List Int).map .int)) F (λG=>je ai) (.inl rfl) rfl rfl λal U vZ F=>?_
 refine dK (λi=>[(("q_digits":Str),al,OD.lst ((ld b n ((bX n m a).reverse.take i)).1.map D.int))]) F (λG=>CO (ds:=(bX n m a).map .int) g.B R'.handled rfl (g.no _ (by decide)) (aa rfl) rfl (aD (by rw[length_map,ei];exact ao 0xfa032a03d090062a0 [_] [] Jc))) (.inl rfl)
  (λi ρ=>ρ.lookup ("b":Str)=some (D.int b)/\ρ.lookup ("n":Str)=some (D.int n)/\ρ.lookup ("r":Str)=some (D.int (ld b n ((bX n m a).reverse.take i)).2)/\ρ.lookup ("q_digits":Str)=some (D.adr al))
  ⟨rfl,rfl,rfl,rfl⟩ (λ_=>rfl) ?_ ?_
 .intro E' i d ρ s H' Q' kn kb kr hY hZ Jp hd w9;refine gO w9 λAk Y Ee Hq=>?_;clear w9;intro F;obtain⟨x,Km,rfl⟩:∃x,(bX n m a).reverse[i]? =some x/\D.int x=d:=by rw[<-map_reverse,getElem?_map]at hd;exact mA hd
  have Ac:x∈bX n m a:=by simpa using mem_of_getElem? Km
  obtain⟨x0,x1⟩:=ie (n:=n) (m:=m) (x:=a) x Ac;refine gO (Oi i) λ_ hlen r0 r1=>?_;have J:ld b n ((bX n m a).reverse.take (i+1))=nC b n (ld b n ((bX n m a).reverse.take i)) x:=by rw[take_add_one,Km];exact zS
  generalize ld b n ((bX n m a).reverse.take i)=st at*;obtain⟨qs,r⟩:=st;simp only at*;have hp:(0:Int)<2^n:=pow_pos (by decide);have y0:0<=r*2^n+x:=add_nonneg (mul_nonneg r0 (le_of_lt hp)) x0;have y1:r*2^n+x<b*2^n:=by have:(r+1)*2^n<=b*2^n:=Int.mul_le_mul_of_nonneg_right r1 (le_of_lt hp);rw[add_mul,one_mul]at this;exact aM 0xd112b18cda18c112ba118 [] [_,_,_,_] this x1
  refine fv (d:= .tup [.int ((r*2^n+x)/b),.int ((r*2^n+x)%b)]) F (λG=>?_) (bU R' (aA (au (.inl rfl) rfl) (aA (au (.inl rfl) rfl) bA)) rfl rfl) λU F=>?_
  .refine bz g.B rfl f3.g f3.f.plain (ae (ag (a:= .int (r*2^n)) (b:= .int x) (ag (a:= .int r) (b:= .int n) (aa Ee) (aa Y) ?_) (aa rfl) rfl) (ae (aa Ak) (ae (aa Y) ai))) rfl ?_
   .rw[rE (iT (natCast_nonneg _) ?_ ?_),toNat_natCast]
    .exact nk r0 (Int.lt_trans r1 (by exact_mod_cast Mx)) (by exact ao 0x76c32a0fa032a0 [_] [] I)
    .exact ao 0x76c32a0186a052a78 [_] [] I
   .have q:=uB g (R'.le (k':=5) (by decide)) f3 (a:=r*2^n+x) (b:=b) (n:=n) ?_ (dW (by exact oD (ao 0xa1120210a71120218 [_] [] hb)) ?_)
    .rw[fdiv_eq_ediv_of_nonneg _ (natCast_nonneg _),Int.fmod_eq_emod_of_nonneg _ (natCast_nonneg _)]at q;exact q
    .have:intBits (r*2^n+x)<=n+n:=by
      refine intBits_le_iff.mpr ?_;have h2:r*2^n+x<2^(n+n):=by
       rw[Int.pow_add];refine Int.lt_of_lt_of_le y1 (Int.mul_le_mul_of_nonneg_right ?_ (le_of_lt hp))
       exact_mod_cast Nat.le_of_lt Mx
      obtain⟨z,hz⟩:=Int.eq_ofNat_of_zero_le y0;rw[hz]at h2⊢;rw[natAbs_natCast]
      exact_mod_cast h2
     exact aM 0x76c32b0bb1a0fa032b7a768 [_,_] [] this I
    .rw[natAbs_natCast];exact lt_of_lt_of_le Mx (pow_le_pow_right (by decide) (by exact ao 0x76c32a01f4042a0 [_] [] I))
  refine jm (d:= .int ((r*2^n+x)/b)) F (λG=>aa rfl) rfl (aD (by rw[length_map];exact aM 0xfa032b0ba03d090062a0 [_,_] [] hlen Jc)) (λU F=>?_) rfl rfl rfl rfl rfl rfl;refine wpAny_execs_nil (kn _ _ ?_ (F.ow ?_))
  .exact⟨Ak,Y,by rw[J];rfl,Hq⟩
  rw[J];simp[nC]
 .intro ρ s w9;refine gO w9 λAk Y Ee Hq=>?_;clear w9;intro F;rw[length_reverse,length_map,ei,take_of_length_le (by rw[length_reverse,ei];exact le_refl _)]at F Ee;refine gO (Oi m) λOB hlen _ _=>?_;rw[take_of_length_le (by rw[length_reverse,ei];exact le_refl _)]at OB hlen;refine uh F (aD (by rw[length_map];exact aM 0xfa032b0ba03d090062a0 [_,_] [] hlen Jc)) (λU F=>?_) rfl rfl rfl rfl rfl;have F:=F.freeze ["q_digits"] (by simpa using Hq);rw[Hd.rG (λh=>vZ h) (λh=>vZ (Qe _ h))]at F;rw[<-map_reverse]at F;refine jH (d:= .int (dO n (ld b n (bX n m a).reverse).1.reverse)) F tY (fB g.B rfl f6.g f6.f.plain (λG=>ae (aa rfl) (ae (aa Y) ai)) rfl (c6 (λx hx=>OB x (by simpa using hx)) (by rw[length_reverse];exact le_trans (mul_le_mul_left n hlen) OF) (by rw[length_reverse];exact aM 0xfa032b0ba0fa032a0 [_,_] [] hlen Jc))) (.inl rfl) rfl rfl λU bL F tY=>?_;refine aK (d:= .tup [.int (a/b:Nat),.int (a%b:Nat)]) F (λG=>bb (ae (aa ?_) (ae (aa ?_) ai))) λv U F r=>kq _ _ (tY.fin F r)
  .show some _=some _;rw[p1]
  .have:(D.int (ld b n (bX n m a).reverse).2)= .int (a%b:Nat):=by rw[p2]
   rw[<-this];exact Ee
theorem II(ar:Ar c P5 C5 P6 C6)(R:aL A 26){v:Value}(f:FnAt c 8 "int_divmod" v){a b:Int}(hb:0<b)(ha:0<=a)(J:intBits a<=1900)(I:intBits b<=1900):
 cJ c (tT P5 P6) (tB P5 C5 P6 C6) (tF P5 C5 P6 C6) A v [.int a,.int b] (.tup [.int (a.fdiv b),.int (a.fmod b)]):=by
 have g:=ar.gl;obtain⟨m,rfl⟩:=Int.eq_ofNat_of_zero_le ha;obtain⟨n,rfl⟩:=Int.eq_ofNat_of_zero_le (le_of_lt hb);have hn:0<n:=by exact ao 0xa71120218a1120210 [_] [] hb
 have e:cJ c (tT P5 P6) (tB P5 C5 P6 C6) (tF P5 C5 P6 C6) A v [.int m,.int n] (.tup [.int (m/n:Nat),.int (m%n:Nat)]):=by refine eK g.B R f.f rfl rfl rfl rfl (by decide) (by decide) (by decide) λA' L ad cd G E af s Ls Q kq D hv s6 hT hex z Y cA F=>?_;have tY:PS (tT P5 P6) (tB P5 C5 P6 C6) [] Ls G af ((iG (ak (aw 8)) L).wide (tT P5 P6)) Ls:=PS.start cA hT z Y;obtain⟨v7,f7⟩:=ar.f7;refine bK F (b:=decide ((n:Int)=0)) (λG=>aC g.B D (a:= .int n) (b:= .int 0) (aa rfl) aj (by show some _=some _;congr 1)) λU F=>?_;rw[decide_eq_false (by exact oD (ao 0xa1120210a71120218 [_] [] hn))];refine bK F (b:=decide ((n:Int)<0)) (λG=>aC g.B D (a:= .int n) (b:= .int 0) (aa rfl) aj rfl) λU F=>?_;rw[decide_eq_false (by exact vq (aI 684072 [_] []))];refine bK F (b:=decide ((m:Int)<0)) (λG=>aC g.B D (a:= .int m) (b:= .int 0) (aa rfl) aj rfl) λU F=>?_;rw[decide_eq_false (by exact vq (aI 684072 [_] []))];exact uj F tY (fB g.B rfl f7.g f7.f.plain (λG=>ae (aa rfl) (ae (aa rfl) ai)) rfl (oH ar D f7 hn J I)) λv U bL F P r=>kq _ _ (P.fin F r)
 have e1:(m:Int).fdiv n=(m/n:Nat):=by rw[fdiv_eq_ediv_of_nonneg _ (natCast_nonneg _)];exact(Int.natCast_ediv _ _).symm
 have e2:(m:Int).fmod n=(m%n:Nat):=by rw[Int.fmod_eq_emod_of_nonneg _ (natCast_nonneg _)];exact(Int.natCast_emod _ _).symm
 rw[e1,e2];exact e
theorem Av{a b:Int}(hb:0<b):Builtin.bitNot ((Builtin.bitNot a).fdiv b)=a.fdiv b/\b+Builtin.bitNot ((Builtin.bitNot a).fmod b)=a.fmod b:=by
 unfold Builtin.bitNot;rw[fdiv_eq_ediv_of_nonneg _ (le_of_lt hb),Int.fmod_eq_emod_of_nonneg _ (le_of_lt hb),fdiv_eq_ediv_of_nonneg _ (le_of_lt hb),Int.fmod_eq_emod_of_nonneg _ (le_of_lt hb)];have I:=Int.mul_ediv_add_emod a b;have D:=Int.emod_nonneg a (Int.ne_of_gt hb);have z:=Int.emod_lt_of_pos a hb;have e: -a-1=(b-1-a%b)+b*(-(a/b)-1):=by rw[Int.mul_sub,Int.mul_neg];exact dq (ao 0xacd18b114d86c112b661112a868 [] [_,_,_,_] (t7 I)) (ao 0xbc1d8112d86a114c86b112a6618 [] [_,_,_,_] (rQ I))
 rw[e,Int.add_mul_ediv_left _ _ (Int.ne_of_gt hb),Int.add_mul_emod_self_left,Int.ediv_eq_zero_of_lt (by exact ao 0xa112b18b112a66028 [] [_,_] z) (by exact ao 0xb028a112b112a6618 [] [_,_] D),Int.emod_eq_of_lt (by exact ao 0xa112b18b112a66028 [] [_,_] z) (by exact ao 0xb028a112b112a6618 [] [_,_] D)];exact⟨dq (aI 0xa112112a86021868 [] [_]) (aI 0x112112a8602186a8 [] [_]),dq (aI 0xb112b112a6686a18 [] [_,_]) (aI 0x112a112b6686b1a8 [] [_,_])⟩
theorem xU{a b:Int}(hb:b<0):(-a).fdiv (-b)=a.fdiv b/\ -((-a).fmod (-b))=a.fmod b:=by
 constructor
 .exact Int.neg_fdiv_neg _ _
 .rw[Int.neg_fmod_neg,Int.neg_neg]
theorem IH(ar:Ar c P5 C5 P6 C6)(R:aL A 27){v:Value}(f:FnAt c 8 "int_divmod" v){a b:Int}(hb:0<b)(J:intBits a<=1899)(I:intBits b<=1900):
 cJ c (tT P5 P6) (tB P5 C5 P6 C6) (tF P5 C5 P6 C6) A v [.int a,.int b] (.tup [.int (a.fdiv b),.int (a.fmod b)]):=by
 by_cases ha:0<=a
 .exact II ar (R.le (by decide)) f hb ha (by exact ao 0x76b32a076c32a0 [_] [] J) I
 have g:=ar.gl;refine eK g.B R f.f rfl rfl rfl rfl (by decide) (by decide) (by decide) λA' L ad cd G E af s Ls Q kq Y hv s6 hT hex z s7 cA F=>?_;have tY:PS (tT P5 P6) (tB P5 C5 P6 C6) [] Ls G af ((iG (ak (aw 8)) L).wide (tT P5 P6)) Ls:=PS.start cA hT z s7;have D:intBits (Builtin.bitNot a)<=1900:=by have:=intBits_le_iff.mp J;refine intBits_le_iff.mpr (lt_of_le_of_lt ?_ (lt_of_lt_of_le this (pow_le_pow_right (by decide) (by decide))));unfold Builtin.bitNot;exact aM 0xb7a88112a86a78ba0 [_,_] [_] (t4 (ao 0x2112a18112a86028 [] [_] (J9 ha))) HM
 obtain⟨e1,e2⟩:=Av (a:=a) hb;refine bK F (b:=decide (b=0)) (λG=>aC g.B Y (a:= .int b) (b:= .int 0) (aa rfl) aj (by show some _=some _;congr 1)) λU F=>?_;rw[decide_eq_false (by exact oD (ao 0xa1120218a1120218 [] [_] hb))];refine bK F (b:=decide (b<0)) (λG=>aC g.B Y (a:= .int b) (b:= .int 0) (aa rfl) aj rfl) λU F=>?_;rw[decide_eq_false (by exact vq (ao 0xa1120218a028 [] [_] hb))];refine bK F (b:=decide (a<0)) (λG=>aC g.B Y (a:= .int a) (b:= .int 0) (aa rfl) aj rfl) λU F=>?_;rw[decide_eq_true (by exact ao 0x2112a1802112a18 [] [_] (J9 ha))]
 refine mL (d:= .tup [.int ((Builtin.bitNot a).fdiv b),.int ((Builtin.bitNot a).fmod b)]) F tY (fB g.B rfl f.g f.f.plain (λG=>ae (gN (a:= .int a) (aa rfl) rfl) (ae (aa rfl) ai)) rfl (II ar Y f hb (by unfold Builtin.bitNot;exact ao 0x2112a18112a86028 [] [_] (J9 ha)) D I))
  (λ_=>bU Y (aA (au (.inl rfl) rfl) (aA (au (.inl rfl) rfl) bA)) rfl rfl) λU bL F P=>?_
 refine aK (d:= .tup [.int (a.fdiv b),.int (a.fmod b)]) F (λG=>bb (ae (gN (a:= .int ((Builtin.bitNot a).fdiv b)) (aa rfl) (by rw[<-e1];rfl)) (ae (ag (a:= .int b) (b:= .int (Builtin.bitNot ((Builtin.bitNot a).fmod b))) (aa rfl) (gN (a:= .int ((Builtin.bitNot a).fmod b)) (aa rfl) rfl) (by rw[<-e2];rfl)) ai))) λv U F r=>kq _ _ (P.fin F r)
theorem zz(ar:Ar c P5 C5 P6 C6)(R:aL A 28){v:Value}(f:FnAt c 8 "int_divmod" v){a b:Int}(hb:b≠0)(J:intBits a<=1899)(I:intBits b<=1900):
 cJ c (tT P5 P6) (tB P5 C5 P6 C6) (tF P5 C5 P6 C6) A v [.int a,.int b] (.tup [.int (a.fdiv b),.int (a.fmod b)]):=by
 by_cases z:0<b
 .exact IH ar (R.le (by decide)) f z J I
 have g:=ar.gl;refine eK g.B R f.f rfl rfl rfl rfl (by decide) (by decide) (by decide) λA' L ad cd G E af s Ls Q kq Y hv s6 hT hex D s7 cA F=>?_;have tY:PS (tT P5 P6) (tB P5 C5 P6 C6) [] Ls G af ((iG (ak (aw 8)) L).wide (tT P5 P6)) Ls:=PS.start cA hT D s7;obtain⟨e1,e2⟩:=xU (a:=a) (b:=b) (by exact ao 0x2112a1802112a18 [] [_] (EG (ao 44565160 [] [_] (G9 z)) hb));refine bK F (b:=decide (b=0)) (λG=>aC g.B Y (a:= .int b) (b:= .int 0) (aa rfl) aj (by show some _=some _;congr 1)) λU F=>?_;rw[decide_eq_false (by exact Ha (ao 0x2112a1802112a18 [] [_] (EG (ao 44565160 [] [_] (G9 z)) hb)))];refine bK F (b:=decide (b<0)) (λG=>aC g.B Y (a:= .int b) (b:= .int 0) (aa rfl) aj rfl) λU F=>?_;rw[decide_eq_true (by exact ao 0x2112a1802112a18 [] [_] (EG (ao 44565160 [] [_] (G9 z)) hb))]
 refine mL (d:= .tup [.int ((-a).fdiv (-b)),.int ((-a).fmod (-b))]) F tY (fB g.B rfl f.g f.f.plain (λG=>ae (gN (a:= .int a) (aa rfl) rfl) (ae (gN (a:= .int b) (aa rfl) rfl) ai)) rfl (IH ar Y f (by exact ao 0x2112a18a81120218 [] [_] (EG (ao 44565160 [] [_] (G9 z)) hb)) (intBits_neg_le J) (intBits_neg_le I)))
  (λ_=>bU Y (aA (au (.inl rfl) rfl) (aA (au (.inl rfl) rfl) bA)) rfl rfl) λU bL F P=>?_
 refine aK (d:= .tup [.int (a.fdiv b),.int (a.fmod b)]) F (λG=>bb (ae (aa (by rw[<-e1];rfl)) (ae (gN (a:= .int ((-a).fmod (-b))) (aa rfl) (by rw[<-e2];rfl)) ai))) λv U F r=>kq _ _ (P.fin F r)
noncomputable def yh:Stmt->List Stmt
 | .ClassDef _ _ _ b _ _ _ _ _ _ _=>b
 |_=>[]
noncomputable def bO(i:Nat):Stmt:=oC (yh (aw 18)) i
structure er(c:Cx)(mN:Str->Option Value)(i:Nat)(name qn:Str):Prop where
 ex:∃a o,mN name=some (.ref a)/\c.h₀.get? a=some o/\o.cls= .type "function"/\gi c (.ref a) (fZ (bO i)) (ak (bO i)) (bp (bO i)) qn
structure Ws(c:Cx):Prop where
 main:c.mg "Whitespace"=some (.ref c.C)
 cls:∃N mN,ClsAt c.h₀ c.C N mN/\(∀x∈(["__getattribute__","__getattr__","__setattr__","raw","n","nt","norm","is_simple"]:List Str),mN x=none)/\
  er c mN 1 "__init__" "Whitespace.__init__"/\er c mN 2 "longest_run_of_spaces" "Whitespace.longest_run_of_spaces"/\er c mN 3 "indent_level" "Whitespace.indent_level"/\
  er c mN 4 "equal" "Whitespace.equal"/\er c mN 5 "not_equal_witness" "Whitespace.not_equal_witness"/\er c mN 6 "less" "Whitespace.less"
 S:∃t,∀(A:Around)(E:Value->Shared->Prop)(Q:Value->Shared->Prop)(s:Shared),(∀a o,c.h₀.get? a=some o->s.heap.get? a=some o)->Q (.str " " t) {s with toks:=s.toks+1}->wpAny (model PW c.w) A (getAttr (.ref c.C) "S" true) Q E s
 T:∃t,∀(A:Around)(E:Value->Shared->Prop)(Q:Value->Shared->Prop)(s:Shared),(∀a o,c.h₀.get? a=some o->s.heap.get? a=some o)->Q (.str "\t" t) {s with toks:=s.toks+1}->wpAny (model PW c.w) A (getAttr (.ref c.C) "T" true) Q E s
theorem uE:∀x∈fieldNames,typeLookup (.type "object") x=pure none:=by intro x z;simp only[fieldNames,mem_cons,not_mem_nil,or_false]at z;rcases z with rfl|rfl|rfl|rfl|rfl<;>(rw[typeLookup_type,builtinLookup_eq_fast];kernel_rfl)
theorem CG:∀x∈(["longest_run_of_spaces","indent_level","equal","not_equal_witness","less"]:List Str),typeLookup (.type "object") x=pure none:=by intro x z;simp only[mem_cons,not_mem_nil,or_false]at z;rcases z with rfl|rfl|rfl|rfl|rfl<;>(rw[typeLookup_type,builtinLookup_eq_fast];kernel_rfl)
theorem jO{K D:Type} [DecidableEq K] [BEq K] [LawfulBEq K]:∀{ks:List K}{vs:List D},ks.length=vs.length->∀k:K,(ks.zip vs).lookup k=(aO ks k).bind (vs[·]?)
 |[],[],_,k=>rfl
 |a::ks,v::vs,h,k=>by
  have I:=jO (ks:=ks) (vs:=vs) (by simpa using h) k;simp only[zip_cons_cons,lookup_cons,cW];by_cases z:a=k
  .subst z;simp
  .rw[show(k==a)=false from by simpa using λh:k=a=>z h.symm,if_neg z,I];cases aO ks k<;>simp
theorem C3{w:World}{C:Addr}{d:D}{v:Value}(r:Rep w C G d v):handedOut v=pure v:=by
 cases d<;>skip
 .subst r;rfl
 .subst r;rfl
 .obtain⟨_,rfl⟩:=r;rfl
 .refine aq r λ_ Y _=>?_;clear r;obtain rfl:=Y;rfl
 .obtain⟨_,rfl⟩:=r;rfl
 .refine fR r λ_ _ _ z _=>?_;clear r;obtain rfl:=z;rfl
 .refine fR r λ_ _ _ z _=>?_;clear r;obtain rfl:=z;rfl
 .refine fR r λ_ _ _ z _=>?_;clear r;obtain rfl:=z;rfl
 .refine fR r λ_ _ _ z _=>?_;clear r;obtain rfl:=z;rfl
 .refine cC r λ_ _ J _=>?_;clear r;obtain rfl:=J;rfl
 .refine Gw r λ_ _ _ _ _ I _=>?_;clear r;obtain rfl:=I;rfl
 .subst r;rfl
theorem q7{h:Heap}{C a z:Addr}{o od:Obj}{kvs:List (Str×Value)}(g:h.get? a=some o)(i:NJ C z o)(ne:z≠a)(g':h.get? z=some od)(n:NI od kvs):h.Inst a C (λy=>kvs.lookup y):=
 let⟨es,ep,Y,J,I,D⟩:=n
 ⟨o,g,i.1,i.2.1,.inr ⟨z,i.2.2,ne,od,es,ep,g',Y,J,I,D⟩⟩
theorem dN(W:Ws c){x:Str}{name:Str}{p pos:Pos}{xs:List D}{d:D}(he:Ev c A O ρ G (.Name x p) (.obj xs))(hm:name∈fieldNames)(hn:(aO fieldNames name).bind (xs[·]?)=some d)
 (Ml:eval (.Attribute (.Name x p) name pos) O=(do
  let o<-eval (.Name x p) O
  standAt pos.atName
  let r<-holding [o] (getAttr o name true)
  letTemporaryGo (.Name x p) o r
  pure r):=by rfl):Ev c A O ρ G (.Attribute (.Name x p) name pos) d:= .mk λE s V=>by
 refine Attribute_Name_ (he.run V λv s₁ q J=>?_) Ml;have r:=q.2;refine ru r λa o da od vs Y g1 i ne g2 n hl l=>?_;clear r;obtain rfl:=Y;have sub:=V.gG q.1;have I:=q7 (sub _ _ g1) i ne (sub _ _ g2) n;refine aq (bind_eq_some_iff.mp hn) λix Ku Qg=>?_;refine aq (l.get Qg) λv hv rv=>?_;have QJ:(fieldNames.zip vs).lookup name=some v:=by rw[jO (by rw[hl];rfl),Ku];exact hv
 refine bD W.cls λN mN X z _=>?_;have Xs:=X.keeps (λb o e=>J.old b o e);refine kz Xs.obj λnm qq bs sn sb col dd k0 k1 k2 k3 k5 hC=>?_;obtain⟨hh,gg,dr,t,os⟩:=s₁;refine load_attr hC Xs.ns (z _ (by simp)) (z _ ?_) (uE _ hm) I QJ (C3 rv) ?_
 .simp only[fieldNames,mem_cons,not_mem_nil,or_false]at hm;rcases hm with rfl|rfl|rfl|rfl|rfl<;>simp
 .exact cf.trans q.1 ⟨bM _ _,rv.mono dM⟩
theorem fQ(W:Ws c){x name qn:Str}{i:Nat}{p z pos:Pos}{es:List Expr}{xs ds:List D}{d:D}(he:Ev c A O ρ G (.Name x p) (.obj xs))(hm:name∈(["longest_run_of_spaces","indent_level","equal","not_equal_witness","less"]:List Str))
 (hM:∀N mN,ClsAt c.h₀ c.C N mN->(∀x∈(["__getattribute__","__getattr__","__setattr__","raw","n","nt","norm","is_simple"]:List Str),mN x=none)->er c mN 1 "__init__" "Whitespace.__init__"/\er c mN 2 "longest_run_of_spaces" "Whitespace.longest_run_of_spaces"/\er c mN 3 "indent_level" "Whitespace.indent_level"/\
  er c mN 4 "equal" "Whitespace.equal"/\er c mN 5 "not_equal_witness" "Whitespace.not_equal_witness"/\er c mN 6 "less" "Whitespace.less"->er c mN i name qn)
 (ha:oQ c A O ρ G es ds)(iC:(starEach es O).any (·.1)=false)(hc:∀v,gi c v (fZ (bO i)) (ak (bO i)) (bp (bO i)) qn->Callee c A v (.obj xs::ds) d)
 (kj:attributeBase (.Name x p) name O (eval (.Name x p) O)=eval (.Name x p) O)
 (uM:((backTo pos (starEach es O)).all (λx=> !x.1)&&(backToKw pos (keywordEach [] O)).all (λx=>x.1.isSome)
  &&decide (es.length+([]:List Keyword).length+(if([]:List Keyword).isEmpty then 0 else 1)<30))=true)
 (sZ:(z.endLine==pos.line)=true):Ev c A O ρ G (.Call (.Attribute (.Name x p) name z) es [] pos) d:= .mk λE s V=>by
 rw[arm_eval_Call,kj];refine wpAny_bind (he.run V λv s₁ q J=>?_);have r:=q.2;refine ru r λa o da od vs oB g1 i' ne g2 n hl l=>?_;clear r;obtain rfl:=oB;have sub:=V.gG q.1;have I:=q7 (sub _ _ g1) i' ne (sub _ _ g2) n;refine bD W.cls λN mN X Y QF=>?_;refine mf (hM N mN X Y QF).ex λfa fo m1 m2 m3 m4=>?_;have Xs:=X.keeps (λb o e=>J.old b o e);refine kz Xs.obj λnm qq bs sn sb col dd k0 k1 k2 k3 k5 hC=>?_;have Qq:(fieldNames.zip vs).lookup name=none:=by rw[jO (by rw[hl];rfl)];simp only[mem_cons,not_mem_nil,or_false]at hm;rcases hm with rfl|rfl|rfl|rfl|rfl<;>rfl
 have Jo:wpAny (model PW c.w) A (callWith pos (.ref fa) [.ref a] (backTo pos (starEach es O)) []) (cf c.w c.C G s d) E s₁:=
  eV m4.plain q.1 V.sub J (ds0:=[.obj xs]) (by show ∃_,_;exact⟨_,[],rfl,by show ∃_,_;exact⟨a,o,da,od,vs,rfl,g1,i',ne,g2,n,hl,l⟩,rfl⟩) ha iC (hc _ m4)
 refine wpAny_bind (wpAny_standAt ?_);obtain⟨hh,gg,dr,t,os⟩:=s₁;have Ji:methodCallForm (es.length+([]:List Keyword).length) (backTo pos (starEach es O)) (backToKw pos (keywordEach [] O))=true:=uM;have FW:methodCallPos true (.Name x p) O z pos=pure pos:=by unfold methodCallPos;simp[sZ]
 unfold methodCall;rw[Ji];refine wpAny_bind (wpAny_holding (method_of hC Xs.ns (Y _ (by simp)) (Y _ (by simp)) m1 (J.old _ _ m2) m3 (CG _ hm) I Qq ?_));exact wpAny_bind (wpAny_of_eq FW Jo)
def ub(C x z:Addr)(kvs:List (Str×Value))(h:Heap):Prop:=∃o od,h.get? x=some o/\NJ C z o/\z≠x/\h.get? z=some od/\NI od kvs
noncomputable def Hd.ins(H:Hd)(C x z:Addr)(kvs:List (Str×Value)):Hd:={H with fp:=[x,z],J:=ub C x z kvs}
theorem ub.fr{C x z:Addr}{kvs:List (Str×Value)}:∀h h',ub C x z kvs h->(∀b∈[x,z],∀o,h.get? b=some o->h'.get? b=some o)->ub C x z kvs h':=
 λh h' ⟨o,od,h1,Y,J,I,D⟩ k=>⟨o,od,k _ (.head _) _ h1,Y,J,k _ (.tail _ (.head _)) _ I,D⟩
theorem Fs.Le{C x z:Addr}{kvs:List (Str×Value)}(F:Fs c ah af H O ρ own s)(h:ub C x z kvs s.heap)(D:x∉H.Z)(I:z∉H.Z):Fs c ah af (H.ins C x z kvs) O ρ own s where
 gd:=F.gd
 rest:=F.rest
 old:=F.old
 new:=F.new
 ex:=F.ex
 view:=F.view
 own:=F.own
 frame:=F.frame
 gR:=F.gR
 zx:=F.zx
 inv:=h
 eS:=ub.fr
 jz:=λb hb=>by
  rcases dg hb with rfl|hb
  .exact D
  .rw[gj hb];exact I
 gQ:=λb hb=>by
  refine k9 h λo od Y _ _ J _=>?_;clear h;rcases dg hb with rfl|hb
  .exact⟨o,Y⟩
  .rw[gj hb];exact⟨od,J⟩
 apart:=F.apart
 dt:=F.dt
theorem sR{x:Str}{p:Pos}{a:Addr}{Q:Value->Shared->Prop}(F:Fs c ah af H O ρ own s)(I:ρ.lookup x=some (.adr a))(h:Q (.ref a) s)(D:(x==("__debug__":Str))=false:=by decide):
 wpAny (model PW c.w) A (eval (.Name x p) O) Q E s:=by
 refine aq (F.view.vars x _ I) λv i r=>?_;subst r;rcases i with⟨z,m,n,e⟩|⟨z|z,b,n,e⟩
 .exact wpAny_Name (wpAny_loadName_local F.view.kind z n e h) D
 .exact wpAny_Name (wpAny_loadName_cell F.view.kind z n e h) D
 .exact wpAny_Name (wpAny_loadName_free F.view.kind z.1 n e h z.2) D
theorem ub.inst{C x dx:Addr}{kvs:List (Str×Value)}{h:Heap}(j:ub C x dx kvs h):h.Inst x C (λy=>kvs.lookup y):=
 k9 j λ_ _ Y J I D z=>q7 Y J I D z
theorem mE:∀(kvs:List (Str×Value)),Within (λy=>kvs.lookup y) (kvs.map (·.1))
 |[]=>λy h=>absurd rfl h
 |(n,v)::r=>λy h=>by
  simp only[lookup_cons]at h;split at h
  .rename_i z;rw[eq_of_beq z];exact .head _
  .exact .tail _ (mE r y h)
theorem sh(W:Ws c){x D:Addr}{kvs:List (Str×Value)}{name:Str}{v:Value}{Q:Unit->Shared->Prop}(F:Fs c ah af (H.ins c.C x D kvs) O ρ own s)(hx:x∈H.X)(Jj:D∈H.X)(hm:name∈fieldNames)(hlen:kvs.length<=100)
 (kk:∀U,Fs c ah af (H.ins c.C x D ((name,v)::kvs)) O ρ own U->(∀a o,aX ah af H.X s a o->aX ah af H.X U a o)->Q () U):
 wpAny (model PW c.w) A (setAttr (.ref x) name v) Q E s:=by
 refine bD W.cls λN mN X CV _=>?_;have Xs:=X.keeps (λb o e=>F.view.old b o e);refine kz Xs.obj λnm qq bs sn sb col dd k0 k1 k2 k3 k5 hC=>?_;have Qj:x≠c.C:=λe=>by refine kz X.obj λ_ _ _ _ _ _ _ _ _ _ _ _ h0=>?_;have:=F.gd.old _ _ h0;rw[<-e,F.new x hx]at this;exact ns this
 have L1:mN name=none:=CV _ (by simp only[fieldNames,mem_cons,not_mem_nil,or_false]at hm;rcases hm with rfl|rfl|rfl|rfl|rfl<;>simp)
 have j:ub c.C x D kvs s.heap:=F.inv;refine k9 (id j) λo od j1 j2 j3 j4 j5=>?_;have key:wpAny (model PW c.w) A (setAttr (.ref x) name v) (λu U=>U={s with heap:=U.heap,toks:=U.toks}/\(∀b p,b∉[x,D]->s.heap.get? b=some p->U.heap.get? b=some p)/\ub c.C x D ((name,v)::kvs) U.heap) E s:=by
  obtain⟨hh,gg,dr,t,os⟩:=s;refine store_attr PySem.F.store_object hC Xs.ns (CV _ (by simp)) L1 (uE _ hm) Qj j.inst (λh' tk' I' hk Y=>?_) (mE kvs) (by rw[length_map,sizeLine_eq];exact ao 0x6422a0100000072a0 [_] [] hlen);refine⟨rfl,λb p hb e=>hk b p (λq=>hb (by rw[q];exact .head _)) (λLn d' ME ed q=>?_) e,?_⟩
  .have e1:Ln=o:=bg (ME.symm.trans j1);subst e1;have e2:d'=D:=bg (ed.symm.trans j2.2.2);subst e2;exact hb (by rw[q];exact .tail _ (.head _))
  .refine M' (Y o j1) λI J c₁ OY _ z=>?_;refine tA I' λo' e' _ PZ uO=>?_;clear I';have e2:I=o':=bg (J.symm.trans e');subst e2;rcases uO with⟨ua,_⟩|⟨d',uO,_,od',es,ep,n1,n2,n3,n4,n5⟩
   .rw[z D j2.2.2]at ua;exact Lw.sn ua
   .have e3:D=d':=bg ((z D j2.2.2).symm.trans uO);subst e3;refine⟨I,od',J,⟨c₁.trans j2.1,PZ,z _ j2.2.2⟩,j3,n1,es,ep,n2,n3,n4,λy=>?_⟩;rw[n5 y,lookup_cons];by_cases hy:y=name
    .subst hy;simp
    .show(if y=name then some v else kvs.lookup y)=_;rw[if_neg hy,show(y==name)=false from by simpa using hy]
 refine wpAny_mono (wpAny_toks key) (λu U p=>?_) λ_ _ e=>e.2;refine gO p λtk p1 p2 p3=>?_;clear p;have F2:=F.moved (H':=H.ins c.C x D ((name,v)::kvs)) (h':=U.heap) (tk:=U.toks) (wr:=[x,D]) rfl rfl rfl (λb hb=>by
  rcases dg hb with rfl|hb
  .exact hx
  .rw[gj hb];exact Jj) F.jz p2 (λb hb=>by
  refine k9 p3 λo od h1 _ _ h2 _=>?_;clear p3;rcases dg hb with rfl|hb
  .exact⟨o,h1⟩
  .rw[gj hb];exact⟨od,h2⟩) tk p3 ub.fr F.jz (λb hb=>by
  refine k9 p3 λo od h1 _ _ h2 _=>?_;clear p3;rcases dg hb with rfl|hb
  .exact⟨o,h1⟩
  .rw[gj hb];exact⟨od,h2⟩)
 rw[<-p1]at F2;refine kk U F2 ?_;rintro a o (h|⟨h1,h2,h3⟩)
 .exact .inl h
 .exact .inr ⟨p2 a o (λhm=>h3 (by
   rcases dg hm with rfl|hm
   .exact hx
   .rw[gj hm];exact Jj)) h1,h2,h3⟩
theorem fE(W:Ws c){x dx:Addr}{kvs:List (Str×Value)}{self name:Str}{p p' pos:Pos}{e:Expr}{d:D}{rest:List Stmt}{Q:Flow->Shared->Prop}(F:Fs c ah af (H.ins c.C x dx kvs) O ρ own s)(hx:x∈H.X)(Y:dx∈H.X)(I:ρ.lookup self=some (.adr x))
 (he:∀G,Ev c A O (l7 own++ρ) G e d)(hf:flat d=true)(hm:name∈fieldNames)(hlen:kvs.length<=100)
 (kk:∀v U,Rep c.w c.C (aX ah af H.X U) d v->(∀a o,aX ah af H.X s a o->aX ah af H.X U a o)->Fs c ah af (H.ins c.C x dx ((name,v)::kvs)) O ρ own U->wpAny (model PW c.w) A (execs rest O) Q E U)
 (hs:swapsWith e (some (.Attribute (.Name self p) name p')) pos.line O=pure false:=by rfl)(hd:(self==("__debug__":Str))=false:=by decide):
 wpAny (model PW c.w) A (execs (.Assign [.Attribute (.Name self p) name p'] e pos::rest) O) Q E s:=by
 refine wpAny_execs_cons (plainObj_wpAny_Assign_Attribute ?_ hs);refine wpAny_mono (wpAny_toks ((he _).1 E s F.hW)) (λv s₁ q=>?_) λ_ _ q=>q.2;obtain⟨tk,q⟩:=q;have z:=F.keeps q.1 tk;have up:∀a o,aX ah af H.X s a o->aX ah af H.X s₁ a o:=λa o h=>bF F.ex F.old q.1 _ _ (.inl h);have r:Rep c.w c.C (aX ah af H.X s₁) d v:=q.2.flatten (by
  rintro a o ((h|⟨e,he,rfl,h⟩)|h)
  .exact .inl (up _ _ h)
  .obtain⟨_,_,_,o',h4,h5⟩:=F.own e he;rw[h]at h4;cases h4;exact .inr h5.cls
  .exact .inl (bF F.ex F.old q.1 _ _ (.inr h))) hf
 refine sR z I (sh W z hx Y hm hlen λU F' J=>?_) hd;exact kk v U (r.mono J) (λa o h=>J _ _ (up _ _ h)) F'
theorem Gm(B:c.B)(R:aL A (k+1)){v:Value}{ps:List Str}{scope:Scope}{body:List Stmt}{qn:Str}(f:gi c v ps scope body qn){ds:List D}{vs:List Value}{Q:Value->Shared->Prop}(hlen:ds.length=ps.length)
 (hkind:scope.kind= .function)(pK:scope.isCoroutine=false)(z:scope.isGenerator=false)(rM:ps.Nodup)
 (BE:∀x∈ps,scope.names.lookup x=some .local\/scope.names.lookup x=some .cell)(hY:∀y∈cw scope,scope.names.lookup y=some .cell)
 (g:Gd c G s)(hG:∀a o,G a o->a∉T)(I:∀t∈T,∃o,s.heap.get? t=some o)(l:aE c.w c.C G ds vs)
 (hb:∀(Y:Around)(L a:Addr)(J:Value)(E':Value->Shared->Prop)(U:Shared)(Q':Flow->Shared->Prop),(∀fl cP,Q (j0 fl) cP->Q' fl cP)->aL Y k->(∀b o,s.heap.get? b=some o->U.heap.get? b=some o)->(∀y∈(iG scope L).X,s.heap.get? y=none)->
  Fs c G (aN s T) ((iG scope L).wide T) (bG scope qn L a J) (ps.zip ds) [] U->
  wpAny (model PW c.w) Y (execs body (bG scope qn L a J)) Q' E' U):
 wpAny (model PW c.w) A (call v vs) Q E s:=
 mn B R f hlen hkind pK z rM BE hY g l λY a J E' U Q' R' _ _ hq F=>hb Y _ a J E' U Q' hq R' F.old F.new (F.qW (T:=T) I hG (k7 (λy hy=>F.new y (.tail _ hy)) I))
theorem Ay{l r:Expr}{pos:Pos}{ds es:List D}(hl:Ev c A O ρ G l (.list ds))(hr:Ev c A O ρ G r (.list es))(hz:ds.length+es.length<=16777216):
 BQ c A O ρ G (.BinOp l .Add r pos) (.lst (ds++es)):= .mk λE s V=>
 wpAny_BinOp (hl.run V λva s₁ J Y=>hr.run Y λvb ay I DS=>by obtain⟨kk,ra,rb⟩:=J.two I;refine dR ra λa vs n' z g1 l1=>?_;clear ra;obtain rfl:=z;refine dR rb λb us m' z g2 l2=>?_;clear rb;obtain rfl:=z;have g:=gv ay {cls:= .type "list",data:= .seq (vs++us).toArray};refine oq (V.gG kk _ _ g1) (V.gG kk _ _ g2) ?_ (by rw[l1.length,l2.length,sizeLine_eq];exact ao 0x100000072ba10100000072ba10 [_,_] [] hz);exact⟨_,_,ay,rfl,kk,aZ _ _,g.2,g.1,_,0,rfl,l1.append l2⟩)
theorem yX{x:Str}{a:Addr}{xs ys:List Int}{p pos:Pos}{e:Expr}{rest:List Stmt}{Q:Flow->Shared->Prop}(F:Fs c ah af H O ρ [(x,a,.lst (xs.map .int))] s)(he:∀G,BQ c A O (l7 [(x,a,.lst (xs.map .int))]++ρ) G e (.lst (ys.map .int)))
 (hk:O.kindOf x=some .local)(hs:swapsWith e (some (.Name x p)) pos.line O=pure false)
 (kk:∀D U,D∉H.X->Fs c ah af (H.add D) O ((x,.adr D)::ρ) [(x,D,.lst (ys.map .int))] U->wpAny (model PW c.w) A (execs rest O) Q E U):
 wpAny (model PW c.w) A (execs (.Assign [.Name x p] e pos::rest) O) Q E s:=
 wpAny_execs_cons (wpAny_Assign_Name (wpAny_mono (wpAny_toks ((he _).1 E s F.hW)) (λv U q=>by
  obtain⟨tk,D,o,s₁,rfl,k1,k2,h1,h2,h3⟩:=q;have kp:=aQ k1 k2;have ha:s.heap.get? D=none:=by exact oN λp q=>Lw.sn ((dH k1 _ _ q).symm.trans h1)
  have J:D∉H.X:=λhm=>(F.ex _ hm).elim λp z=>Lw.ns (ha.symm.trans z);have F0:Fs c ah af H O ρ [] s:=F.less (λ_ _ h=>h) λe he=>nomatch he;have F':=F0.hide kp tk ha h2;have hL:D≠O.locals:=λq=>by obtain⟨p,z⟩:=F.ex _ (F.zx _ F.frame.1);rw[<-q,ha]at z;exact ns z
  have hp:(O.scope.kind== .class||(O.scope.kind== .module&&O.locals !=O.globals))=false:=by rw[F.view.kind];rfl
  obtain⟨m,n⟩:=F'.frame.2;refine wpAny_storeName_local hk n (λh' I Y=>?_) hp;have F2:=F'.fF (d:= .adr D) hk (by exact rfl) n I Y (le_succ _) rfl;exact kk D _ J (F2.ot (by simp) (.head _) hL ((Y.2 D hL).trans h2) (qP h3))) λ_ _ q=>q.2) hs)
theorem uk{x y z:Str}{p1 p2 p3 pos:Pos}{e:Expr}{d:D}{rest:List Stmt}{Q:Flow->Shared->Prop}(F:Fs c ah af H O ρ own s)(he:∀G,Ev c A O ρ G e d)(hx:kK O H x)(hy:kK O H y)(hz:kK O H z)
 (ox:own.all (λe=> !(e.1==x))=true)(oy:own.all (λe=> !(e.1==y))=true)(oz:own.all (λe=> !(e.1==z))=true)
 (kk:∀U,Fs c ah af H O ((z,d)::(y,d)::(x,d)::ρ) own U->wpAny (model PW c.w) A (execs rest O) Q E U)
 (hl:(assignEach [.Name x p1,.Name y p2,.Name z p3] O).map (·.2)=[assign (.Name x p1) O,assign (.Name y p2) O,assign (.Name z p3) O]:=by rfl)
 (hw:swappedStores [.Name x p1,.Name y p2,.Name z p3] e O=pure none:=by rfl):
 wpAny (model PW c.w) A (execs (.Assign [.Name x p1,.Name y p2,.Name z p3] e pos::rest) O) Q E s:=
 wpAny_execs_cons (wpAny_Assign_three (F.run he λv s₁ I r=>wpAny_assign_Name (I.gy hx r ox λay Y J=>wpAny_assign_Name (Y.gy hy (r.mono (gT I.zx J)) oy λbB oP La=>wpAny_assign_Name (oP.gy hz ((r.mono (gT I.zx J)).mono (gT Y.zx La)) oz λdY ym _=>kk dY ym)))) hl hw)
theorem tw(W:Ws c)(B:c.B){name:Str}{x:Str}{p pos:Pos}(I:O.kindOf "Whitespace"=some .globalImplicit)
 (h:∃t,∀(A:Around)(E:Value->Shared->Prop)(Q:Value->Shared->Prop)(s:Shared),(∀a o,c.h₀.get? a=some o->s.heap.get? a=some o)->Q (.str x t) {s with toks:=s.toks+1}->wpAny (model PW c.w) A (getAttr (.ref c.C) name true) Q E s)
 (D:eval (.Attribute (.Name "Whitespace" p) name pos) O=(do
  let o<-eval (.Name "Whitespace" p) O
  standAt pos.atName
  let r<-holding [o] (getAttr o name true)
  letTemporaryGo (.Name "Whitespace" p) o r
  pure r):=by rfl):Ev c A O ρ G (.Attribute (.Name "Whitespace" p) name pos) (.str x):= .mk λE s V=>by
 refine Attribute_Name_ ((rr B (d:= .adr c.C) I W.main rfl).run V λv s₁ q z=>?_) D;have r:v= .ref c.C:=q.2;subst r;obtain⟨t,ht⟩:=h;exact ht A E _ s₁ (λa o e=>z.old a o e) (cf.trans q.1 ⟨bM _ _,by exact Exists.intro _ rfl⟩)
noncomputable def bump(cs:List Int)(b:Nat):List Int:=
 (if cs.length<=b then cs++replicate (b-cs.length+1) 0 else cs).set b ((if cs.length<=b then cs++replicate (b-cs.length+1) 0 else cs).getD b 0+1)
noncomputable def scan:List Nat->List Int->Nat->Nat->Nat->List Int×Nat×Nat×Nat
 |[],cs,b,n,z=>(cs,b,n,z)
 |ch::r,cs,b,n,z=>if ch=32 then scan r cs (b+1) (n+1) z else if ch=9 then scan r (bump cs b) 0 (n+1) (z+1)else(cs,b,n,z)
theorem za{D:Nat}{r:List Nat}{cs:List Int}{b n z:Nat}:scan (D::r) cs b n z=if D=32 then scan r cs (b+1) (n+1) z else if D=9 then scan r (bump cs b) 0 (n+1) (z+1)else(cs,b,n,z):=rfl
noncomputable def eD(ws:Str):List Int×Nat×Nat×Nat:=scan ws.cps.toList [] 0 0 0
noncomputable def iH(ws:Str):List D:=
 [.str ws,.int (eD ws).2.2.1,.int (eD ws).2.2.2,.tup [.tup ((eD ws).1.map .int),.int (eD ws).2.1],.bool (decide ((eD ws).1.length<=1))]
noncomputable def ko:Stmt->List Stmt
 | .For _ _ b _ _=>b
 |_=>[]
noncomputable def FN:Stmt->List Stmt
 | .If _ b _ _=>b
 |_=>[]
noncomputable def FL:Stmt->List Stmt
 | .If _ _ b _=>b
 |_=>[]
theorem pM:∀{xs:List Int},nR (xs.map .int)=true
 |[]=>rfl
 |x::r=>pM (xs:=r)
theorem tQ{cs:List Int}{b i:Nat}(D:cs.length<=i+1)(z:b<=i):(bump cs b).length<=i+1:=by
 unfold bump;rw[length_set];split
 .rw[length_append,length_replicate];exact Pk z ‹_›
 .exact D
theorem zZ(W:Ws c)(hh:A.handled=none){x dx:Addr}{kvs:List (Str×Value)}{ws:Str}{t:Tok}{self:Str}{p pos:Pos}(F:Fs c ah af (H.ins c.C x dx kvs) O ρ own s)(z:ρ.lookup self=some (.adr x))(hk:kvs.lookup ("raw":Str)=some (Value.str ws t))(ha:ws.cps.all (· <128)=true)
 (Ml:eval (.Attribute (.Name self p) "raw" pos) O=(do
  let o<-eval (.Name self p) O
  standAt pos.atName
  let r<-holding [o] (getAttr o "raw" true)
  letTemporaryGo (.Name self p) o r
  pure r):=by rfl)(hd:(self==("__debug__":Str))=false:=by decide):
 ∀(K:Value->Shared->Prop),(∀it s₁,Keeps s s₁->s.toks<=s₁.toks->wL c A (aX ah af H.X s) s it (gq ws) s₁->K it s₁)->wpAny (model PW c.w) A (eval (.Attribute (.Name self p) "raw" pos) O) (λxv U=>wpAny (model PW c.w) A (pyIter xv) K E U) E s:=λK kk=>by
 refine Attribute_Name_ (sR F z ?_ hd) Ml;refine bD W.cls λN mN X I _=>?_;have Xs:=X.keeps (λb o e=>F.view.old b o e);refine kz Xs.obj λnm qq bs sn sb col dd k0 k1 k2 k3 k5 hC=>?_;have j:ub c.C x dx kvs s.heap:=F.inv;have key:∀U:Shared,U={s with toks:=s.toks+1}->wpAny (model PW c.w) A (pyIter (.str ws t)) K E U:=λs₁ e=>by
  have kp:Keeps s s₁:=by subst e;exact bM _ _
  have tk:s.toks<=s₁.toks:=by subst e;exact le_succ _
  refine wpAny_pyIter_ascii ha (kk _ _ (aQ kp (aZ _ _)) tk ?_);have hsz:(gq ws).length=ws.cps.size:=by simp[gq]
  refine⟨s₁.heap.objs.size,[s₁.heap.objs.size],[s₁.heap.objs.size],_,_,rfl,hsz▸Walks.strAscii hh s₁.heap.objs.size ws t,⟨_,get?_push_size _ rfl,rfl,rfl⟩,?_,?_,?_,?_,?_⟩
  .intro i h D;refine aq D λo J _=>?_;clear D;intro b hb;simp only[mem_cons,not_mem_nil,or_false]at hb;subst hb;exact⟨o,J⟩
  .intro b hb;simp at hb;subst hb;exact .inr (bu kp (bH s₁))
  .intro b hb;simp at hb;subst hb;exact bu kp (bH s₁)
  .intro i v _ D;refine cC D λch u J Y=>?_;clear D;obtain rfl:=Y;exact⟨.str ⟨#[ch]⟩,by simp[gq,J],by exact Exists.intro _ rfl⟩
  .exact⟨"str_ascii_iterator",by decide,λi h q=>let⟨o,J,h2,_⟩:=q;⟨o,J,h2⟩⟩
 obtain⟨Sf,gg,dr,tk,os⟩:=s;exact load_attr hC Xs.ns (I _ (by simp)) (I _ (by simp)) (uE _ (by decide)) j.inst hk rfl (key _ rfl)
theorem CD(W:Ws c)(g:Gl c)(R:aL A (k+6)){v:Value}(f:gi c v (fZ (bO 1)) (ak (bO 1)) (bp (bO 1)) "Whitespace.__init__"){ws:Str}{t:Tok}(ha:ws.cps.all (· <128)=true)(hw:ws.cps.size<=100000)
 {x dx:Addr}(gd:Gd c G s)(hG:∀a o,G a o->a∉[x,dx])(j:ub c.C x dx [] s.heap):
 wpAny (model PW c.w) A (call v [.ref x,.str ws t]) (λr U=>r= .none/\U={s with heap:=U.heap,toks:=U.toks}/\(∀b o,b∉[x,dx]->s.heap.get? b=some o->U.heap.get? b=some o)/\
  ∃vs,vs.length=5/\ub c.C x dx (fieldNames.zip vs) U.heap/\aE c.w c.C (λa o=>G a o\/(U.heap.get? a=some o/\s.heap.get? a=none)) (iH ws) vs) E s:=by
 have hex:∀t∈[x,dx],∃o,s.heap.get? t=some o:=λt ht=>by
  refine k9 j λo od h1 _ _ h2 _=>?_;clear j;rcases dg ht with rfl|ht
  .exact⟨o,h1⟩
  .rw[gj ht];exact⟨od,h2⟩
 refine Gm (T:=[x,dx]) (ds:=[.adr x,.str ws]) (k:=k+5) g.B R f rfl rfl rfl rfl (by decide) (by decide) (by decide) gd hG hex (by show ∃_,_;exact⟨_,_,rfl,rfl,_,_,rfl,⟨t,rfl⟩,rfl⟩)
  λA' L ad cd E' U Q1 kq R' kp cA F=>?_
 have hZ:∀t∈[x,dx],t∉((iG (ak (bO 1)) L).wide [x,dx]).Z:=λt ht hm=>by obtain⟨o,e⟩:=hex t ht;rw[cA t hm]at e;exact ns e
 have LF:x∈((iG (ak (bO 1)) L).wide [x,dx]).X:= .head _;have Mq:dx∈((iG (ak (bO 1)) L).wide [x,dx]).X:= .tail _ (.head _);have F:=F.Le (ub.fr _ _ j λb _ o e=>kp b o e) (hZ _ (.head _)) (hZ _ (.tail _ (.head _)));generalize (iG (ak (bO 1)) L).wide [x,dx]=H at F LF Mq;refine fE (d:= .str ws) W F LF Mq rfl (λG=>aa rfl) rfl (by decide) (by decide) λv1 U r1 up F=>?_;obtain⟨t1,rfl⟩:=r1;refine iQ (x:="S") (y:="T") (d1:= .str " ") (d2:= .str "\t") R' F (λG=>bb (ae (tw W g.B rfl W.S) (ae (tw W g.B rfl W.T) ai))) (.inl rfl) (.inl rfl) rfl rfl rfl λU F=>?_;refine iS (od:= .lst (([]:List Int).map .int)) F (λG=>je ai) (.inl rfl) rfl rfl λa0 U OM F=>?_;refine uk (d:= .int (0:Nat)) F (λG=>aj) (.inl rfl) (.inl rfl) (.inl rfl) rfl rfl rfl λU F=>?_
 have tail:∀{ρ:List (Str×D)}{As:List Addr}{s₁:Shared}{a:Addr}{cs:List Int}{b n nt:Nat},eD ws=(cs,b,n,nt)->cs.length<=100001->ρ.lookup ("self":Str)=some (.adr x)->ρ.lookup ("b":Str)=some (.int b)->ρ.lookup ("n":Str)=some (.int n)->ρ.lookup ("nt":Str)=some (.int nt)->
  Fs c G (aN s [x,dx]) (((H.add a0).adds As).ins c.C x dx [("raw",.str ws t1)]) (bG (ak (bO 1)) "Whitespace.__init__" L ad cd) ρ [("count",a,.lst (cs.map .int))] s₁->
  wpAny (model PW c.w) A' (execs ((bp (bO 1)).drop 5) (bG (ak (bO 1)) "Whitespace.__init__" L ad cd)) Q1 E' s₁:=by
  intro ρ As s₁ a cs b n nt J hlen I Ak FZ Y F;have xM:x∈((H.add a0).adds As).X:=cv ((.tail _ LF));have xP:dx∈((H.add a0).adds As).X:=cv ((.tail _ Mq));generalize (H.add a0).adds As=H at F xM xP;refine fE (d:= .int n) W F xM xP I (λG=>aa FZ) rfl (by decide) (by simp) λv2 s2 r2 RY F=>?_;refine fE (d:= .int nt) W F xM xP I (λG=>aa Y) rfl (by decide) (by simp) λv3 s3 r3 EO F=>?_;refine fE (d:= .tup [.tup (cs.map .int),.int b]) W F xM xP I (λG=>bb (ae (aF g.B rfl (g.no _ (by decide)) boot_tuple (by decide) (.t _) (ae (aa (d:= .list (cs.map .int)) rfl) ai) rfl (DH (aD (by rw[length_map];exact ao 0x186a152a03d090062a0 [_] [] hlen)))) (ae (aa Ak) ai))) (show(nR (cs.map D.int)&&true)=true from(Bool.and_true _).trans pM) (by decide) (by simp) λv4 s4 r4 RX F=>?_;refine fE (d:= .bool (decide ((cs.length:Int)<=1))) W F xM xP I (λG=>ia g.B R' (a:= .int (cs.length:Nat)) (b:= .int 1) (aF g.B rfl (g.no _ (by decide)) boot_len (by decide) (.b _) (ae (aa (d:= .list (cs.map .int)) rfl) ai) rfl (gP ?_)) aj rfl) rfl (by decide) (by simp) λv5 s5 r5 Ka F=>?_
  .show(if sizeOk (cs.map D.int).length then some (((cs.map D.int).length:Nat):Int)else none)=_;rw[if_pos (aD (by rw[length_map];exact ao 0x186a152a03d090062a0 [_] [] hlen)),length_map]
  refine wpAny_execs_nil (kq _ _ ⟨rfl,F.rest,λb o hb e=>F.old b o (b9 e hb),[.str ws t1,v2,v3,v4,v5],rfl,?_,?_⟩)
  .obtain⟨o,od,j1,j2,j3,j4,es,ep,n1,n2,n3,n4⟩:=F.inv;refine⟨o,od,j1,j2,j3,j4,es,ep,n1,n2,n3,λy=>(n4 y).trans ?_⟩;by_cases hy:y∈fieldNames
   .simp only[fieldNames,mem_cons,not_mem_nil,or_false]at hy;rcases hy with rfl|rfl|rfl|rfl|rfl<;>rfl
   .simp only[fieldNames,mem_cons,not_mem_nil,or_false,not_or]at hy;refine ib hy λy1 y2 y3 y4 y5=>?_;clear hy;have bf:∀z:Str,y≠z->(y==z)=false:=λz h=>by simpa using h
    simp only[fieldNames,zip_cons_cons,List.zip_nil_left,lookup_cons,List.lookup_nil,bf _ y1,bf _ y2,bf _ y3,bf _ y4,bf _ y5]
  .have MD:∀a o,aX G (aN s [x,dx]) H.X s5 a o->G a o\/(s5.heap.get? a=some o/\s.heap.get? a=none):=by
    rintro a o (h|⟨h1,h2,h3⟩)
    .exact .inl h
    .exact .inr ⟨h1,oN λo' e=>sn ((b9 e λhm=>h3 ((dg hm).elim (λq=>q▸xM) λhm=>gj hm▸xP)).symm.trans h2)⟩
   unfold iH;rw[J];simp only[aE];refine⟨_,_,rfl,by exact Exists.intro _ rfl,_,_,rfl,?_,_,_,rfl,?_,_,_,rfl,(r4.mono Ka).mono MD,_,_,rfl,?_,rfl⟩
   .exact r2
   .exact r3
   .show _=_;rw[r5];congr 1;rw[Bool.eq_iff_iff];simp;exact⟨λq0=>ao 1179631293088 [_] [] q0,λq0=>ao 1179506518648 [_] [] q0⟩
 have yt:∀(i:Nat)(d:D),(gq ws)[i]? =some d->∃ch,ws.cps.toList[i]? =some ch/\d= .str ⟨#[ch]⟩/\i<100000:=λi d h=>by simp only[gq,getElem?_map]at h;refine aq (mA h) λch h1 h2=>?_;have h3:=(List.getElem?_eq_some_iff.mp h1).1;exact⟨ch,h1,h2.symm,by simpa using lt_of_lt_of_le h3 (by simpa using hw)⟩
 refine vA (H:=(H.add a0).ins c.C x dx [("raw",.str ws t1)]) F (zZ W R'.handled F rfl rfl ha) (.inl rfl)
  (λi ρ own As=>∃a cs b n nt,own=[(("count":Str),a,OD.lst (cs.map D.int))]/\cs.length<=i+1/\b<=i/\scan (ws.cps.toList.drop i) cs b n nt=eD ws/\ρ.lookup ("self":Str)=some (D.adr x)/\ρ.lookup ("S":Str)=some (D.str " ")/\ρ.lookup ("T":Str)=some (D.str "	")/\
   ρ.lookup ("b":Str)=some (D.int (b:Nat))/\ρ.lookup ("n":Str)=some (D.int (n:Nat))/\ρ.lookup ("nt":Str)=some (D.int (nt:Nat)))
  ⟨a0,[],0,0,0,rfl,by simp,by simp,rfl,rfl,rfl,rfl,rfl,rfl,rfl⟩ (λi ρ own As h=>by refine Gw h λa cs b n nt oB _=>?_;clear h;obtain rfl:=oB;rfl) ?_ ?_
 .intro E2 i d ρ own As bB H' Q2 kn kb kr hY _ back hd w9;refine Et w9 λa cs b n nt oB yr El J I hS hT Ak FZ Y=>?_;clear w9;obtain rfl:=oB;intro F;refine jU (yt i d hd) λch yu gD hi=>?_;obtain rfl:=gD;have Jk:ws.cps.toList.drop i=ch::ws.cps.toList.drop (i+1):=by obtain⟨h1,h2⟩:=List.getElem?_eq_some_iff.mp yu;rw[drop_eq_getElem_cons h1,h2]
  rw[Jk]at J;simp only[za]at J;refine bK F (b:=(⟨#[ch]⟩:Str)==" ") (λG=>aC g.B R' (a:= .str ⟨#[ch]⟩) (b:= .str " ") (aa rfl) (aa hS) rfl) λU F=>?_;by_cases MB:ch=32
  .subst MB;rw[show((⟨#[32]⟩:Str)==" ")=true from by decide];rw[if_pos rfl]at J;refine av (d:= .int (n+1:Nat)) F (λG=>ag (a:= .int n) (b:= .int 1) (aa FZ) aj rfl) (.inl rfl) rfl rfl λU F=>?_;refine av (d:= .int (b+1:Nat)) F (λG=>ag (a:= .int b) (b:= .int 1) (aa Ak) aj rfl) (.inl rfl) rfl rfl λU F=>?_;refine wpAny_execs_nil (wpAny_execs_nil (kn _ _ _ As ⟨a,cs,b+1,n+1,nt,rfl,by exact ao 0x112b1a0112112b11a0 [_,_] [] yr,by exact ao 0xba0112b1112a10 [_,_] [] El,J,?_,?_,?_,rfl,rfl,?_⟩ F))
   .exact I
   .exact hS
   .exact hT
   .exact Y
  .rw[show((⟨#[ch]⟩:Str)==" ")=false from by rw[beq_eq_false_iff_ne];intro e;have:(⟨#[ch]⟩:Str)=⟨#[32]⟩:=e;simp at this;exact MB this]
   rw[if_neg MB]at J;refine bK F (b:=(⟨#[ch]⟩:Str)=="	") (λG=>aC g.B R' (a:= .str ⟨#[ch]⟩) (b:= .str "	") (aa rfl) (aa hT) rfl) λU F=>?_;by_cases h9:ch=9
   .subst h9;rw[show((⟨#[9]⟩:Str)=="	")=true from by decide];rw[if_pos rfl]at J;refine av (d:= .int (n+1:Nat)) F (λG=>ag (a:= .int n) (b:= .int 1) (aa FZ) aj rfl) (.inl rfl) rfl rfl λU F=>?_;refine av (d:= .int (nt+1:Nat)) F (λG=>ag (a:= .int nt) (b:= .int 1) (aa Y) aj rfl) (.inl rfl) rfl rfl λU F=>?_;have C2:(((("nt":Str),D.int (nt+1:Nat))::(("n":Str),D.int (n+1:Nat))::(("ch":Str),D.str ⟨#[9]⟩)::ρ):List (Str×D)).lookup ("b":Str)=some (.int b):=Ak;have Aa:(((("nt":Str),D.int (nt+1:Nat))::(("n":Str),D.int (n+1:Nat))::(("ch":Str),D.str ⟨#[9]⟩)::ρ):List (Str×D)).lookup ("self":Str)=some (.adr x):=I;have OQ:(((("nt":Str),D.int (nt+1:Nat))::(("n":Str),D.int (n+1:Nat))::(("ch":Str),D.str ⟨#[9]⟩)::ρ):List (Str×D)).lookup ("S":Str)=some (.str " "):=hS;have KA:(((("nt":Str),D.int (nt+1:Nat))::(("n":Str),D.int (n+1:Nat))::(("ch":Str),D.str ⟨#[9]⟩)::ρ):List (Str×D)).lookup ("T":Str)=some (.str "\t"):=hT;have Hu:(((("nt":Str),D.int (nt+1:Nat))::(("n":Str),D.int (n+1:Nat))::(("ch":Str),D.str ⟨#[9]⟩)::ρ):List (Str×D)).lookup ("n":Str)=some (.int (n+1:Nat)):=rfl;have I9:(((("nt":Str),D.int (nt+1:Nat))::(("n":Str),D.int (n+1:Nat))::(("ch":Str),D.str ⟨#[9]⟩)::ρ):List (Str×D)).lookup ("nt":Str)=some (.int (nt+1:Nat)):=rfl;generalize (((("nt":Str),D.int (nt+1:Nat))::(("n":Str),D.int (n+1:Nat))::(("ch":Str),D.str ⟨#[9]⟩)::ρ):List (Str×D))=ρ₁ at F C2 Aa OQ KA Hu I9
    have H8:∀{bP:List (Str×D)}{As':List Addr}{a':Addr}{BO:List Int}{U:Shared}{Q:Flow->Shared->Prop},BO=(if cs.length<=b then cs++replicate (b-cs.length+1) 0 else cs)->(∀y∈(["self","S","T","b","n","nt"]:List Str),bP.lookup y=ρ₁.lookup y)->
     Fs c G (aN s [x,dx]) (H'.adds As') (bG (ak (bO 1)) "Whitespace.__init__" L ad cd) bP [("count",a',.lst (BO.map .int))] U->
     (∀cP,Fs c G (aN s [x,dx]) (H'.adds As') (bG (ak (bO 1)) "Whitespace.__init__" L ad cd) ((("b":Str),D.int (0:Nat))::bP) [("count",a',.lst ((bump cs b).map .int))] cP->Q .next cP)->
     wpAny (model PW c.w) A' (execs ((FN (oC (FL (oC (ko (oC (bp (bO 1)) 4)) 0)) 0)).drop 3) (bG (ak (bO 1)) "Whitespace.__init__" L ad cd)) Q E2 U:=by
     intro bP As' a' BO U Q Jm FR F kq;have vY:b<BO.length/\BO.length<=100002:=by
      rw[Jm];split
      .rw[length_append,length_replicate];exact⟨ao 0xbc1a0112c1b1112a10 [_,_,_] [] eC,(le_total (cs.length) (b)).elim (λq0=>cU 0x186a052112d10dc0cab10186a252112b1a10 [_,_,_,_] [] (dE q0) El hi) λq0=>cU 0x186a052112c1002b0112c1a0186a252112b1a10 [_,_,_] [] yr (EF q0) hi⟩
      .rename_i h;exact⟨Nat.not_le.mp h,le_trans yr (le_trans hi (by decide))⟩
     have Hw:bP.lookup ("b":Str)=some (.int b):=(FR _ (by simp)).trans C2;refine qF (n:=(b:Int)) (d:= .int (BO.getD b 0+1)) F (λG=>ag (a:= .int (BO.getD b 0)) (b:= .int 1) (aS (o:= .list (BO.map .int)) (i:= .int b) (aa rfl) (aa Hw) ?_) aj rfl) rfl (λG=>aa Hw) (natCast_nonneg _) (by rw[length_map];exact ao 0xb112a10b7112a718 [_,_] [] vY.1) (aD (by rw[length_map];exact ao 0x186a252a03d090062a0 [_] [] vY.2)) λU F=>?_
     .rw[kN (by exact aM 0x186a052112b10ba0186a052a0 [_,_] [] El hi),getElem?_map,getElem?_eq_getElem vY.1,getD_eq_getElem?_getD,getElem?_eq_getElem vY.1];rfl
     refine av (d:= .int (0:Nat)) F (λG=>aj) (.inl rfl) rfl rfl λU F=>?_;refine wpAny_execs_nil (kq _ ?_);have e:(BO.map D.int).set (b:Int).toNat (.int (BO.getD b 0+1))=(bump cs b).map .int:=by unfold bump;rw[<-Jm,toNat_natCast,map_set]
     rw[e]at F;exact F
    have done:∀{bP:List (Str×D)}{As':List Addr}{a':Addr}{cP:Shared},(∀y∈(["self","S","T","b","n","nt"]:List Str),bP.lookup y=ρ₁.lookup y)->Fs c G (aN s [x,dx]) (H'.adds As') (bG (ak (bO 1)) "Whitespace.__init__" L ad cd) ((("b":Str),D.int (0:Nat))::bP) [("count",a',.lst ((bump cs b).map .int))] cP->
     Q2 .next cP:=λ{bP As' a' cP}FR F=>
     kn _ ((("b":Str),D.int (0:Nat))::_) _ _ ⟨_,bump cs b,0,n+1,nt+1,rfl,Nat.le_succ_of_le (tQ yr El),zero_le _,J,(FR _ (by simp)).trans Aa,(FR _ (by simp)).trans OQ,(FR _ (by simp)).trans KA,rfl,(FR _ (by simp)).trans Hu,(FR _ (by simp)).trans I9⟩ F
    refine E4 F (b:=decide ((b:Int)>=(cs.length:Nat))) (λG=>aC g.B R' (a:= .int b) (b:= .int (cs.length:Nat)) (aa C2) (aF g.B rfl (g.no _ (by decide)) boot_len (by decide) (.b _) (ae (aa (d:= .list (cs.map .int)) rfl) ai) rfl (gP ?_)) rfl) λU F=>?_
    .show(if sizeOk (cs.map D.int).length then some (((cs.map D.int).length:Nat):Int)else none)=_;rw[if_pos (aD (by rw[length_map];exact aM 0x186a052112b10112b1a03d090062a0 [_,_] [] yr hi)),length_map]
    by_cases Af:cs.length<=b
    .rw[decide_eq_true (by exact ao 3121314424 [_,_] [] Af)];refine yX (ys:=cs++replicate (b-cs.length+1) 0) F (λG=>?_) rfl rfl λa' U ON F=>?_
     .refine tu (Ay (ds:=cs.map .int) (es:=(replicate (b-cs.length+1) (0:Int)).map .int) (aa rfl) ?_ (by rw[length_map,length_map,length_replicate];exact cU 0x186a052112d10dc0cab10100000072112b1a10 [_,_,_,_] [] (dE (ao 12192672 [_,_] [] Af)) El hi)) (by rw[map_append]);refine aB (ag (a:= .list [.int 0]) (b:= .int ((b-cs.length+1:Nat):Int)) (bq (ae aj ai)) (ag (a:= .int ((b:Int)-(cs.length:Nat))) (b:= .int 1) (ag (a:= .int b) (b:= .int (cs.length:Nat)) (aa C2) (aF g.B rfl (g.no _ (by decide)) boot_len (by decide) (.b _) (ae (aa (d:= .list (cs.map .int)) rfl) ai) rfl (gP ?_)) rfl) aj ?_) (tU (natCast_nonneg _) (by exact cU 0x186a052112c10cb0ba0142215112112a1718 [_,_,_] [] qx El hi) (by simp;exact cU 0x186a052112c10cb0ba010000062112112a110 [_,_,_] [] qx El hi))) ?_
      .show(if sizeOk (cs.map D.int).length then some (((cs.map D.int).length:Nat):Int)else none)=_;rw[if_pos (aD (by rw[length_map];exact aM 0x186a052112b10112b1a03d090062a0 [_,_] [] yr hi)),length_map]
      .show some (D.int _)=some (D.int _);congr 2;exact dq (ao 0xbc1a0112c17112b7a7618 [_,_,_] [] eC) (ao 0xbca10112c7b761112a178 [_,_,_] [] (dE (ao 12192672 [_,_] [] Af)))
      .simp
     exact wpAny_execs_nil (H8 (As':=a'::As) (by rw[if_pos Af]) (λy hy=>by
      simp only[mem_cons,not_mem_nil,or_false]at hy;rcases hy with rfl|rfl|rfl|rfl|rfl|rfl<;>rfl) F λcP F=>wpAny_execs_nil (wpAny_execs_nil (done (λy hy=>by
      simp only[mem_cons,not_mem_nil,or_false]at hy;rcases hy with rfl|rfl|rfl|rfl|rfl|rfl<;>rfl) F)))
    .rw[decide_eq_false (by exact G8 (ao 0xb112a10b7112a718 [_,_] [] (NZ Af)))];exact wpAny_execs_nil (H8 (by rw[if_neg Af]) (λy hy=>rfl) F λcP F=>wpAny_execs_nil (wpAny_execs_nil (done (λy hy=>rfl) F)))
   .rw[show((⟨#[ch]⟩:Str)=="	")=false from by rw[beq_eq_false_iff_ne];intro e;have:(⟨#[ch]⟩:Str)=⟨#[9]⟩:=e;simp at this;exact h9 this]
    rw[if_neg h9]at J;refine wpAny_execs_cons (wpAny_Break (kb _ ?_));have Fb:=back _ _ _ _ F;refine tail J.symm (by exact aM 0x186a052112b10112b1a0186a152a0 [_,_] [] yr hi) ?_ ?_ ?_ ?_ Fb
    .exact I
    .exact Ak
    .exact FZ
    .exact Y
 .intro ρ own As s w9;refine Et w9 λa cs b n nt oB yr El J I hS hT Ak FZ Y=>?_;clear w9;obtain rfl:=oB;intro F;have hlen:(gq ws).length=ws.cps.size:=by simp[gq]
  rw[hlen]at yr J;rw[List.drop_of_length_le (by simp)]at J;exact tail J.symm (by exact aM 0x186a052b0112b1a0186a152a0 [_,_] [] yr hw) I Ak FZ Y F
theorem aL.uf{C:Addr}{vals:List Value}(r:aL A (k+1)):aL (A.under (.builtin "type.__call__" ⟨.ref C::vals,[]⟩)) k:=
 ⟨r.handled,by
   show pushGuards (Code.guards (.builtin "type.__call__" ⟨.ref C::vals,[]⟩)) A.guards=some [];rw[r.guards,show Code.guards (.builtin "type.__call__" ⟨.ref C::vals,[]⟩)=[]from rfl];rfl,by have:=r.depth;show A.depth+1+k<700;lia,by
   have:=r.units;have e:(A.under (.builtin "type.__call__" ⟨.ref C::vals,[]⟩)).units<=A.units+10:=add_le_add_left (le_trans (le_of_eq (rfl:Code.cUnits (.builtin "type.__call__" ⟨.ref C::vals,[]⟩)=1)) (Nat.succ_le_succ (zero_le _))) _;lia⟩
theorem Fn(W:Ws c)(g:Gl c)(R:aL A (k+7)){ws:Str}(ha:ws.cps.all (· <128)=true)(hw:ws.cps.size<=100000):Callee c A (.ref c.C) [.str ws] (.obj (iH ws)):=λE s G vs gd l=>by
 refine aq l.one λv rS r=>?_;obtain rfl:=rS;obtain⟨t,rfl⟩:=r;refine mf W.cls λN mN X CV M1 _=>?_;have Xs:=X.keeps (λb o e=>gd.old b o e);refine kz Xs.obj λnm qq bs sn sb col dd k0 k1 k2 k3 k5 hC=>?_;refine mf M1.ex λfa fo m1 m2 m3 m4=>?_
 have key:∀(h':Heap)(x dx:Addr),Heap.MadeObj s.heap h' x dx c.C->
  wpAny (model PW c.w) (A.under (.builtin "type.__call__" ⟨[.ref c.C,.str ws t],[]⟩)) (call (.ref fa) [.ref x,.str ws t]) (λr U=>r= .none/\cf c.w c.C G s (.obj (iH ws)) (.ref x) U) E {s with heap:=h'}:=λh' x dx D=>by
  refine tA D.inst λox hx QV L5 Jj=>?_;have z:=D.dict ox hx;have I:h'.Ns1 dx λ_=>none:=by
   rcases Jj with⟨J,_⟩|⟨d',Y,_,LZ⟩
   .rw[J]at z;exact ns z
   .have:=bg (Y.symm.trans z);subst this;exact LZ
  have jQ:dx≠x:=by
   rcases Jj with⟨J,_⟩|⟨d',Y,L4,_⟩
   .rw[J]at z;exact ns z
   .have:=bg (Y.symm.trans z);subst this;exact L4
  have j:ub c.C x dx [] h':=by refine yb I λod es ep e1 e2 e3 e4 e5=>?_;clear I;exact⟨ox,od,hx,⟨QV,L5,z⟩,jQ,e1,es,ep,e2,e3,e4,e5⟩
  refine wpAny_mono (CD (s:={s with heap:=h'}) (G:=G) (k:=k) W g R.uf m4 ha hw ⟨λa o q=>D.keeps _ _ (gd.sub a o q),gd.base,gd.toks⟩ (λa o q hm=>?_) j) (λr U p=>?_) λ_ _ e=>e
  .have:=gd.sub a o q;rcases dg hm with rfl|hm
   .rw[D.newX]at this;exact ns this
   .rw[gj hm,D.newD]at this;exact ns this
  .obtain⟨p1,p2,p3,us,p4,p5,p6⟩:=p;have hk:∀b o,s.heap.get? b=some o->U.heap.get? b=some o:=λb o e=>p3 b o (λhm=>by
    rcases dg hm with rfl|hm
    .rw[D.newX]at e;exact ns e
    .rw[gj hm,D.newD]at e;exact ns e) (D.keeps _ _ e)
   refine⟨p1,⟨U.heap,U.toks,p2,hk⟩,?_⟩;refine k9 p5 λo od q1 q2 q3 q4 q5=>?_;clear p5;show ∃_,_;refine⟨x,o,dx,od,us,rfl,.inr ⟨q1,D.newX⟩,q2,q3,.inr ⟨q4,D.newD⟩,q5,p4,p6.mono ?_⟩;rintro a o (h|⟨h1,h2⟩)
   .exact .inl h
   .refine .inr ⟨h1,?_⟩;cases e:s.heap.get? a with
    |none=>rfl
    |some o'=>have h2:h'.get? a=none:=h2;rw[D.keeps _ _ e]at h2;exact Lw.sn h2
 obtain⟨hh,gg,dr,tk,os⟩:=s;exact wpAny_call_obj_init PySem.F.objNew hC Xs.ns m1 (gd.old _ _ m2) m3 key
theorem nW(W:Ws c)(g:Gl c)(R:aL A (k+7)){p pos:Pos}{e:Expr}{ws:Str}(hk:O.kindOf "Whitespace"=some .globalImplicit)(he:Ev c A O ρ G e (.str ws))(ha:ws.cps.all (· <128)=true)(hw:ws.cps.size<=100000)
 (iC:starEach [e] O=[(false,eval e O)]:=by rfl):Ev c A O ρ G (.Call (.Name "Whitespace" p) [e] [] pos) (.obj (iH ws)):= .mk λE s V=>by
 refine mf W.cls λN mN X CV M1 _=>?_;refine wpAny_Call_NameR ((rr g.B (d:= .adr c.C) (p:=p) hk W.main (by exact rfl)).run V λv s₁ q Y=>?_);have r:=q.2;subst r;have z:starEach [e] O=(false,eval e O)::starEach [] O:=iC;refine callWith_cls X (wpAny_mono ((ae he ai z:oQ c A O ρ G [e] [.str ws]).run Y (Q:=λvs ay=>(∀b o,c.h₀.get? b=some o->ay.heap.get? b=some o)/\wpAny (model PW c.w) A (call (.ref c.C) vs) (cf c.w c.C G s (.obj (iH ws))) E ay) λvs ay J I D=>?_) (λ_ _ p=>p) λ_ _ e=>e) z rfl;refine⟨λb o e=>D.old b o e,?_⟩;have kk:=aQ q.1 J;exact wpAny_mono (Fn W g R ha hw E ay (grow G s ay) vs ⟨km V.sub kk,λa o e=> .inl (V.base a o e),D.toks⟩ (I.mono (eH q.1))) (λv bB p=>cf.trans kk p) λ_ _ e=>e
noncomputable def wc(ws:Str):List Int:=(eD ws).1
noncomputable def wb(ws:Str):Nat:=(eD ws).2.1
noncomputable def wn(ws:Str):Nat:=(eD ws).2.2.1
noncomputable def wt(ws:Str):Nat:=(eD ws).2.2.2
theorem Bm{cs:List Int}{b:Nat}{m:Int}(h:∀x∈cs,0<=x/\x<=m)(D:0<=m):∀x∈bump cs b,0<=x/\x<=m+1:=by
 unfold bump;have h':∀x∈(if cs.length<=b then cs++replicate (b-cs.length+1) 0 else cs),0<=x/\x<=m:=by
  split
  .intro x z;rcases de z with z|z
   .exact h x z
   .rw[List.eq_of_mem_replicate z];exact⟨Int.le_refl _,D⟩
  .exact h
 generalize (if cs.length<=b then cs++replicate (b-cs.length+1) 0 else cs)=ds at h';intro x z;rcases List.mem_or_eq_of_mem_set z with z|rfl
 .have:=h' x z;exact⟨ao 2687017000 [] [_] this.1,ao 801029403048 [] [_,_] this.2⟩
 .rw[getD_eq_getElem?_getD];cases e:ds[b]? with
  |none=>simp;exact ao 0xa028112a11128 [] [_] D
  |some y=>have:=h' y (mem_of_getElem? e);simp;exact⟨ao 0xa028112a1028 [] [_] this.1,ao 12225448 [] [_,_] this.2⟩
theorem qI:∀(r:List Nat)(cs:List Int)(b n z m:Nat),(∀x∈cs,0<=x/\x<=(m:Int))->cs.length<=m+1->b<=m->n<=m->z<=m->
 (∀x∈(scan r cs b n z).1,0<=x/\x<=(m+r.length:Nat))/\(scan r cs b n z).1.length<=m+r.length+1/\(scan r cs b n z).2.1<=m+r.length/\(scan r cs b n z).2.2.1<=m+r.length/\(scan r cs b n z).2.2.2<=m+r.length
 |[],cs,b,n,z,m,h1,h2,Y,J,I=>⟨h1,h2,Y,J,I⟩
 |ch::r,cs,b,n,z,m,h1,h2,Y,J,I=>by
  rw[za];split
  .have:=qI r cs (b+1) (n+1) z (m+1) (λx D=>by have:=h1 x D;exact⟨ao 2687017000 [] [_] this.1,ao 0xa7a8112a17a8 [_] [_] this.2⟩) (by exact ao 0x112b1a0112112b11a0 [_,_] [] h2) (by exact ao 0xba0112b1112a10 [_,_] [] Y) (by exact ao 0xba0112b1112a10 [_,_] [] J) (by exact ao 798881919392 [_,_] [] I);rw[show m+(ch::r).length=m+1+r.length from by simp;exact dG (aI 0xb112a11112b1a10 [_,_] []) (aI 77319451637358864 [_,_] [])];exact this
  .split
   .have:=qI r (bump cs b) 0 (n+1) (z+1) (m+1) (λx D=>by have:=Bm h1 (by exact aI 684072 [_] []) x D;exact⟨ao 2687017000 [] [_] this.1,ao 0x112a71a8112a17a8 [_] [_] this.2⟩) (Nat.le_succ_of_le (tQ h2 Y)) (by exact aI 287969312 [_] []) (by exact ao 0xba0112b1112a10 [_,_] [] J) (by exact ao 0xba0112b1112a10 [_,_] [] I);rw[show m+(ch::r).length=m+1+r.length from by simp;exact dG (aI 0xb112a11112b1a10 [_,_] []) (aI 77319451637358864 [_,_] [])];exact this
   .have hl:m<=m+(ch::r).length:=le_add_right _ _;exact⟨λx D=>by have:=h1 x D;exact⟨ao 2687017000 [] [_] this.1,ao 720090306472 [_,_] [_] this.2⟩,by dsimp only;exact ao 0x112b1a0112cb11a0 [_,_,_] [] h2,by dsimp only;exact ao 3121394080 [_,_,_] [] Y,by dsimp only;exact ao 3121394080 [_,_,_] [] J,by dsimp only;exact ao 3121394080 [_,_,_] [] I⟩
theorem yB{ws:Str}(D:ws.cps.size<=100000):(∀x∈wc ws,0<=x/\x<=100000)/\(wc ws).length<=100001/\wb ws<=100000/\wn ws<=100000/\wt ws<=100000:=by
 have h:=qI ws.cps.toList [] 0 0 0 0 (λx z=>nomatch z) (by simp) (by simp) (by simp) (by simp);have hl:ws.cps.toList.length<=100000:=by simpa using D
 refine ib h λh1 h2 Y J I=>?_;clear h;refine⟨λx z=>?_,?_,?_,?_,?_⟩
 .have:=h1 x z;exact⟨ao 2687017000 [] [_] this.1,aM 0x186a052a0a0217a8186a052a8 [_] [_] this.2 hl⟩
 .show(scan ws.cps.toList [] 0 0 0).1.length<=_;exact aM 0x186a052b0112b0211a0186a152a0 [_,_] [] h2 hl
 .show(scan ws.cps.toList [] 0 0 0).2.1<=_;exact aM 0x186a052b0b021a0186a052a0 [_,_] [] Y hl
 .show(scan ws.cps.toList [] 0 0 0).2.2.1<=_;exact aM 0x186a052b0b021a0186a052a0 [_,_] [] J hl
 .show(scan ws.cps.toList [] 0 0 0).2.2.2<=_;exact aM 0x186a052b0b021a0186a052a0 [_,_] [] I hl
noncomputable def fY(ws:Str):Int:=if(wb ws:Int)> (wc ws).length-1 then wb ws else(wc ws).length-1
noncomputable def fh(cs:List Int)(ts:Nat):Nat->Int
 |0=>0
 |j+1=>fh cs ts j+((ts+j)/ts:Nat)*cs.getD (ts+j) 0
theorem vV{cs:List Int}{ts:Nat}:fh cs ts 0=0:=rfl
theorem CP{cs:List Int}{ts j:Nat}:fh cs ts (j+1)=fh cs ts j+((ts+j)/ts:Nat)*cs.getD (ts+j) 0:=rfl
noncomputable def aP(ws:Str)(ts:Nat):Int:=wb ws+ts*(fh (wc ws) ts ((wc ws).length-ts)+wt ws)
theorem nH{cs:List Int}{ts:Nat}(h:∀x∈cs,0<=x/\x<=100000):∀j:Nat,ts+j<=100001->0<=fh cs ts j/\fh cs ts j<=j*10000100000
 |0,_=>⟨Int.le_refl _,by simp[vV]⟩
 |j+1,z=>by
  obtain⟨I,D⟩:=nH (ts:=ts) h j (by exact ao 0x186a152112b1a10186a152ba10 [_,_] [] z);have hc:0<=cs.getD (ts+j) 0/\cs.getD (ts+j) 0<=100000:=by
   rw[getD_eq_getElem?_getD];cases e:cs[ts+j]? with
   |none=>simp
   |some y=>exact h y (mem_of_getElem? e)
  have J:(((ts+j)/ts:Nat):Int)<=100001:=by have:(ts+j)/ts<=ts+j:=div_le_self _ _;exact aM 0x186a152112c1b10cb1a0186a152a78 [_,_,_] [] this z
  have Y:(0:Int)<=((ts+j)/ts:Nat):=natCast_nonneg _;simp only[CP];constructor
  .exact add_nonneg I (mul_nonneg Y hc.1)
  .have:(((ts+j)/ts:Nat):Int)*cs.getD (ts+j) 0<=100001*100000:=Int.mul_le_mul J hc.2 hc.1 (by decide);rw[natCast_add,add_mul];exact aM 0x186a052186a153b8a72540d6aa094a811272540d6aa094a72540d6aa0941ba18 [_] [_,_] D this
theorem qT{x:Int}(z:0<=x)(h:x<=10000000000000000000000):x.natAbs<big:=by
 have:x.natAbs<=10000000000000000000000:=by lia
 exact lt_of_le_of_lt this (by unfold big;decide+kernel)
theorem K5(ws:Str):iH ws=[.str ws,.int (wn ws:Nat),.int (wt ws:Nat),.tup [.tup ((wc ws).map .int),.int (wb ws:Nat)],.bool (decide ((wc ws).length<=1))]:=rfl
theorem Iv{xs:List Int}(h:xs.length<=4000000):Fz (.list (xs.map .int))=some (xs.length:Int):=by show(if sizeOk (xs.map D.int).length then some (((xs.map D.int).length:Nat):Int)else none)=_;rw[if_pos (aD (by rw[length_map];exact h)),length_map]
theorem pG{xs:List Int}(h:xs.length<=4000000):Fz (.tup (xs.map .int))=some (xs.length:Int):=by show(if sizeOk (xs.map D.int).length then some (((xs.map D.int).length:Nat):Int)else none)=_;rw[if_pos (aD (by rw[length_map];exact h)),length_map]
theorem uA(W:Ws c)(g:Gl c)(R:aL A 5){v:Value}(f:gi c v (fZ (bO 2)) (ak (bO 2)) (bp (bO 2)) "Whitespace.longest_run_of_spaces"){ws:Str}(I:ws.cps.size<=100000):
 Callee c A v [.obj (iH ws)] (.int (fY ws)):=by
 refine ib (yB I) λh1 J h3 h4 Y=>?_;refine br g.B R f rfl rfl rfl rfl (by decide) (by decide) (by decide) λA' L ad cd G E af s Q D z F=>?_;refine fv (d:= .tup [.tup ((wc ws).map .int),.int (wb ws:Nat)]) F (λG=>dN W (aa rfl) (by decide) rfl) (bU z (aA (au (.inl rfl) rfl) (aA (au (.inl rfl) rfl) bA)) rfl rfl) λU F=>?_;refine aK (d:= .int (fY ws)) F (λG=>?_) λv U F r=>D _ _ _ _ _ F r;exact aF g.B rfl (g.no _ (by decide)) boot_max (by decide) (.b _) (ae (ag (a:= .int (wc ws).length) (b:= .int 1) (aF g.B rfl (g.no _ (by decide)) boot_len (by decide) (.b _) (ae (aa (d:= .tup ((wc ws).map .int)) rfl) ai) rfl (gP (pG (by exact ao 0x186a152a03d090062a0 [_] [] J)))) aj rfl) (ae (aa (d:= .int (wb ws:Nat)) rfl) ai)) rfl (vh z)
theorem xu(W:Ws c)(g:Gl c)(R:aL A 5){v:Value}(f:gi c v (fZ (bO 3)) (ak (bO 3)) (bp (bO 3)) "Whitespace.indent_level"){ws:Str}{ts:Nat}(hw:ws.cps.size<=100000)(ht:0<ts)(J:ts<=100001):
 Callee c A v [.obj (iH ws),.int ts] (.int (aP ws ts)):=by
 refine ib (yB hw) λh1 Y h3 h4 h5=>?_;refine br g.B R f rfl rfl rfl rfl (by decide) (by decide) (by decide) λA' L ad cd G E af s Q kq R' F=>?_;refine fv (d:= .tup [.tup ((wc ws).map .int),.int (wb ws:Nat)]) F (λG=>dN W (aa rfl) (by decide) rfl) (bU R' (aA (au (.inl rfl) rfl) (aA (au (.inl rfl) rfl) bA)) rfl rfl) λU F=>?_;refine av (d:= .int 0) F (λG=>aj) (.inl rfl) rfl rfl λU F=>?_;have nK:(aJ (ts:Int) (wc ws).length).length=(wc ws).length-ts:=by simp[aJ]
 refine dK (λ_=>[]) F (λG=>dw g.B R'.handled rfl (g.no _ (by decide)) (aa rfl) (aF g.B rfl (g.no _ (by decide)) boot_len (by decide) (.b _) (ae (aa (d:= .tup ((wc ws).map .int)) rfl) ai) rfl (gP (pG (by exact ao 0x186a152a03d090062a0 [_] [] Y)))) rfl rfl (by exact aI 718301959560 [_] []) (by exact ao 0x186a152a03e2215112a718 [_] [] J) (by exact aI 718301959560 [_] []) (by exact ao 0x186a152a03e2215112a718 [_] [] Y)) (.inl rfl)
  (λi ρ=>ρ.lookup ("il":Str)=some (D.int (fh (wc ws) ts i))/\ρ.lookup ("self":Str)=some (D.obj (iH ws))/\ρ.lookup ("tabsize":Str)=some (D.int ts)/\ρ.lookup ("count":Str)=some (D.tup ((wc ws).map D.int))/\ρ.lookup ("trailing":Str)=some (D.int (wb ws:Nat)))
  ⟨rfl,rfl,rfl,rfl,rfl⟩ (λ_=>rfl) ?_ ?_
 .intro E' i d ρ s H' Q' kn kb kr hY hZ hb hd w9;refine ib w9 λq1 q2 q3 q4 q5=>?_;clear w9;intro F;obtain⟨hi,rfl⟩:i< (wc ws).length-ts/\d= .int (ts+i):=by have I:=(List.getElem?_eq_some_iff.mp hd).1;rw[nK]at I;refine⟨I,?_⟩;simp only[aJ,getElem?_map]at hd;refine aq (mA hd) λj Ag F8=>?_;rw[getElem?_range (by exact(le_total (ts) ((wc ws).length)).elim (λq0=>cU 0xb7d7e768edc10c112a10b112a10 [_,_,_,_,_] [] I (dE q0) uc) λq0=>aM 0x2c0c112a10b112a10 [_,_,_] [] I (EF q0))]at Ag;obtain rfl:=bg Ag;exact F8.symm
  have z:ts+i< (wc ws).length:=KV hi;obtain⟨b1,b2⟩:=nH (ts:=ts) h1 i (by exact aM 0x186a152c0c112ba110186a152ba10 [_,_,_] [] z Y);refine av (d:= .int (fh (wc ws) ts (i+1))) F (λG=>?_) (.inl rfl) rfl rfl λU F=>?_
  .refine ag (a:= .int (fh (wc ws) ts i)) (b:= .int (((ts+i)/ts:Nat)*(wc ws).getD (ts+i) 0)) (aa q1) (ag (a:= .int ((ts+i)/ts:Nat)) (b:= .int ((wc ws).getD (ts+i) 0)) (ag (a:= .int ((ts:Int)+i)) (b:= .int ts) (aa rfl) (aa q3) ?_) (aS (o:= .tup ((wc ws).map .int)) (i:= .int ((ts:Int)+i)) (aa q4) (aa rfl) ?_) ?_) rfl
   .rw[fT (dW (by exact oD (ao 0xa1120210a71120218 [_] [] ht)) ?_),fdiv_eq_ediv_of_nonneg _ (natCast_nonneg _)]
    .congr 2
    .rw[natAbs_natCast];exact lt_of_le_of_lt J (by decide+kernel)
   .have e:mK (.tup ((wc ws).map .int)) (.int ((ts:Int)+i))=((wc ws).map D.int)[ts+i]? :=by refine(EU (aI 3081179176 [_,_] []) (aM 0x186a152c0c112ba1103e2215112b7a7118 [_,_,_] [] z Y)).trans (congrArg (((wc ws).map D.int)[·]?) ?_);rfl
    rw[e,getElem?_map,getElem?_eq_getElem z,getD_eq_getElem?_getD,getElem?_eq_getElem z];rfl
   .have hc:0<=(wc ws).getD (ts+i) 0/\(wc ws).getD (ts+i) 0<=100000:=by rw[getD_eq_getElem?_getD,getElem?_eq_getElem z];exact h1 _ (getElem_mem z)
    have hd2:(ts+i)/ts<=ts+i:=div_le_self _ _;exact dp (bh (qT (natCast_nonneg _) (by exact cU 0x186a152d0d112cb110cb1a0174876e800a2174876e800a3a78 [_,_,_,_] [] hd2 z Y)) (qT hc.1 (by exact ao 0x186a052a8174876e800a2174876e800a3a8 [] [_] hc.2)))
  refine wpAny_execs_nil (kn _ _ ⟨?_,?_,?_,?_,?_⟩ F)
  .rfl
  .exact q2
  .exact q3
  .exact q4
  .exact q5
 .intro ρ s w9;refine ib w9 λq1 q2 q3 q4 q5=>?_;clear w9;intro F;rw[nK]at q1;obtain⟨b1,b2⟩:0<=fh (wc ws) ts ((wc ws).length-ts)/\fh (wc ws) ts ((wc ws).length-ts)<=1000110001000100000:=by
   rcases lt_or_ge ts (wc ws).length with h|h
   .obtain⟨b1,b2⟩:=nH (ts:=ts) h1 ((wc ws).length-ts) (by exact aM 0x186a152c0cab10186a152ba10 [_,_,_] [] (dE (ao 760521755552 [_,_] [] h)) Y);exact⟨b1,by exact cU 0x186a1522540d6aa093b2540d6aa0930b2540d6aa093a2540d6aa0930a72540d6aa094a8de11abf41ed30a0f2a8 [_,_] [_] b2 (mul_le_mul_left 10000100000 qx) (mul_le_mul_left 10000100000 Y)⟩
   .rw[Nat.sub_eq_zero_of_le h];exact⟨Int.le_refl _,by simp[vV]⟩
  refine aK (d:= .int (aP ws ts)) F (λG=>?_) λv U F r=>kq _ _ _ _ _ F r;refine ag (a:= .int (wb ws:Nat)) (b:= .int (ts*(fh (wc ws) ts ((wc ws).length-ts)+wt ws))) (aa q5) (ag (a:= .int ts) (b:= .int (fh (wc ws) ts ((wc ws).length-ts)+wt ws)) (aa q3) (ag (a:= .int (fh (wc ws) ts ((wc ws).length-ts))) (b:= .int (wt ws:Nat)) (aa q1) (dN W (aa q2) (by decide) rfl) rfl) ?_) rfl;exact dp (bh (qT (natCast_nonneg _) (by exact ao 0x186a152a0174876e800a2174876e800a3a78 [_] [] J)) (qT (by exact ao 0xa028a7a1028 [_] [_] b1) (by exact aM 0x186a052a0de11abf41ed30a0f2a8174876e800a2174876e800a3a7a18 [_] [_] b2 h5)))
noncomputable def eX(a b:Str):Nat:=((if fY b>fY a then fY b else fY a)+1).toNat
noncomputable def fD(a b:Str):Nat->List (List Int)
 |0=>[]
 |i+1=>if aP a (i+1)=aP b (i+1)then fD a b i else fD a b i++[[((i+1:Nat):Int),aP a (i+1),aP b (i+1)]]
theorem jD{a b:Str}{i:Nat}:fD a b (i+1)=if aP a (i+1)=aP b (i+1)then fD a b i else fD a b i++[[((i+1:Nat):Int),aP a (i+1),aP b (i+1)]]:=rfl
noncomputable def fL(a b:Str):Nat->Bool
 |0=>true
 |i+1=>fL a b i&&decide (aP a (i+2)<aP b (i+2))
theorem nA{a b:Str}{i:Nat}:fL a b (i+1)=(fL a b i&&decide (aP a (i+2)<aP b (i+2))):=rfl
noncomputable def gu(a b:Str):Bool:=if wn a>=wn b then false else if(wc a).length<=1/\(wc b).length<=1 then decide (wt a<=wt b)else fL a b (eX a b-1)
theorem lM{a b:Str}:∀{i j:Nat},i<=j->fL a b j=true->fL a b i=true
 |i,0,h,z=>by rw[Nat.le_zero.mp h];exact z
 |i,j+1,h,z=>by
  rcases lt_or_ge i (j+1)with D|D
  .simp only[nA,and_eq_true]at z;exact lM (Nat.lt_succ_iff.mp D) z.1
  .rw[Nat.le_antisymm h D];exact z
theorem oT{a b:Str}:∀{i:Nat},(fD a b i).length<=i
 |0=>le_refl _
 |i+1=>by
  have:=oT (a:=a) (b:=b) (i:=i);rw[jD];split
  .exact ao 798881919392 [_,_] [] this
  .rw[length_append];simp;exact ao 12192672 [_,_] [] this
noncomputable def o9:List Int->List Int->Bool
 |x::xs,y::ys=>(x==y)&&o9 xs ys
 |_,_=>true
theorem qM{x y:Int}{xs ys:List Int}:o9 (x::xs) (y::ys)=((x==y)&&o9 xs ys):=rfl
theorem rt{n:Nat}{x y:Int}:pT (n+1) (.int x) (.int y)=some (x==y):=rfl
theorem wq{n:Nat}{xs ys:List D}:pT (n+1) (.tup xs) (.tup ys)=(dB (pT n) xs ys).map (· &&xs.length==ys.length):=rfl
theorem fC{n:Nat}:∀{xs ys:List Int},dB (pT (n+1)) (xs.map .int) (ys.map .int)=some (o9 xs ys)
 |[],ys=>rfl
 |x::xs,[]=>rfl
 |x::xs,y::ys=>by simp only[map_cons,jj,ji,rt,fC,qM,Option.bind_some,map_some]
theorem kP:∀{xs ys:List Int},(o9 xs ys&&xs.length==ys.length)=(xs==ys)
 |[],[]=>rfl
 |[],y::ys=>rfl
 |x::xs,[]=>rfl
 |x::xs,y::ys=>by have z:=kP (xs:=xs) (ys:=ys);simp only[qM,length_cons,List.cons_beq_cons];rw[<-z,Bool.and_assoc];congr 2;rw[Bool.eq_iff_iff];simp
noncomputable def kU(a b:Str):Bool:=(wc a==wc b)&&((wb a:Int)==(wb b:Int))
theorem eq_norm{a b:Str}:ij .Eq (.tup [.tup ((wc a).map .int),.int (wb a:Nat)]) (.tup [.tup ((wc b).map .int),.int (wb b:Nat)])=some (kU a b):=by simp only[wF,jj,ji,rt,wq,Option.bind_some,map_some,fC,length_map,kP,Bool.and_true];simp[kU]
theorem zA(W:Ws c)(g:Gl c)(R:aL A 5){v:Value}(f:gi c v (fZ (bO 4)) (ak (bO 4)) (bp (bO 4)) "Whitespace.equal"){a b:Str}:Callee c A v [.obj (iH a),.obj (iH b)] (.bool (kU a b)):=by refine br g.B R f rfl rfl rfl rfl (by decide) (by decide) (by decide) λJ L ad I G E af s Q z D F=>?_;exact aK (d:= .bool (kU a b)) F (λG=>ia g.B D (dN W (xs:=iH a) (aa rfl) (by decide) rfl) (dN W (xs:=iH b) (aa rfl) (by decide) rfl) eq_norm) λv U F r=>z _ _ _ _ _ F r
theorem zb{ws:Str}(z:ws.cps.size<=100000):0<=fY ws/\fY ws<=100000:=by
 refine ib (yB z) λh1 I D Y J=>?_;unfold fY;split
 .exact⟨natCast_nonneg _,ofNat_le.mpr D⟩
 .next h=>exact⟨Int.le_trans (natCast_nonneg _) (not_lt.mp h),Int.sub_le_sub_right (ofNat_le.mpr I) 1⟩
theorem yE{a b:Str}(ha:a.cps.size<=100000)(hb:b.cps.size<=100000):((eX a b:Nat):Int)=(if fY b>fY a then fY b else fY a)+1/\1<=eX a b/\eX a b<=100001:=by
 have D:=zb ha;have z:=zb hb;unfold eX;split
 .exact N1 z
 .exact N1 D
theorem mq(W:Ws c)(g:Gl c)(R:aL A 5){x:Str}{p z pos:Pos}{a:Str}(J:ρ.lookup x=some (.obj (iH a)))(ha:a.cps.size<=100000)(Y:(x==("__debug__":Str))=false)
 (I:attributeBase (.Name x p) "longest_run_of_spaces" O (eval (.Name x p) O)=eval (.Name x p) O)(D:(z.endLine==pos.line)=true):
 Ev c A O ρ G (.Call (.Attribute (.Name x p) "longest_run_of_spaces" z) [] [] pos) (.int (fY a)):=
 fQ W (i:=2) (qn:="Whitespace.longest_run_of_spaces") (aa J Y) (by decide) (λN mN X no h=>h.2.1) ai rfl (λv f=>uA W g R f ha) I rfl D
theorem jr(W:Ws c)(g:Gl c)(R:aL A 5){x y:Str}{p p2 z pos:Pos}{a:Str}{ts:Nat}(hx:ρ.lookup x=some (.obj (iH a)))(hy:ρ.lookup y=some (.int ts))(ha:a.cps.size<=100000)(ht:0<ts)(J:ts<=100001)(hd:(x==("__debug__":Str))=false)(Y:(y==("__debug__":Str))=false)
 (I:attributeBase (.Name x p) "indent_level" O (eval (.Name x p) O)=eval (.Name x p) O)(D:(z.endLine==pos.line)=true):
 Ev c A O ρ G (.Call (.Attribute (.Name x p) "indent_level" z) [.Name y p2] [] pos) (.int (aP a ts)):=
 fQ W (i:=3) (qn:="Whitespace.indent_level") (aa hx hd) (by decide) (λN mN X no h=>h.2.2.1) (ae (aa hy Y) ai) rfl (λv f=>xu W g R f ha ht J) I rfl D
theorem ni(W:Ws c)(g:Gl c)(R:aL A 10){v:Value}(f:gi c v (fZ (bO 5)) (ak (bO 5)) (bp (bO 5)) "Whitespace.not_equal_witness"){a b:Str}(ha:a.cps.size<=100000)(hb:b.cps.size<=100000):
 Callee c A v [.obj (iH a),.obj (iH b)] (.list ((fD a b (eX a b)).map λr=> .tup (r.map .int))):=by
 refine eJ (yE ha hb) λw1 w2 w3=>?_;refine br g.B R f rfl rfl rfl rfl (by decide) (by decide) (by decide) λA' L ad cd G E af s Q kq Y F=>?_;refine av (d:= .int (eX a b:Nat)) F (λG=>?_) (.inl rfl) rfl rfl λU F=>?_
 .rw[w1];exact ag (a:= .int (if fY b>fY a then fY b else fY a)) (b:= .int 1) (aF g.B rfl (g.no _ (by decide)) boot_max (by decide) (.b _) (ae (mq W g (Y.le (by decide)) (a:=a) rfl ha (by decide) rfl rfl) (ae (mq W g (Y.le (by decide)) (a:=b) rfl hb (by decide) rfl rfl) ai)) rfl (vh Y)) aj rfl
 refine iS (od:= .lst ((fD a b 0).map λr=> .tup (r.map .int))) F (λG=>je ai) (.inl rfl) rfl rfl λal U vZ F=>?_;have nK:(aJ (1:Int) ((eX a b:Nat)+1)).length=eX a b:=by simp[aJ]
 refine dK (λi=>[(("a":Str),al,OD.lst ((fD a b i).map λr=> .tup (r.map .int)))]) F (λG=>dw (a:=1) (b:=(eX a b:Nat)+1) g.B Y.handled rfl (g.no _ (by decide)) aj (ag (a:= .int (eX a b:Nat)) (b:= .int 1) (aa rfl) aj rfl) rfl rfl (by exact aI 1177863460232 [] []) (by exact aI 0x3e221511211218 [] []) (by exact aI 4831740466173320 [_] []) (by exact ao 0x186a152a03e2215112112a7118 [_] [] w3)) (.inl rfl)
  (λi ρ=>ρ.lookup ("self":Str)=some (D.obj (iH a))/\ρ.lookup ("other":Str)=some (D.obj (iH b))/\ρ.lookup ("a":Str)=some (D.adr al))
  ⟨rfl,rfl,rfl⟩ (λ_=>rfl) ?_ ?_
 .intro E' i d ρ s H' Q' kn kb kr hY hZ Jp hd w9;refine eJ w9 λq1 q2 q3=>?_;clear w9;intro F;obtain⟨hi,rfl⟩:i<eX a b/\d= .int (i+1:Nat):=by have J:=(List.getElem?_eq_some_iff.mp hd).1;rw[nK]at J;refine⟨J,?_⟩;simp only[aJ,getElem?_map]at hd;refine aq (mA hd) λj Ag F8=>?_;rw[getElem?_range (by exact aM 0xb7112112c7168c112a10b112a10 [_,_,_] [] J uc)]at Ag;obtain rfl:=bg Ag;rw[<-F8];congr 1;exact dq (aI 301959729975832 [_] []) (aI 0xa71121112a178 [_] [])
  have e1:∀{G:PH}{bP:List (Str×D)}{p p2 z pos:Pos},bP.lookup ("self":Str)=some (D.obj (iH a))->bP.lookup ("ts":Str)=some (.int (i+1:Nat))->(z.endLine==pos.line)=true->Ev c A' (bG (ak (bO 5)) "Whitespace.not_equal_witness" L ad cd) bP G (.Call (.Attribute (.Name "self" p) "indent_level" z) [.Name "ts" p2] [] pos) (.int (aP a (i+1))):=
   λh1 h2 hl=>jr W g (Y.le (by decide)) h1 h2 ha (by exact aI 18872372691472 [_] []) (by exact aM 0x186a152b0b112a10186a152112a10 [_,_] [] hi w3) (by decide) (by decide) rfl hl
  have e2:∀{G:PH}{bP:List (Str×D)}{p p2 z pos:Pos},bP.lookup ("other":Str)=some (D.obj (iH b))->bP.lookup ("ts":Str)=some (.int (i+1:Nat))->(z.endLine==pos.line)=true->Ev c A' (bG (ak (bO 5)) "Whitespace.not_equal_witness" L ad cd) bP G (.Call (.Attribute (.Name "other" p) "indent_level" z) [.Name "ts" p2] [] pos) (.int (aP b (i+1))):=
   λh1 h2 hl=>jr W g (Y.le (by decide)) h1 h2 hb (by exact aI 18872372691472 [_] []) (by exact aM 0x186a152b0b112a10186a152112a10 [_,_] [] hi w3) (by decide) (by decide) rfl hl
  refine bK F (b:= !(aP a (i+1)==aP b (i+1))) (λG=>aC g.B Y (e1 q1 rfl rfl) (e2 q2 rfl rfl) rfl) λU F=>?_;by_cases I:aP a (i+1)=aP b (i+1)
  .rw[show(aP a (i+1)==aP b (i+1))=true from by simpa using I];refine wpAny_execs_nil (wpAny_execs_nil (kn _ _ ?_ (F.ow ?_)))
   .exact⟨q1,q2,q3⟩
   rw[jD,if_pos I]
  .rw[show(aP a (i+1)==aP b (i+1))=false from by simpa using I];refine jm (d:= .tup ([((i+1:Nat):Int),aP a (i+1),aP b (i+1)].map .int)) F (λG=>bb (ae (aa rfl) (ae (e1 q1 rfl rfl) (ae (e2 q2 rfl rfl) ai)))) rfl (aD (by rw[length_map];have:=oT (a:=a) (b:=b) (i:=i);exact cU 0x186a152c0c112b10ba03d090062a0 [_,_,_] [] this hi w3)) (λU F=>?_) rfl rfl rfl rfl rfl rfl
   refine wpAny_execs_nil (wpAny_execs_nil (kn _ _ ?_ (F.ow ?_)))
   .exact⟨q1,q2,q3⟩
   rw[jD,if_neg I,map_append];rfl
 .intro ρ s w9;refine eJ w9 λq1 q2 q3=>?_;clear w9;intro F;rw[nK]at F;have F:=F.freeze ["a"] (by simpa using q3);exact aK (d:= .list ((fD a b (eX a b)).map λr=> .tup (r.map .int))) F (λG=>aa rfl) λv U F r=>kq _ _ _ _ _ F r
theorem vL(W:Ws c)(g:Gl c)(R:aL A 10){v:Value}(f:gi c v (fZ (bO 6)) (ak (bO 6)) (bp (bO 6)) "Whitespace.less"){a b:Str}(ha:a.cps.size<=100000)(hb:b.cps.size<=100000):
 Callee c A v [.obj (iH a),.obj (iH b)] (.bool (gu a b)):=by
 refine eJ (yE ha hb) λw1 w2 w3=>?_;refine br g.B R f rfl rfl rfl rfl (by decide) (by decide) (by decide) λA' L ad cd G E af s Q kq J F=>?_;refine bK F (b:=decide ((wn a:Int)>=(wn b:Nat))) (λG=>aC g.B J (dN W (xs:=iH a) (aa rfl) (by decide) rfl) (dN W (xs:=iH b) (aa rfl) (by decide) rfl) rfl) λU F=>?_;by_cases hn:wn a>=wn b
 .rw[decide_eq_true (by exact ao 3121314424 [_,_] [] hn)];exact aK (d:= .bool (gu a b)) F (λG=>aB mr (by unfold gu;rw[if_pos hn])) λv U F r=>kq _ _ _ _ _ F r
 rw[decide_eq_false (by exact G8 (ao 0xb112a10b7112a718 [_,_] [] (NZ hn)))];refine wpAny_execs_nil ?_;refine bK F (b:=decide ((wc a).length<=1/\(wc b).length<=1)) (λG=>?_) λU F=>?_
 .by_cases h1:(wc a).length<=1
  .refine rU (gU (dN W (xs:=iH a) (d:= .bool (decide ((wc a).length<=1))) (aa rfl) (by decide) rfl) (by rw[decide_eq_true h1];rfl)) (gU (dN W (xs:=iH b) (d:= .bool (decide ((wc b).length<=1))) (aa rfl) (by decide) rfl) ?_);show some _=some _;congr 1;rw[Bool.eq_iff_iff];simp[h1]
  .rw[decide_eq_false (λh=>h1 h.1)];exact rV (gU (dN W (xs:=iH a) (d:= .bool (decide ((wc a).length<=1))) (aa rfl) (by decide) rfl) (by rw[decide_eq_false h1];rfl))
 by_cases h2:(wc a).length<=1/\(wc b).length<=1
 .rw[decide_eq_true h2];refine aK (d:= .bool (gu a b)) F (λG=>aB (ia g.B J (dN W (xs:=iH a) (d:= .int (wt a:Nat)) (aa rfl) (by decide) rfl) (dN W (xs:=iH b) (d:= .int (wt b:Nat)) (aa rfl) (by decide) rfl) (t:=decide ((wt a:Int)<=(wt b:Nat))) rfl) ?_) λv U F r=>kq _ _ _ _ _ F r;unfold gu;rw[if_neg hn,if_pos h2];congr 1;rw[Bool.eq_iff_iff];simp
 rw[decide_eq_false h2];refine wpAny_execs_nil ?_;have Af:gu a b=fL a b (eX a b-1):=by unfold gu;rw[if_neg hn,if_neg h2]
 refine av (d:= .int (eX a b:Nat)) F (λG=>?_) (.inl rfl) rfl rfl λU F=>?_
 .rw[w1];exact ag (a:= .int (if fY b>fY a then fY b else fY a)) (b:= .int 1) (aF g.B rfl (g.no _ (by decide)) boot_max (by decide) (.b _) (ae (mq W g (J.le (by decide)) (a:=a) rfl ha (by decide) rfl rfl) (ae (mq W g (J.le (by decide)) (a:=b) rfl hb (by decide) rfl rfl) ai)) rfl (vh J)) aj rfl
 have nK:(aJ (2:Int) ((eX a b:Nat)+1)).length=eX a b-1:=by simp[aJ];exact dG (aM 0x112b1c0212112c716a78ba0 [_,_,_] [] (rP (ao 0xa1120212112a716028 [_] [] w2)) eC) (aM 0xb7212112c7168c112a10ba0 [_,_,_] [] (dE (ao 691792384288 [_] [] w2)) uc)
 refine dK (λ_=>[]) F (λG=>dw (a:=2) (b:=(eX a b:Nat)+1) g.B J.handled rfl (g.no _ (by decide)) aj (ag (a:= .int (eX a b:Nat)) (b:= .int 1) (aa rfl) aj rfl) rfl rfl (by exact aI 2277375088008 [] []) (by exact aI 0x3e221511221218 [] []) (by exact aI 4831740466173320 [_] []) (by exact ao 0x186a152a03e2215112112a7118 [_] [] w3)) (.inl rfl)
  (λi ρ=>fL a b i=true/\ρ.lookup ("self":Str)=some (D.obj (iH a))/\ρ.lookup ("other":Str)=some (D.obj (iH b)))
  ⟨rfl,rfl,rfl⟩ (λ_=>rfl) ?_ ?_
 .intro E' i d ρ s H' Q' kn kb kr hY hZ Jp hd w9;refine eJ w9 λq0 q1 q2=>?_;clear w9;intro F;obtain⟨hi,rfl⟩:i<eX a b-1/\d= .int (i+2:Nat):=by have Y:=(List.getElem?_eq_some_iff.mp hd).1;rw[nK]at Y;refine⟨Y,?_⟩;simp only[aJ,getElem?_map]at hd;refine aq (mA hd) λj Ag F8=>?_;rw[getElem?_range (by exact cU 0xb7212112d7168d112c10c112a10b112a10 [_,_,_,_] [] Y (dE (ao 691792384288 [_] [] w2)) uc)]at Ag;obtain rfl:=bg Ag;rw[<-F8];congr 1;exact dq (aI 583434706752024 [_] []) (aI 0xa72121212a178 [_] [])
  refine bK F (b:=decide (aP a (i+2)>=aP b (i+2))) (λG=>aC g.B J (jr W g (J.le (by decide)) (a:=a) (ts:=i+2) q1 rfl ha (by exact aI 36464558735888 [_] []) (by exact cU 0x186a152c0c112b10b112a10186a152212a10 [_,_,_] [] hi (dE (ao 691792384288 [_] [] w2)) w3) (by decide) (by decide) rfl rfl) (jr W g (J.le (by decide)) (a:=b) (ts:=i+2) q2 rfl hb (by exact aI 36464558735888 [_] []) (by exact cU 0x186a152c0c112b10b112a10186a152212a10 [_,_,_] [] hi (dE (ao 691792384288 [_] [] w2)) w3) (by decide) (by decide) rfl rfl) rfl) λU F=>?_;by_cases I:aP a (i+2)>=aP b (i+2)
  .rw[decide_eq_true I];have z:gu a b=false:=by
    rw[Af];cases e:fL a b (eX a b-1)with
    |false=>rfl
    |true=>have:=lM (i:=i+1) (by exact ao 0xb112a10b112a10 [_,_] [] hi) e;simp only[nA,and_eq_true,decide_eq_true_eq]at this;exact absurd I (not_le.mpr this.2)
   exact aK (d:= .bool (gu a b)) F (λG=>aB mr (by rw[z])) λv U F r=>kr _ _ (kq _ _ _ _ _ (Jp _ _ _ F) (by rw[z]at r⊢;show _=_;exact r))
  .rw[decide_eq_false I];refine wpAny_execs_nil (wpAny_execs_nil (kn _ _ ⟨?_,?_,?_⟩ F))
   .simp only[nA,q0,Bool.true_and,decide_eq_true_eq];exact ao 0xb112a18b112a18 [] [_,_] (J9 I)
   .exact q1
   .exact q2
 .intro ρ s w9;refine eJ w9 λq0 q1 q2=>?_;clear w9;intro F;rw[nK]at q0;exact aK (d:= .bool (gu a b)) F (λG=>aB mr (by rw[Af,q0])) λv U F r=>kq _ _ _ _ _ F r
theorem Fs.BX(F:Fs c ah af H O ρ own s){y:Str}{py:Pos}{scope:Scope}{J:Env}{Pc:List (Str×D)}{Q:Shared->Prop}(hy:O.kindOf y=some .local)(ho:own.all (λe=> !(e.1==y))=true)
 (yw:s.heap.get? C=none)(C8:Dn≠C)(hL:J.locals=C)(F':Fs c (aX ah af H.X s) s (oh scope Dn C) J Pc [] U)(a':Acc c (aX ah af H.X s) s (oh scope Dn C) Dn out U)(tk:s.toks<=U.toks)
 (kk:∀U,Fs c ah af H O ((y,.list out)::ρ) own U->Q U):
 wpAny (model PW c.w) A (assign (.Name y py) O (.ref Dn)) (λ_ cP=>∃m,cP.heap.Ns C m/\∀h',Heap.SameBut C cP.heap h'->Q {cP with heap:=h'}) E U:=by
 have kp:Keeps s U:=⟨U.heap,U.toks,F'.rest,F'.old⟩;have Y:∀b∈[C],s.heap.get? b=none:=λb hb=>by rw[gj hb];exact yw
 obtain⟨m,hm⟩:=F'.frame.2;rw[hL]at hm;have Rd:∃o,U.heap.get? C=some o:=let⟨o,_,_,e,_⟩:=hm;⟨o,e⟩;have z0:=F.z0 Y
 have F1:=F.iter (wr:=[C]) (fp:=[C]) (St:=λ_ h=>∃o,h.get? C=some o) (i:=0) (λb hb=>hb) kp tk Rd (λi h st b hb=>by rw[gj hb];exact st)
  (λi h h' st k=>let⟨o,e⟩:=st;⟨o,k C (.head _) o e⟩) (λb hb=> .inr (Y b hb)) Y
 have BN:s.heap.get? Dn=none:=F'.new _ (.tail _ (.head _));have z:∀b,s.heap.get? b=none->b∉H.X:=λb e hm=>by obtain⟨o,e'⟩:=F.ex b hm;rw[e]at e';exact ns e'
 have I:∀b,s.heap.get? b=none->af.heap.get? b=none:=λb e=>by exact oN λo q=>Lw.sn ((F.old b o q).symm.trans e)
 refine cC a'.obj λvs n QB l=>?_;have rep:Rep c.w c.C (aX ah af ([C]++H.X) U) (.list out) (.ref Dn):=by
  show ∃_,_;refine⟨Dn,vs,n,rfl,.inr ⟨QB,I _ BN,λhm=>?_⟩,l.mono ?_⟩
  .rcases de hm with hm|hm
   .exact C8 (gj hm)
   .exact z _ BN hm
  .rintro a o (h|⟨h1,h2,h3⟩)
   .rcases h with h|⟨h1,h2,h3⟩
    .exact .inl h
    .refine .inr ⟨dH kp _ _ h1,h2,λhm=>?_⟩;rcases de hm with hm|hm
     .rw[gj hm,yw]at h1;exact ns h1
     .exact h3 hm
   .refine .inr ⟨h1,I _ h2,λhm=>?_⟩;rcases de hm with hm|hm
    .exact h3 (by rw[gj hm];exact .head _)
    .exact z _ h2 hm
 refine wpAny_assign_Name (F1.gy (.inl hy) rep ho λbB F3 keep=>?_);have Jt:C∉H.Z:=λhm=>z C yw (F.zx C hm);refine⟨m,hm.at' λo e=>keep C o Jt e,λh' sb=>?_⟩;have F4:=Fs.over z0 F3 (h':=h') (tk':=bB.toks) (λb o hb e=>(sb.2 b (λq=>hb (by rw[q];exact .head _))).trans e) (le_refl _);exact kk _ F4
theorem jl{y:Str}{elt iter z:Expr}{ifs:List Expr}{scope:Scope}{py J pos:Pos}{ds:List D}(p:D->Bool)(g:D->D)(ρd:D->List (Str×D)){rest:List Stmt}{Q:Flow->Shared->Prop}(F:Fs c ah af H O ρ own s)
 (hi:∀G,tZ c A O ρ G iter ds)(hy:O.kindOf y=some .local)(ho:own.all (λe=> !(e.1==y))=true)
 (LP:swapsWith (.ListComp elt [⟨z,iter,ifs,0⟩] scope J) (some (.Name y py)) pos.line O=pure true)
 (hclos:closureFor scope O=pure (f9 scope O))(hkind:scope.kind= .function)(hnames:∀y∈scope.names,y.2= .local->scope.names.lookup y.1=some .local)(hY:∀y∈cw scope,scope.names.lookup y=some .cell)
 (hs:∀x,foldedSetIterable iter O x=pure x)
 (ha:∀C H d,H.Y=cw scope->d∈ds->wQ c A H (bE scope O C) [] z d (bo scope O ρ) (ρd d))
 (hback:∀d∈ds,∀x e,(bo scope O ρ).lookup x=some e->(ρd d).lookup x=some e)
 (ht:∀C G d,d∈ds->tW c A (bE scope O C) (ρd d) G ifs (p d))
 (he:∀C G d,d∈ds->p d=true->Ev c A (bE scope O C) (ρd d) G elt (g d))(hlen:ds.length<=4000000)
 (kk:∀U,Fs c ah af H O ((y,.list ((ds.filter p).map g))::ρ) own U->wpAny (model PW c.w) A (execs rest O) Q E U):
 wpAny (model PW c.w) A (execs (.Assign [.Name y py] (.ListComp elt [⟨z,iter,ifs,0⟩] scope J) pos::rest) O) Q E s:=by
 refine wpAny_execs_cons ?_;rw[exec_Assign_Name_used _ _ _ _ LP];refine wpAny_bind (wpAny_standAt (wpAny_bind ?_));show wpAny _ A (do let _<-comprehension (.ListComp elt [⟨z,iter,ifs,0⟩] scope J) scope O _ (newList []) false (eval iter O) (some (assign (.Name y py) O))) _ _ s;refine wpAny_bind (wpAny_mono (Q:=λ_ U=>wpAny (model PW c.w) A (execs rest O) Q E U) ?_ (λ_ U hq=>wpAny_pure (wpAny_pure hq)) λ_ _ e=>e)
 refine tH (f:=λd=>if p d=true then [g d]else []) (λjv Dn Q E s=>wpAny (model PW c.w) A (eval elt jv) (λx fX=>wpAny (model PW c.w) A (call (.builtin "list.append") [.ref Dn,x]) (λ_ jY=>Q jY) E fX) E s) [] rfl F.view (hi _) hclos hkind hnames hY hs
  (λe D Q Q' E s h hq=>wpAny_mono hq (λ_ _ h'=>wpAny_mono h' (λ_ _ q=>h _ q) λ_ _ e=>e) λ_ _ e=>e)
  (λjv I Dn Q E s _ h=>iK (fm elt z iter ifs scope J (.ref I) (.ref Dn) jv) h) ?_ ?_ ?_
 .intro ah af C Dn E' d v s H' out ho BL hd F r a;refine wpAny_mono (ha C H' d BL hd ah af E' s v F r) (λ_ ay gL=>?_) λ_ _ e=>e;obtain⟨F2,hk⟩:=gL;have a2:=a.xn F hk;refine wpAny_mono (wpAny_toks ((ht C _ d hd).1 E' ay F2.view)) (λok bB jc=>?_) λ_ _ e=>e.2;obtain⟨tk,rfl,kp⟩:=jc;have F3:=F2.keeps kp tk;have a3:=a2.keeps F2 kp;cases hp:p d with
  |false=>rw[if_neg Bool.false_ne_true,if_neg Bool.false_ne_true,append_nil];exact⟨F3.less (hback d hd) (λ_ h=>h),a3⟩
  |true=>rw[if_pos rfl,if_pos rfl];refine wpAny_mono (wpAny_toks ((he C _ d hd hp).1 E' bB F3.view)) (λx fX q=>?_) λ_ _ e=>e.2;have F5:=F3.keeps q.2.1 q.1;have a5:=a3.keeps F3 q.2.1;exact a5.push F5 (F3.up q.2) (aD (by rw[length_append]at ho;exact ao 0x3d090062ba103d090062a0 [_,_] [] ho)) (λu qD F6 a6=>⟨F6.less (hback d hd) (λ_ h=>h),a6⟩)
 .rw[bW ds,length_map];exact le_trans (length_filter_le _ _) hlen
 .intro Dn C U yw C8 F' a' tk;rw[bW ds]at a';exact F.BX (Q:=λU=>wpAny (model PW c.w) A (execs rest O) Q E U) hy ho yw C8 rfl F' a' tk kk
noncomputable def tx(l:List Nat):Str:=⟨l.toArray⟩
theorem yJ{a b:List Nat}:tx a++tx b=tx (a++b):=by show Str.append _ _=_;simp[Str.append,tx]
theorem df{a:List Nat}:(tx a).length=a.length:=by simp[tx,Str.length]
theorem jF{a:List Nat}:(tx a).cps.all (· <128)=a.all (· <128):=by simp[tx]
theorem foldl_rep{x:Array Nat}:∀(n:Nat)(acc:Array Nat),(replicate n x).foldl (· ++ ·) acc=acc++((replicate n x.toList).flatten).toArray
 |0,acc=>by simp
 |n+1,acc=>by rw[replicate_succ,foldl_cons,foldl_rep n,replicate_succ,flatten_cons];exact Array.toList_inj.mp (by simp)
theorem xx{n:Nat}:Txt.mul (tx [32]) (n:Int)=tx (replicate n 32):=by
 unfold Txt.mul;split
 .have:n=0:=by lia
  subst this;rfl
 .split
  .rename_i I z;have:n=1:=by have D:(tx [32]).length=1:=rfl;rw[D]at z;simp at z;exact dG (ao 1179631293088 [_] [] (t7 z)) (ao 0xa71128a1120 [_] [] (rQ z))
   subst this;rfl
  .rw[toNat_natCast,foldl_rep];simp[tx]
theorem nO{g:Array Nat}(hg:g= #[]):∀(ys:List Str)(acc:Array Nat),ys.foldl (λacc p=>acc++g++p.cps) acc=acc++((ys.map λy=>y.cps.toList).flatten).toArray
 |[],acc=>by simp
 |y::ys,acc=>by rw[foldl_cons,nO hg ys,map_cons,flatten_cons,hg];exact Array.toList_inj.mp (by simp)
theorem vR{ls:List (List Nat)}:Txt.join "" (ls.map tx)=tx ls.flatten:=by
 show Builtin.Str.glued _ _=_;unfold Builtin.Str.glued;have:("":Str).cps= #[]:=rfl;cases ls with
 |nil=>rfl
 |cons l ls=>
  simp only[map_cons,List.headD_cons,List.drop_succ_cons,drop_zero];rw[nO this];rw[map_map];have e:((λy:Str=>y.cps.toList)∘tx)=id:=by funext y;simp[tx]
  rw[e,map_id,flatten_cons];simp[tx]
theorem IF{ls:List Str}:Txt.join "" ls=tx ((ls.map λy=>y.cps.toList).flatten):=by
 have h:=vR (ls:=ls.map λy=>y.cps.toList);rw[map_map]at h;have e:(tx∘λy:Str=>y.cps.toList)=id:=by funext y;simp[tx]
 rw[e,map_id]at h;exact h
theorem cX{α:Type}{xs:List α}{a:Nat}:∀n:Nat,((range n).map (a+ ·)).filterMap (xs[·]?)=(xs.drop a).take n
 |0=>by simp
 |n+1=>by rw[List.range_succ,map_append,List.filterMap_append,cX n,take_add_one,List.getElem?_drop];congr 1
theorem pick_from{xs:List D}{k:Nat}:dn xs (some (k:Int)) none none=xs.drop k:=by
 unfold dn;rw[sliceBounds_plain];simp only[elim,clipAt_nat,sliceRange_one,cX];rcases le_or_ge k xs.length with h|h
 .rw[min_eq_left h,take_of_length_le (by rw[length_drop];exact le_refl _)]
 .rw[min_eq_right h,List.drop_length,List.drop_of_length_le h];simp
theorem vK{xs:List D}{k:Nat}:dn xs none (some (k:Int)) none=xs.take k:=by
 unfold dn;rw[sliceBounds_plain];simp only[elim,clipAt_nat,sliceRange_one];rw[cX (a:=0)];rcases le_or_ge k xs.length with h|h
 .rw[min_eq_left h];simp
 .rw[min_eq_right h,take_of_length_le h];simp
noncomputable def lp:Stmt->Scope
 | .Assign _ (.ListComp _ _ s _) _=>s
 |_=>default
noncomputable def DB:Stmt->Expr
 | .Assign _ (.ListComp e _ _ _) _=>e
 |_=> .Constant .none 0 ⟨0,0,0,0⟩
noncomputable def ax(n:Nat):D:= .int n
noncomputable def aG(runs:List Nat)(cut behind:Nat):List Nat:=((runs.drop cut++runs.take cut).map λr=>replicate r 32++[9]).flatten++replicate behind 32
noncomputable def tupI(r:List Int):D:= .tup (r.map .int)
noncomputable def i3:D->Int×Int×Int
 | .tup [.int a,.int b,.int c]=>(a,b,c)
 |_=>(0,0,0)
noncomputable def fH(z la:Str)(M:Nat):List (List Int):=(range (M+1)).map λ(i:Nat)=>[1+(i:Int),aU z (1+i),aU la (1+i)]
noncomputable def Cy(d:D):Bool:= !((i3 d).2.1==(i3 d).2.2)
noncomputable def Cw(d:D):Bool:= !((i3 d).2.1==(i3 d).2.2+(i3 d).1)
noncomputable def fS(z la:Str)(M:Nat):List (List Int):=(fH z la M).filter λr=>Cy (tupI r)
noncomputable def uI(z la:Str)(M:Nat):List (List Int):=((fH z la M).filter λr=>Cw (tupI r)).map λr=>[(i3 (tupI r)).1,(i3 (tupI r)).2.1,(i3 (tupI r)).2.2+(i3 (tupI r)).1]
noncomputable def oL(d:D):Int:=((i3 d).2.1-(i3 d).2.2).fdiv (i3 d).1
noncomputable def sv(values:List Int)(d:D):Int:=values.getD (i3 d).1.toNat 0^(oL d).toNat
noncomputable def jo(z la:Str)(M:Nat)(values:List Int):Int:=cj ((fS z la M).map λr=>sv values (tupI r))
theorem z6{a b c:Int}:i3 (tupI [a,b,c])=(a,b,c):=rfl
theorem mS{D la:Str}{M:Nat}{r:List Int}(h:r∈fH D la M):∃i:Nat,i<=M/\r=[1+(i:Int),aU D (1+i),aU la (1+i)]:=by refine aq (et h) λi I z=>?_;obtain rfl:=z;exact⟨i,by simpa[Nat.lt_succ_iff]using I,rfl⟩
theorem DQ{ts:List Expr}{n:Nat}{p:Pos}{ds:List D}(R:aL A k)(h:Bw c A H O own ts ds ρ bP)(hn:(assignEach ts O).length=ds.length)(J:(assignEach ts O).findIdx? (·.1)=none):
 wQ c A H O own (.Tuple ts n p) (.list ds) ρ bP:=λah af E s v F r=>by
 refine bD (lst F.view.sub r) λa vs Y it l=>?_;obtain rfl:=Y;rw[assign_Tuple];refine wpAny_bind (wpAny_standAt ?_);unfold unpack;rw[show(assignEach ts O).length=vs.toArray.size from by rw[hn];simp only[size_toArray];exact l.length.symm,J];refine wpAny_bind (wpAny_holding (kun_itemsOf R.handled it λh' he=>?_));have kp:Keeps s {s with heap:=h'}:=bI s λb o e=>he b o (ne_of_lt (lt_size e)) e;have up:∀a o,aX ah af H.X s a o->aX ah af H.X {s with heap:=h'} a o:=λa o q=>bF F.ex F.old kp _ _ (.inl q);exact wpAny_mono (h ah af E _ vs (F.keeps kp (le_refl _)) (l.mono up)) (λ_ ay I=>⟨I.1,λa o z q=>I.2 _ _ z (dH kp _ _ q)⟩) λ_ _ e=>e
theorem BY{x y z:Expr}{pos:Pos}{b:Bool}(h:jt c A O ρ G x false)(h':jt c A O ρ G y false)(KH:jt c A O ρ G z b):jt c A O ρ G (.BoolOp .Or [x,y,z] pos) b:= .mk λE s V=>
 wpAny_isTrue_BoolOp (wpAny_allTrue_Or_cons (h.run V λs₁ k Y=>by
  rw[if_neg Bool.false_ne_true];refine wpAny_allTrue_Or_cons (h'.run Y λay I J=>?_);rw[if_neg Bool.false_ne_true];refine wpAny_allTrue_Or_cons (KH.run J λbB D _=>?_);cases b
  .rw[if_neg Bool.false_ne_true];exact wpAny_allTrue_Or_nil ⟨rfl,aQ (aQ k I) D⟩
  .rw[if_pos rfl];exact⟨rfl,aQ (aQ k I) D⟩))
theorem jL:∀xs:List Int,o9 xs xs=true
 |[]=>rfl
 |x::xs=>by simp[qM,jL xs]
theorem mC{n:Nat}:∀(L:List (List Int)),dB (pT (n+2)) (L.map tupI) (L.map tupI)=some true
 |[]=>rfl
 |r::L=>by simp only[map_cons,jj,ji,tupI,Option.bind_some,map_some,wq,fC,jL,BEq.rfl,Bool.and_true];rw[mC (n:=n) L];rfl
theorem vM(L:List (List Int)):ij .NotEq (.list (L.map tupI)) (.list (L.map tupI))=some false:=by simp only[wD,BEq.rfl,if_true,mC];rfl
theorem eq_nil(L:List (List Int)):ij .Eq (.list (L.map tupI)) (.list [])=some L.isEmpty:=by cases L<;>rfl
theorem qY{xs:List Nat}:(xs.map ax).map fk=xs:=by rw[map_map];exact(map_congr_left λx _=>rfl).trans (map_id _)
theorem qp{n:Nat}(h:n<=1000):gf .Mult (.str (tx [32])) (.int (n:Nat))=some (.str (tx (replicate n 32))):=by rw[Bp (natCast_nonneg _) (by exact ao 0x3e832a0142215112a718 [_] [] h) (by rw[toNat_natCast,df];simp;exact ao 0x3e832a010000062112a10 [_] [] h),xx]
theorem jf{a b:List Nat}(h:a.length+b.length<=16777216):gf .Add (.str (tx a)) (.str (tx b))=some (.str (tx (a++b))):=by rw[Bq (by rw[yJ,df,length_append];exact h),yJ]
theorem yV:(" ":Str)=tx [32]:=by decide
theorem vz:("\t":Str)=tx [9]:=by decide
theorem B7:("x \t":Str)=tx [120,32,9]:=by decide
theorem EX:("\n ":Str)=tx [10,32]:=by decide
theorem yU:(" x":Str)=tx [32,120]:=by decide
theorem sN:EB "str" "join" "str.join":=⟨F.plainAttrs_str,F.slot_str_join,F.type_str_join⟩
noncomputable def fI(runs:List Nat)(cut:Nat):List Nat:=runs.drop cut++runs.take cut
theorem mj{runs:List Nat}{cut:Nat}:(fI runs cut).length=runs.length:=by unfold fI;rw[length_append,length_drop,length_take];exact(le_total (cut) (runs.length)).elim (λz=>dG (aM 0xdb0cda10cba10 [_,_,_,_] [] (dE z) yo) (aM 0xcd0db1a0cb1a0 [_,_,_,_] [] eC (G6 (ao 12192672 [_,_] [] z)))) λz=>dG (aM 0xcb002a0cba10 [_,_,_] [] (EF z) Bx) (ao 3389829536 [_,_,_] [] (KP (ao 12192672 [_,_] [] z)))
theorem qL{runs:List Nat}{cut r:Nat}(h:r∈fI runs cut):r∈runs:=by
 rcases de h with h|h
 .exact mem_of_mem_drop h
 .exact mem_of_mem_take h
theorem kM:∀z:List Nat,(∀r∈z,r<=1000)->((z.map λr=>replicate r 32++[9]).map length).sum<=z.length*1001
 |[],_=>by simp
 |r::z,D=>by have I:=kM z λx J=>D x (.tail _ J);have Y:=D r (.head _);simp only[map_cons,sum_cons,length_append,length_replicate,length_cons,length_nil]at I⊢;exact aM 0xc3e934b03e832a0112c13e934b112021a110 [_,_,_] [] Y I
theorem sT{runs:List Nat}{cut behind:Nat}(hlen:runs.length<=50)(I:∀r∈runs,r<=1000)(hb:behind<=1000):(aG runs cut behind).length<=52000:=by have D:=kM (fI runs cut) λr z=>I r (qL z);rw[mj]at D;unfold aG;rw[length_append,length_replicate,List.length_flatten];have:(map length (map (λr=>replicate r 32++[9]) (List.drop cut runs++take cut runs))).sum<=50*1001:=le_trans D (by exact ao 0x32223e933a3e93303e9323223a3e9340 [_] [] (mul_le_mul_left 1001 hlen));exact aM 0x3e832b03e9323223a0cb2042ba10 [_,_] [] this hb
theorem nB{runs:List Nat}{cut behind:Nat}:(aG runs cut behind).all (· <128)=true:=by
 rw[List.all_eq_true];intro x z;unfold aG at z;rcases de z with z|z
 .refine aq (List.mem_flatten.mp z) λl hl z=>?_;refine aq (et hl) λr _ D=>?_;obtain rfl:=D;rcases de z with z|z
  .rw[List.eq_of_mem_replicate z];rfl
  .rw[gj z];rfl
 .rw[List.eq_of_mem_replicate z];rfl
theorem tq{n:Nat}{q z pos:Pos}{e:Expr}{ls:List (List Nat)}(he:Ev c A O ρ G e (.list ((ls.map tx).map .str)))(hsz:(ls.map length).sum<=16777216)
 (D:starEach [e] O=[(false,eval e O)])(I:(z.endLine==pos.line)=true):
 Ev c A O ρ G (.Call (.Attribute (.Constant (.str "") n q) "join" z) [e] [] pos) (.str (tx ls.flatten)):=by
 have J:starEach [e] O=(false,eval e O)::starEach [] O:=D;refine aB (dA (d0:= .str "") (ds:=[.list ((ls.map tx).map .str)]) sN rfl eh (ae he ai J) (by rw[D];rfl) (Bj ?_) rfl (by rw[D];rfl) I) (by rw[vR]);have e0:("":Str).length=0:=by decide
 rw[e0,mul_zero,Nat.add_zero,map_map];have e1:((λy:Str=>y.length)∘tx)=length:=by funext y;exact df
 rw[e1];exact hsz
structure rK(over under:List Nat)(values:List Int)(cut behind M:Nat):Prop where
 lo:over.length<=50
 lu:under.length<=50
 hM:M∈over++under++[behind]
 Gi:∀x∈over++under++[behind],x<=M
 yv:M<=1000
 asked: [kU (tx (aG over cut behind++[120,32,9])) (tx (aG under cut behind++[10,32])),gu (tx (aG over cut behind++[120,32,9])) (tx (aG under cut behind++[32,120])),gu (tx (aG under cut behind++[10,32])) (tx (aG over cut behind++[32,120]))]=
  [(fS (tx (aG over cut behind)) (tx (aG under cut behind)) M).isEmpty,(fS (tx (aG over cut behind)) (tx (aG under cut behind)) M).isEmpty,true]
 wit:fD (tx (aG over cut behind++[120,32,9])) (tx (aG under cut behind++[10,32])) (eX (tx (aG over cut behind++[120,32,9])) (tx (aG under cut behind++[10,32])))=fS (tx (aG over cut behind)) (tx (aG under cut behind)) M
 HU:fD (tx (aG over cut behind++[120,32,9])) (tx (9::aG under cut behind)) (eX (tx (aG over cut behind++[120,32,9])) (tx (9::aG under cut behind)))=uI (tx (aG over cut behind)) (tx (aG under cut behind)) M
 pow:∀r∈fS (tx (aG over cut behind)) (tx (aG under cut behind)) M,0<=oL (tupI r)/\oL (tupI r)<=1000/\(i3 (tupI r)).1.toNat<values.length/\(values.getD (i3 (tupI r)).1.toNat 0).natAbs<big/\(sv values (tupI r)).natAbs<big
 prod:∀i,(cj (((fS (tx (aG over cut behind)) (tx (aG under cut behind)) M).map λr=>sv values (tupI r)).take i)).natAbs<big
noncomputable def cR:Stmt->Expr
 | .Assign _ v _=>v
 |_=> .Constant .none 0 ⟨0,0,0,0⟩
theorem AD(R':aL A k){L ad:Addr}{cd:Value}{over under:List Nat}{cut behind:Nat}(lo:over.length<=50)(lu:under.length<=50)(hb:behind<=1000)(ho:∀r∈over,r<=1000)(hu:∀r∈under,r<=1000){vals:List Int}:
 Ev c A (bG (ak (aw 27)) "_law_parted" L ad cd) [("over",.list (over.map ax)),("under",.list (under.map ax)),("values",.list (vals.map .int)),("cut",ax cut),("behind",ax behind)] G (cR (oC (bp (aw 27)) 0)) (.list [.str (tx (aG over cut behind)),.str (tx (aG under cut behind))]):=by
 refine aB (bJ (ds:=[.list (over.map ax),.list (under.map ax)]) (p:=λ_=>true) (g:=λd=>match d with| .list xs=> .str (tx (aG (xs.map fk) cut behind))|_=> .none) (ρd:=λd=>[("runs",d),("cut",ax cut),("behind",ax behind)])
  (ke R'.handled (bb (ae (aa rfl) (ae (aa rfl) ai)))) rfl rfl (by decide) (by decide) (λ_=>rfl) (λC H d _ _=>au (.inl rfl) rfl) (λd hd x e h=>cm rfl h) (λC G d hd=>aR) (λC G d hd _=>?_) (by simp)) ?_
 .obtain⟨runs,hlen,hr,rfl⟩:∃runs:List Nat,runs.length<=50/\(∀r∈runs,r<=1000)/\d= .list (runs.map ax):=by
   rcases dg hd with rfl|hd
   .exact⟨over,lo,ho,rfl⟩
   .rw[gj hd];exact⟨under,lu,hu,rfl⟩
  have z:=kM (fI runs cut) λr Qv=>hr r (qL Qv);rw[mj]at z;refine aB (d:= .str (tx (aG runs cut behind))) ?_ ?_
  .refine ag (a:= .str (tx ((fI runs cut).map λr=>replicate r 32++[9]).flatten)) (b:= .str (tx (replicate behind 32))) ?_ (ag (a:= .str (tx [32])) (b:= .int (behind:Nat)) (aB eh (congrArg D.str yV)) (aa rfl) (qp hb)) (jf (by rw[length_replicate,List.length_flatten];exact cU 0x32223e933c3e93303e832b0c3e934a0100000072ba10 [_,_,_] [] z hb (mul_le_mul_left 1001 hlen)));refine tq (ls:=(fI runs cut).map λr=>replicate r 32++[9]) ?_ (by exact aM 0x32223e933b3e9330b3e934a0100000072a0 [_,_] [] z (mul_le_mul_left 1001 hlen)) rfl rfl
   refine aB (bJ (ds:=(fI runs cut).map ax) (p:=λ_=>true) (g:=λd=> .str (tx (replicate (fk d) 32++[9]))) (ρd:=λd=>[("run",d)])
    (ba R'.handled (aB (ag (a:= .list ((runs.drop cut).map ax)) (b:= .list ((runs.take cut).map ax)) (cK (o:= .list (runs.map ax)) (lo:=some (cut:Int)) (hi:=none) (st:=none) (aa rfl) (aa rfl) trivial trivial ?_)
     (cK (o:= .list (runs.map ax)) (lo:=none) (hi:=some (cut:Int)) (st:=none) (aa rfl) trivial (aa rfl) trivial ?_) (dI ?_)) (by rw[fI,map_append])))
    rfl rfl (by decide) (by decide) (λ_=>rfl) (λC H d _ _=>au (.inl rfl) rfl) (λd hd x e h=>cm rfl h) (λC G d hd=>aR) (λC G d hd _=>?_) (by rw[length_map,mj];exact ao 0x3222a03d090062a0 [_] [] hlen)) ?_
   .show(if sizeOk (runs.map ax).length then some (D.list (dn (runs.map ax) (some (cut:Int)) none none))else none)=_;rw[if_pos (aD (by rw[length_map];exact ao 0x3222a03d090062a0 [_] [] hlen)),pick_from,map_drop]
   .show(if sizeOk (runs.map ax).length then some (D.list (dn (runs.map ax) none (some (cut:Int)) none))else none)=_;rw[if_pos (aD (by rw[length_map];exact ao 0x3222a03d090062a0 [_] [] hlen)),vK,map_take]
   .rw[length_map,length_map,length_drop,length_take];exact cU 0x3222c1cb0ca0100000072ba10 [_,_,_] [] qx Bx hlen
   .refine aq (et hd) λr Y J=>?_;obtain rfl:=J;have I:=hr r (qL Y);have e:fk (ax r)=r:=rfl;rw[e];exact ag (a:= .str (tx (replicate r 32))) (b:= .str (tx [9])) (ag (a:= .str (tx [32])) (b:= .int (r:Nat)) (aB eh (congrArg D.str yV)) (aa rfl) (qp I)) (aB eh (congrArg D.str vz)) (jf (by rw[length_replicate];simp;exact ao 0x3e832a0ffffff62a0 [_] [] I))
   .rw[oS (λ_ _=>rfl),map_map,map_map,map_map];congr 1
  .show _=D.str (tx (aG ((runs.map ax).map fk) cut behind));rw[qY]
 .rw[oS (λ_ _=>rfl)];show D.list [D.str (tx (aG ((over.map ax).map fk) cut behind)),D.str (tx (aG ((under.map ax).map fk) cut behind))]=_;rw[qY,qY]
theorem Ci{z la:Str}{M:Nat}:(((aJ 1 (2+(M:Int))).filter λ_=>true).map λd=>match d with| .int i=>tupI [i,aU z i,aU la i]|_=> .none)=(fH z la M).map tupI:=by rw[oS (λ_ _=>rfl)];unfold aJ fH;rw[show(2+(M:Int)-1).toNat=M+1 from by exact dG (ao 0x112b721216a78112b1a0 [_,_] [] (rP (aI 301984001384488 [_] []))) (ao 0xb7112a7212168b112a10 [_,_] [] uc),map_map,map_map];rfl
theorem Gy{z la:Str}{M:Nat}:(((fH z la M).map tupI).filter Cy).map (λd=>d)=(fS z la M).map tupI:=by rw[List.map_id',filter_map];rfl
theorem FE{z la:Str}{M:Nat}:(((fH z la M).map tupI).filter Cw).map (λd=>tupI [(i3 d).1,(i3 d).2.1,(i3 d).2.2+(i3 d).1])=(uI z la M).map tupI:=by rw[filter_map,map_map];unfold uI;rw[map_map];rfl
theorem ze{I la:Str}{M:Nat}{d:D}(h:d∈(fH I la M).map tupI):∃i:Nat,i<=M/\d=tupI [1+(i:Int),aU I (1+i),aU la (1+i)]:=by refine aq (et h) λr J z=>?_;obtain rfl:=z;refine aq (mS J) λi Y z=>?_;obtain rfl:=z;exact⟨i,Y,rfl⟩
theorem wy{z la:Str}{M:Nat}{r:List Int}(h:r∈fS z la M):r∈fH z la M:=(mem_filter.mp h).1
set_option maxHeartbeats 2000000 in
theorem xp(W:Ws c)(g:Gl c)(R:aL A 30){He N2 v:Value}(oK:FnAt c 21 "_law_product" He)(Aw:FnAt c 26 "_law_column" N2)(f:FnAt c 27 "_law_parted" v){over under:List Nat}{values:List Int}{cut behind M:Nat}
 (P:rK over under values cut behind M):
 Callee c A v [.list (over.map ax),.list (under.map ax),.list (values.map .int),ax cut,ax behind] (.int (jo (tx (aG over cut behind)) (tx (aG under cut behind)) M values)):=by
 have hb:behind<=1000:=le_trans (P.Gi behind (by simp)) P.yv;have ho:∀r∈over,r<=1000:=λr hr=>le_trans (P.Gi r (by simp[hr])) P.yv;have hu:∀r∈under,r<=1000:=λr hr=>le_trans (P.Gi r (by simp[hr])) P.yv;have Ki:=sT (cut:=cut) P.lo ho hb;have Hk:=sT (cut:=cut) P.lu hu hb;have NA:=nB (runs:=over) (cut:=cut) (behind:=behind);have KL:=nB (runs:=under) (cut:=cut) (behind:=behind);obtain⟨pl,pu,hM,Gi,yv,asked,wit,HU,Ie,Ic⟩:=P;refine br g.B R f.f rfl rfl rfl rfl (by decide) (by decide) (by decide) λA' L ad cd G E af s Q kq J F=>?_;refine fv (d:= .list [.str (tx (aG over cut behind)),.str (tx (aG under cut behind))]) F (λG=>AD J pl pu hb ho hu) (DQ J (aA (au (.inr (show _∈cw (ak (aw 27)) by decide)) rfl) (aA (au (.inr (show _∈cw (ak (aw 27)) by decide)) rfl) bA)) rfl rfl) λU F=>?_;generalize aG over cut behind=I at*;generalize aG under cut behind=la at*
 refine jl (y:="rows") (ds:=aJ 1 (2+(M:Int))) (λ_=>true) (λd=>match d with| .int i=>tupI [i,aU (tx I) i,aU (tx la) i]|_=> .none) (λd=>[("size",d),("latter",.str (tx la)),("former",.str (tx I))]) F
  (λG=>dw g.B J.handled rfl (g.no _ (by decide)) aj (ag (a:= .int 2) (b:= .int M) aj (aF g.B rfl (g.no _ (by decide)) boot_max (by decide) (.b _) (ae (d:= .list (((over++under++[behind]).map λ(n:Nat)=>(n:Int)).map .int)) (aB (ag (a:= .list (over.map ax++under.map ax)) (b:= .list [ax behind]) (ag (a:= .list (over.map ax)) (b:= .list (under.map ax)) (aa rfl) (aa rfl) (dI (by rw[length_map,length_map];exact aM 0x3222b03222a0100000072ba10 [_,_] [] pl pu))) (bq (ae (aa rfl) ai)) (dI (by rw[length_append,length_map,length_map];simp;exact aM 0x3222b03222a0ffffff62ba10 [_,_] [] pl pu))) ?_) ai) rfl (rA J (mem_map.mpr ⟨M,hM,rfl⟩) (λa ha=>by refine aq (et ha) λn hn z=>?_;obtain rfl:=z;have:=Gi n hn;exact ao 3121314424 [_,_] [] this))) rfl) rfl rfl (by exact aI 1177863460232 [] []) (by exact aI 0x3e221511211218 [] []) (by exact aI 0xa721213e221588 [_] []) (by exact ao 0x3e832a03e2215112a7212118 [_] [] yv)) rfl rfl rfl rfl rfl (by decide) (by decide) (λ_=>rfl) (λC H d _ _=>au (.inl rfl) rfl) (λd Y x e h=>cm rfl h) (λC G d Y=>aR) (λC G d Y _=>?_) (by simp[aJ];exact ao 0x3e832a03d090162a721218 [_] [] yv) λU F=>?_
 .simp only[map_append,map_map,map_cons,map_nil];rfl
 .obtain⟨i,hi,rfl⟩:∃i:Nat,i<=M/\d= .int (1+(i:Int)):=by simp only[aJ,mem_map,mem_range]at Y;refine aq Y λi h1 z=>?_;clear Y;obtain rfl:=z;exact⟨i,by exact aM 0x112b721216c78c112a10ba0 [_,_,_] [] h1 (rP (aI 301984001384488 [_] [])),rfl⟩
  exact bb (ae (aa rfl) (ae (bz g.B rfl Aw.g Aw.f.plain (ae (aa rfl) (ae (aa rfl) ai)) rfl (pw g (J.le (by decide)) Aw (by rw[jF];exact NA) (by exact oD (aI 0xa711211120218 [_] [])))) (ae (bz g.B rfl Aw.g Aw.f.plain (ae (aa rfl) (ae (aa rfl) ai)) rfl (pw g (J.le (by decide)) Aw (by rw[jF];exact KL) (by exact oD (aI 0xa711211120218 [_] [])))) ai)))
 rw[Ci]at F;have nK:((fH (tx I) (tx la) M).map tupI).length<=4000000:=by rw[length_map];simp[fH];exact ao 0x3e832a03d08ff62a0 [_] [] yv
 refine jl (y:="due") (ds:=(fH (tx I) (tx la) M).map tupI) Cy (λd=>d) (λd=>[("row",d)]) F (λG=>ba J.handled (aa rfl)) rfl rfl rfl rfl rfl (by decide) (by decide) (λ_=>rfl) (λC H d _ _=>au (.inl rfl) rfl) (λd Y x e h=>cm rfl h) (λC G d Y=>?_) (λC G d Y _=>aa rfl) nK λU F=>?_
 .refine aq (ze Y) λi hi z=>?_;obtain rfl:=z;exact ee (aC g.B J (a:= .int (aU (tx I) (1+i))) (b:= .int (aU (tx la) (1+i))) (aS (o:=tupI [1+(i:Int),aU (tx I) (1+i),aU (tx la) (1+i)]) (i:= .int 1) (aa rfl) aj rfl) (aS (o:=tupI [1+(i:Int),aU (tx I) (1+i),aU (tx la) (1+i)]) (i:= .int 2) (aa rfl) aj rfl) rfl)
 rw[Gy]at F;refine jl (y:="later") (ds:=(fH (tx I) (tx la) M).map tupI) Cw (λd=>tupI [(i3 d).1,(i3 d).2.1,(i3 d).2.2+(i3 d).1]) (λd=>[("other",.int (i3 d).2.2),("column",.int (i3 d).2.1),("size",.int (i3 d).1)]) F (λG=>ba J.handled (aa rfl)) rfl rfl rfl rfl rfl (by decide) (by decide) (λ_=>rfl) (λC H d _ Y=>?_) (λd Y x e h=>nomatch (show(none:Option D)=some e from h)) (λC G d Y=>?_) (λC G d Y _=>?_) nK λU F=>?_
 .refine aq (ze Y) λi hi z=>?_;obtain rfl:=z;exact bU J (aA (au (.inl rfl) rfl) (aA (au (.inl rfl) rfl) (aA (au (.inl rfl) rfl) bA))) rfl rfl
 .refine aq (ze Y) λi hi z=>?_;obtain rfl:=z;exact ee (aC g.B J (a:= .int (aU (tx I) (1+i))) (b:= .int (aU (tx la) (1+i)+(1+i))) (aa rfl) (ag (a:= .int (aU (tx la) (1+i))) (b:= .int (1+i)) (aa rfl) (aa rfl) rfl) rfl)
 .exact bb (ae (aa rfl) (ae (aa rfl) (ae (ag (a:= .int (i3 d).2.2) (b:= .int (i3 d).1) (aa rfl) (aa rfl) rfl) ai)))
 rw[FE]at F;have s1:(tx (I++[120,32,9])).cps.all (· <128)=true/\(tx (I++[120,32,9])).cps.size<=100000:=by rw[jF,all_append,NA];exact⟨rfl,by simp[tx];exact ao 0xcb2042a01869d52a0 [_] [] Ki⟩
 have s2:(tx (la++[10,32])).cps.all (· <128)=true/\(tx (la++[10,32])).cps.size<=100000:=by rw[jF,all_append,KL];exact⟨rfl,by simp[tx];exact ao 0xcb2042a01869e52a0 [_] [] Hk⟩
 have s3:(tx (la++[32,120])).cps.all (· <128)=true/\(tx (la++[32,120])).cps.size<=100000:=by rw[jF,all_append,KL];exact⟨rfl,by simp[tx];exact ao 0xcb2042a01869e52a0 [_] [] Hk⟩
 have s4:(tx (I++[32,120])).cps.all (· <128)=true/\(tx (I++[32,120])).cps.size<=100000:=by rw[jF,all_append,NA];exact⟨rfl,by simp[tx];exact ao 0xcb2042a01869e52a0 [_] [] Ki⟩
 have s5:(tx (9::la)).cps.all (· <128)=true/\(tx (9::la)).cps.size<=100000:=by rw[jF,List.all_cons,KL];exact⟨rfl,by simp[tx];exact ao 0xcb2042a01869f52a0 [_] [] Hk⟩
 refine iQ (x:="one") (y:="two") (d1:= .obj (iH (tx (I++[120,32,9])))) (d2:= .obj (iH (tx (la++[10,32])))) J F (λG=>bb (ae (nW (k:=22) W g J rfl (ag (a:= .str (tx I)) (b:= .str (tx [120,32,9])) (aa rfl) (aB eh (congrArg D.str B7)) (jf (by simp;exact ao 0xcb2042a0fffffd62a0 [_] [] Ki))) s1.1 s1.2) (ae (nW (k:=22) W g J rfl (ag (a:= .str (tx la)) (b:= .str (tx [10,32])) (aa rfl) (aB eh (congrArg D.str EX)) (jf (by simp;exact ao 0xcb2042a0fffffe62a0 [_] [] Hk))) s2.1 s2.2) ai))) (.inl rfl) (.inl rfl) rfl rfl rfl λU F=>?_;refine av (d:= .list ([(fS (tx I) (tx la) M).isEmpty,(fS (tx I) (tx la) M).isEmpty,true].map .bool)) F (λG=>?_) (.inl rfl) rfl rfl λU F=>?_
 .rw[<-asked]
  refine bq (ae (fQ W (i:=4) (qn:="Whitespace.equal") (aa rfl) (by decide) (λN mN X no h=>h.2.2.2.1) (ae (aa rfl) ai) rfl (λv f=>zA W g (J.le (by decide)) f) rfl rfl rfl)
   (ae (fQ W (i:=6) (qn:="Whitespace.less") (aa rfl) (by decide) (λN mN X no h=>h.2.2.2.2.2) (ae (nW (k:=22) W g J rfl (ag (a:= .str (tx la)) (b:= .str (tx [32,120])) (aa rfl) (aB eh (congrArg D.str yU)) (jf (by simp;exact ao 0xcb2042a0fffffe62a0 [_] [] Hk))) s3.1 s3.2) ai) rfl (λv f=>vL W g (J.le (by decide)) f s1.2 s3.2) rfl rfl rfl)
   (ae (fQ W (i:=6) (qn:="Whitespace.less") (aa rfl) (by decide) (λN mN X no h=>h.2.2.2.2.2) (ae (nW (k:=22) W g J rfl (ag (a:= .str (tx I)) (b:= .str (tx [32,120])) (aa rfl) (aB eh (congrArg D.str yU)) (jf (by simp;exact ao 0xcb2042a0fffffe62a0 [_] [] Ki))) s4.1 s4.2) ai) rfl (λv f=>vL W g (J.le (by decide)) f s2.2 s4.2) rfl rfl rfl) ai)))
 have shown:∀e:Bool,(PyData.list ([e,e,true].map .bool)).showable=true/\(PyData.list ([e,e,true].map .bool)).hasDict=false/\(PyData.list ([e,e,true].map .bool)).depth<20/\(jZ [e,e,true]).length<=16777216:=by intro e;cases e<;>decide+kernel
 refine gO (shown (fS (tx I) (tx la) M).isEmpty) λq1 q2 q3 q4=>?_;refine bK F (b:=false) (λG=>?_) λU F=>?_
 .refine BY (aC g.B J (a:= .str (jZ [(fS (tx I) (tx la) M).isEmpty,(fS (tx I) (tx la) M).isEmpty,true])) (b:= .str (jZ [(fS (tx I) (tx la) M).isEmpty,(fS (tx I) (tx la) M).isEmpty,true])) ?_ ?_ (by show some _=some _;rw[BEq.rfl];rfl)) (aC g.B J (a:= .list ((fS (tx I) (tx la) M).map tupI)) (b:= .list ((fS (tx I) (tx la) M).map tupI)) ?_ (aa rfl) (vM _)) (aC g.B J (a:= .list ((uI (tx I) (tx la) M).map tupI)) (b:= .list ((uI (tx I) (tx la) M).map tupI)) ?_ (aa rfl) (vM _))
  .exact aF g.B rfl (g.no _ (by decide)) PyProof.Rows.boot_str (by decide) (.t _) (ae (aa rfl) ai) rfl (vg J q1 q2 q3 q4)
  .exact aF g.B rfl (g.no _ (by decide)) PyProof.Rows.boot_str (by decide) (.t _) (ae (bq (ds:=[(fS (tx I) (tx la) M).isEmpty,(fS (tx I) (tx la) M).isEmpty,true].map .bool) (ae (ia g.B J (aa rfl) (bq ai) (eq_nil _)) (ae (ia g.B J (aa rfl) (bq ai) (eq_nil _)) (ae mr ai)))) ai) rfl (vg J q1 q2 q3 q4)
  .rw[<-wit];exact fQ W (i:=5) (qn:="Whitespace.not_equal_witness") (aa rfl) (by decide) (λN mN X no h=>h.2.2.2.2.1) (ae (aa rfl) ai) rfl (λv f=>ni W g (J.le (by decide)) f s1.2 s2.2) rfl rfl rfl
  .rw[<-HU];exact fQ W (i:=5) (qn:="Whitespace.not_equal_witness") (aa rfl) (by decide) (λN mN X no h=>h.2.2.2.2.1) (ae (nW (k:=22) W g J rfl (ag (a:= .str (tx [9])) (b:= .str (tx la)) (aB eh (congrArg D.str vz)) (aa rfl) (jf (by simp;exact ao 0xcb2042a0100000072a11210 [_] [] Hk))) s5.1 s5.2) ai) rfl (λv f=>ni W g (J.le (by decide)) f s1.2 s5.2) rfl rfl rfl
 refine wpAny_execs_nil ?_;refine aK (d:= .int (jo (tx I) (tx la) M values)) F (λG=>?_) λv U F r=>kq _ _ _ _ _ F r
 refine bz g.B rfl oK.g oK.f.plain (ae (d:= .list (((fS (tx I) (tx la) M).map λr=>sv values (tupI r)).map .int)) (aB (bJ (ds:=(fS (tx I) (tx la) M).map tupI) (p:=λ_=>true) (g:=λd=> .int (sv values d)) (ρd:=λd=>[("other",.int (i3 d).2.2),("column",.int (i3 d).2.1),("size",.int (i3 d).1),("values",.list (values.map .int))])
  (ba J.handled (aa rfl)) rfl rfl (by decide) (by decide) (λ_=>rfl) (λC H d _ Y=>?_) (λd Y x e h=>cm rfl (cm rfl (cm rfl h))) (λC G d Y=>aR) (λC G d Y _=>?_) ?_) ?_) ai) rfl (gW g (J.le (by decide)) oK Ic (λn hn=>?_))
 .refine aq (et Y) λr hr z=>?_;obtain rfl:=z;refine aq (mS (wy hr)) λi hi z=>?_;obtain rfl:=z;exact bU J (aA (au (.inl rfl) rfl) (aA (au (.inl rfl) rfl) (aA (au (.inl rfl) rfl) bA))) rfl rfl
 .refine aq (et Y) λr hr z=>?_;obtain rfl:=z;refine ib (Ie r hr) λp1 p2 p3 p4 p5=>?_;refine aq (mS (wy hr)) λi hi z=>?_;obtain rfl:=z
  refine ag (a:= .int (values.getD (i3 (tupI [1+(i:Int),aU (tx I) (1+i),aU (tx la) (1+i)])).1.toNat 0)) (b:= .int (oL (tupI [1+(i:Int),aU (tx I) (1+i),aU (tx la) (1+i)]))) (aS (o:= .list (values.map .int)) (i:= .int (1+(i:Int))) (aa rfl) (aa rfl) ?_)
   (ag (a:= .int (aU (tx I) (1+i)-aU (tx la) (1+i))) (b:= .int (1+(i:Int))) (ag (a:= .int (aU (tx I) (1+i))) (b:= .int (aU (tx la) (1+i))) (aa rfl) (aa rfl) rfl) (aa rfl) (fT (dW (by exact oD (aI 0xa711211120218 [_] [])) ?_))) (en (bV p1 p4 p2))
  .have e:(1+(i:Int))=((1+i:Nat):Int):=by exact dq (aI 0xa11217a711218 [_] []) (aI 0xa71121a112178 [_] [])
   have jW:1+i<values.length:=by have:=p3;rw[z6]at this;simp only at this;exact aM 0xb112c10c7a711218b112a112110 [_,_,_] [] uc this
   have e2:(i3 (tupI [((1+i:Nat):Int),aU (tx I) ((1+i:Nat):Int),aU (tx la) ((1+i:Nat):Int)])).1.toNat=1+i:=by rw[z6];exact toNat_natCast _
   rw[e,kN (by exact aM 0x3e832b0ba0186a052a11210 [_,_] [] hi yv),e2,getElem?_map,getElem?_eq_getElem jW,getD_eq_getElem?_getD,getElem?_eq_getElem jW];rfl
  .have:(1+(i:Int)).natAbs<=1001:=by exact cU 0x3e832c0cb0b71121a783e932a0 [_,_,_] [] (t4 (aI 44846682152 [_] [])) hi yv
   exact lt_of_le_of_lt this (by decide+kernel)
 .rw[length_map];exact le_trans (length_filter_le _ _) (by rw[length_map]at nK;exact nK)
 .rw[oS (λ_ _=>rfl),map_map,map_map];rfl
 .refine aq (et hn) λr hr z=>?_;obtain rfl:=z;exact(Ie r hr).2.2.2.2
theorem wk(B:c.B){x:Str}{f:Value}{p sp pos:Pos}{e:Expr}{ds:List D}{d:D}(J:O.kindOf x=some .globalImplicit)(hm:c.mg x=some f)
 (hp:∃a o fd,f= .ref a/\c.h₀.get? a=some o/\o.data= .func fd)(he:Ev c A O ρ G e (.list ds))(hz:ds.length<=4000000)(hc:Callee c A f ds d)(Y:starEach [.Starred e sp] O=[(true,eval e O)])(hd:(x==("__debug__":Str))=false:=by decide):
 Ev c A O ρ G (.Call (.Name x p) [.Starred e sp] [] pos) d:= .mk λE s V=>by
 refine wpAny_Call_NameR (Calls.Name_function_global V.kind J (Calls.loadGlobal_global (V.glob▸B.g.keeps V.old) hm ?_) hd);refine dR hp λa o fd I h1 h2=>?_;clear hp;obtain rfl:=I;rw[Y];refine Calls.callWith_function (o:=o) (fd:=fd) (ks_lone (he.run V λv s₁ q z=>?_));have r:=q.2;refine dR r λl vs n I g lr=>?_;clear r;obtain rfl:=I;have D:=V.gG q.1 _ _ g;unfold StarOf notIterableAtAll;refine wpAny_bind (wpAny_specialOf (T:="list") ⟨_,D,rfl⟩ PySem.F.slot_list_iter.lookup (wpAny_pure ⟨rfl,?_⟩));refine wpAny_collect_seq l (.inl rfl) D rfl rfl (λh' J=>?_) (by simp only[size_toArray];rw[lr.length,sizeLine_eq];exact ao 0x3d090062a0100000072a0 [_] [] hz);have kp:Keeps s₁ {s₁ with heap:=h'}:=bI s₁ J;have kk:=aQ q.1 kp;refine⟨⟨J _ _ (z.old _ _ h1),h2⟩,?_⟩;simp only[nil_append];exact wpAny_mono (hc E _ (grow G s {s₁ with heap:=h'}) vs ⟨km V.sub kk,λa o e=> .inl (V.base a o e),z.toks⟩ (lr.mono (cz kp))) (λv bB p=>cf.trans kk p) λ_ _ e=>e
theorem se{x y:Str}{ts:List Expr}{n n2:Nat}{p p2 pos:Pos}{e1 e2:Expr}{d1:D}{od:OD}{rest:List Stmt}{Q:Flow->Shared->Prop}(R:aL A k)(F:Fs c ah af H O ρ [] s)(h1:∀G,Ev c A O ρ G e1 d1)(h2:∀G,BQ c A O ρ G e2 od)
 (hx:O.kindOf x=some .local)(hy:O.kindOf y=some .local)(hw:swappedStores [.Tuple ts n p] (.Tuple [e1,e2] n2 p2) O=pure (some [x,y]))
 (kk:∀a U,a∉H.X->Fs c ah af (H.add a) O ((x,d1)::(y,.adr a)::ρ) [(y,a,od)] U->wpAny (model PW c.w) A (execs rest O) Q E U)(Qf:x≠y)
 (iC:starEach [e1,e2] O=[(false,eval e1 O),(false,eval e2 O)])(IU:starEach [e2] O=[(false,eval e2 O)])
 (hs:swapsWithSole [.Tuple ts n p] (.Tuple [e1,e2] n2 p2) pos.line O=pure false:=by rfl):
 wpAny (model PW c.w) A (execs (.Assign [.Tuple ts n p] (.Tuple [e1,e2] n2 p2) pos::rest) O) Q E s:=by
 refine wpAny_execs_cons (PyProof.Rows.Assign_Tuple_swapped (names:=[x,y]) (wpAny_Tuple ?_) hs hw);have i1:starEach [e1,e2] O=(false,eval e1 O)::starEach [e2] O:=by rw[iC,IU]
 have i2:starEach [e2] O=(false,eval e2 O)::starEach [] O:=IU;refine wpAny_items_cons (F.run h1 λv1 s₁ I r1=>?_) i1;refine wpAny_items_cons (wpAny_mono (wpAny_toks ((h2 _).1 E s₁ I.view)) (λv ay q=>?_) λ_ _ q=>q.2) i2;obtain⟨tk,a,o,bB,rfl,k1,k2,a1,a2,a3⟩:=q;have kp:=aQ k1 k2;have ha:s₁.heap.get? a=none:=by exact oN λp q=>Lw.sn ((dH k1 _ _ q).symm.trans a1)
 have Jr:a∉H.X:=λhm=>(I.ex _ hm).elim λp z=>Lw.ns (ha.symm.trans z);have oA:=I.hide kp tk ha a2;have oo:=zv I k1 k2 a1 a3;have hL:a≠O.locals:=λq=>by obtain⟨p,z⟩:=I.ex _ (I.zx _ I.frame.1);rw[<-q,ha]at z;exact ns z
 have Oc:Rep c.w c.C (aX ah af (H.add a).X ay) d1 v1:=r1.mono (by
  rintro b p (h|⟨h1,h2,h3⟩)
  .exact .inl h
  .refine .inr ⟨dH kp _ _ h1,h2,λhm=>?_⟩;rcases dg hm with e|hm
   .rw[e,ha]at h1;exact ns h1
   .exact h3 hm)
 refine wpAny_items_nil ⟨by show([v1,.ref a]:List Value).length<=sizeLine;rw[sizeLine_eq];simp,?_⟩;have oP:=oA.keeps (aZ ay {cls:= .type "tuple",data:= .seq (toArray [v1,.ref a])}) (le_refl _);have it:IsTup (ay.heap.push {cls:= .type "tuple",data:= .seq (toArray [v1,.ref a])}) ay.heap.objs.size (toArray [v1,.ref a]):=⟨_,get?_push_size _ rfl,rfl,_,rfl⟩;show wpAny (model PW c.w) A (unpackItems (.ref ay.heap.objs.size) (toArray [v1,.ref a]).size none) _ E _;refine unpackItems_tuple R.handled it λh' he=>?_;have FI:Keeps ay {ay with heap:=h'}:=bI _ λb o e=>he b o (ne_of_lt (lt_size (get?_push_of_some _ e))) (get?_push_of_some _ e);have ym:=oA.keeps FI (le_refl _);have up:∀b p,aX ah af (H.add a).X ay b p->aX ah af (H.add a).X {ay with heap:=h'} b p:=λb p h=>bF oA.ex oA.old FI _ _ (.inl h);have a4:h'.get? a=some o:=dH FI _ _ a2;have hr:(toArray [v1,.ref a]).toList.reverse=[.ref a,v1]:=rfl;have hp:(O.scope.kind== .class||(O.scope.kind== .module&&O.locals !=O.globals))=false:=by rw[F.view.kind];rfl
 rw[hr];show wpAny (model PW c.w) A (assignInOrder [λu=>bindName O y u,λu=>bindName O x u] [.ref a,v1]) _ E _;obtain⟨m,nm⟩:=ym.frame.2;refine wpAny_bind (wpAny_holding (wpAny_bindName (wpAny_storeName_local hy nm (λma I8 Y=>?_) hp)));have DX:=ym.fF (d:= .adr a) hy (by exact rfl) nm I8 Y (le_succ _) rfl;obtain⟨m',Og⟩:=DX.frame.2;refine wpAny_bind (wpAny_holding (wpAny_bindName (wpAny_storeName_local hx Og (λIL I7 J=>?_) hp)));have Ka:∀b p,aX ah af (H.add a).X {ay with heap:=h'} b p->aX ah af (H.add a).X {ay with heap:=ma,toks:=ay.toks+1} b p:=gk (s:={ay with heap:=h'}) (λa h h'=>h' h) (ym.zx _ ym.frame.1) Y;have NN:=DX.fF (d:=d1) hx ((Oc.mono up).mono Ka) Og I7 J (le_succ _) rfl;refine wpAny_pure (kk a _ Jr (NN.ot ?_ (.head _) hL ((J.2 a hL).trans ((Y.2 a hL).trans a4)) ?_))
 .rw[lookup_cons,show(y==x)=false from by simpa using λh:y=x=>Qf h.symm,lookup_cons];simp
 .exact((oo.mono up).mono Ka).mono (gk (s:={ay with heap:=ma,toks:=ay.toks+1}) (λa h h'=>h' h) (DX.zx _ DX.frame.1) J)
section
open PySem.Flt
noncomputable def ez(z:Int):Int:=(z+32).fdiv 64
noncomputable def ra(z white:Int):Int:=white+ez z
noncomputable def rb(z white:Int):Int:=white+(z-64*ez z)
noncomputable def rc(key white:Int):Int:=white+(63*ez key-key)
noncomputable def gZ(a b c:Int):Int:=if a<b then(if b<c then c else b)else(if a<c then c else a)
noncomputable def lZ(a b c:Int):Int:=if b<a then(if c<b then c else b)else(if c<a then c else a)
theorem wi{a b c:Int}:a<=gZ a b c/\b<=gZ a b c/\c<=gZ a b c:=by
 unfold gZ;split<;>rename_i D<;>split<;>rename_i z
 .exact⟨le_of_lt (Int.lt_trans D z),le_of_lt z,Int.le_refl _⟩
 .exact⟨le_of_lt D,Int.le_refl _,not_lt.mp z⟩
 .exact⟨le_of_lt z,Int.le_trans (not_lt.mp D) (le_of_lt z),Int.le_refl _⟩
 .exact⟨Int.le_refl _,not_lt.mp D,not_lt.mp z⟩
theorem vO{a b c:Int}:lZ a b c<=a/\lZ a b c<=b/\lZ a b c<=c:=by
 unfold lZ;split<;>rename_i D<;>split<;>rename_i z
 .exact⟨le_of_lt (Int.lt_trans z D),le_of_lt z,Int.le_refl _⟩
 .exact⟨le_of_lt D,Int.le_refl _,not_lt.mp z⟩
 .exact⟨le_of_lt z,Int.le_trans (le_of_lt z) (not_lt.mp D),Int.le_refl _⟩
 .exact⟨Int.le_refl _,not_lt.mp D,not_lt.mp z⟩
theorem Jv{P:Int->Prop}{a b c:Int}(ha:P a)(hb:P b)(hc:P c):P (gZ a b c):=by unfold gZ;split<;>split<;>assumption
theorem IA{P:Int->Prop}{a b c:Int}(ha:P a)(hb:P b)(hc:P c):P (lZ a b c):=by unfold lZ;split<;>split<;>assumption
noncomputable def dj(z:Int):Option Nat:=if z=64 then some 1 else if z=1 then some 3 else if z= -63 then some 5 else if z= -64 then some 7 else if z= -1 then some 9 else if z=63 then some 11 else none
noncomputable def bC(k:Int):UInt64:=dU k 64
noncomputable def Hj(x:UInt64):Bool:=isFinite x&& !Float64.isNaN x&& !isInf x
noncomputable def z9(x y z:UInt64):Bool:=iE (aY x y z) (aH x y z)||(!isZero (aH x y z)&& !isZero (Float64.sub (aH x y z) (aY x y z)))
noncomputable def Ad(x y z:UInt64):Bool:=iE (aY x y z) (aH x y z)||(!isZero (Float64.sub (aH x y z) (aY x y z))&&
 (if FC (div (add (aH x y z) (aY x y z)) 0x4000000000000000) 0x3FE0000000000000 then !isZero (add (aH x y z) (aY x y z))else !isZero (Float64.sub (Float64.sub 0x4000000000000000 (aH x y z)) (aY x y z))))
noncomputable def Kg(a b:Int):Int:=if b<a then b else a
noncomputable def ly(z a b c:Int):Bool:=
 let g:=gZ a b c
 let l:=lZ a b c
 let s:=Kg (g+l) (128-g-l)
 let D:=iB (bC a) (bC b) (bC c)
 let hl:=jd (bC a) (bC b) (bC c)
 let x:=mul (mul (ofInt 64) D.2.1) D.2.2
 let y:=mul (ofInt 12) D.1
 !isInf (bC a)&& !isInf (bC b)&& !isInf (bC c)&&z9 (bC a) (bC b) (bC c)&&Ad (bC a) (bC b) (bC c)&&
 !(g==0)&& !(s==0)&& !isInf (dU (g-l) g)&& !isInf (bC g)&& !isInf (dU (g+l) 128)&& !isInf (dU (g-l) s)&&
 iE D.2.1 (dU (g-l) g)&&iE D.2.2 (bC g)&&iE hl.1 D.1&&iE hl.2.1 (dU (g+l) 128)&&iE hl.2.2 (dU (g-l) s)&&Hj x&&Hj y&&
 ((cmpInt D.1 0==some .eq&&toInt nearestOf x==0)==decide (z=0))&&((toInt nearestOf x==2)==(dj z).isSome)&&
 (match dj z with|some j=>(toInt nearestOf y).fmod 12==(j:Int)|none=>true)
noncomputable def cV(W:Wy)(st:Int×List Int)(z:Int):Int×List Int:=
 (if z=0 then st.1+bR W z else st.1,match dj z with|some j=>st.2.set j (st.2.getD j 0+bR W z)|none=>st.2)
noncomputable def dT(W:Wy)(ks:List Int):Int×List Int:=ks.foldl (cV W) (0,replicate 12 0)
theorem uq{z:Int}{j:Nat}(h:dj z=some j):j<12:=by
 unfold dj at h
 repeat (split at h;· obtain rfl:=bg h;decide)
 exact ns h
theorem kL{W:Wy}:∀{n:Nat}{ks:List Int},ks.length=n->(dT W ks).2.length=12
 |0,ks,h=>by rw[eq_nil_of_length_eq_zero h];rfl
 |n+1,ks,h=>by
  obtain⟨xs,d,rfl⟩:∃xs d,ks=xs++[d]:=⟨ks.dropLast,ks.getLast (by intro e;rw[e]at h;cases h),(List.dropLast_concat_getLast _).symm⟩;have z:=kL (W:=W) (n:=n) (ks:=xs) (by simpa using h);unfold dT at z⊢;rw[foldl_append];simp only[foldl_cons,foldl_nil,cV];split
  .rw[length_set];exact z
  .exact z
theorem Ju{a b c:Int}:gZ a b c∈[a,b,c]/\∀x∈[a,b,c],x<=gZ a b c:=by
 unfold gZ;simp only[mem_cons,not_mem_nil,or_false];constructor
 .split<;>split<;>simp
 .rintro x (rfl|rfl|rfl)<;>(split<;>split<;>lia)
theorem Iz{a b c:Int}:lZ a b c∈[a,b,c]/\∀x∈[a,b,c],lZ a b c<=x:=by
 unfold lZ;simp only[mem_cons,not_mem_nil,or_false];constructor
 .split<;>split<;>simp
 .rintro x (rfl|rfl|rfl)<;>(split<;>split<;>lia)
theorem wu{n:Nat}{x y:UInt64}:pT (n+1) (.aV x) (.aV y)=if cmp x y==some .eq then some true else none:=rfl
theorem Gs{n:Nat}{x:UInt64}{y:Int}:pT (n+1) (.aV x) (.int y)=some (cmpInt x y==some .eq):=rfl
theorem CJ{a b J I:UInt64}(D:iE a J=true)(z:iE b I=true):ij .NotEq (.tup [.aV a,.aV b]) (.tup [.aV J,.aV I])=some false:=by unfold iE at D z;simp only[wC,jj,ji,wu,Option.bind_some,map_some,D,z,if_true];rfl
theorem CI{a b c Y J c':UInt64}(I:iE a Y=true)(D:iE b J=true)(z:iE c c'=true):ij .NotEq (.tup [.aV a,.aV b,.aV c]) (.tup [.aV Y,.aV J,.aV c'])=some false:=by unfold iE at I D z;simp only[wC,jj,ji,wu,Option.bind_some,map_some,I,D,z,if_true];rfl
theorem eq_fi{x:UInt64}{i a b:Int}:ij .Eq (.tup [.aV x,.int i]) (.tup [.int a,.int b])=some (cmpInt x a==some .eq&&i==b):=by simp only[wF,jj,ji,Gs,rt,Option.bind_some,map_some];simp
noncomputable def mw:Nat:=2^1023
theorem Br{x:Int}{y:UInt64}(h:x.natAbs<mw):gf .Mult (.int x) (.aV y)=some (.aV (mul (ofInt x) y)):=by exact if_pos (by unfold nQ;unfold mw at h;exact decide_eq_true h)
theorem GU{x y:UInt64}:gf .Mult (.aV x) (.aV y)=some (.aV (mul x y)):=rfl
theorem gi.Jw{v:Value}{ps:List Str}{scope:Scope}{body:List Stmt}{qn:Str}(f:gi c v ps scope body qn):∃a o fd,v= .ref a/\c.h₀.get? a=some o/\o.data= .func fd:=
 k8 f.ex λa o fd I D z _=>⟨a,o,fd,I,D,z⟩
theorem C9{scope:Scope}{x:Str}{d:D}(h:(bo scope O ρ).lookup x=some d):isFree scope O x=true:=(eN h).1
theorem i7{p:Str->Bool}{x:Str}{d:D}(J:p x=true):∀{ρ:List (Str×D)},ρ.lookup x=some d->(ρ.filter λq=>p q.1).lookup x=some d
 |[],h=>nomatch h
 |(n,e)::r,h=>by
  rw[filter_cons];simp only[lookup_cons]at h;by_cases z:x=n
  .subst z;simp only[BEq.rfl]at h;rw[if_pos J,lookup_cons,BEq.rfl];exact h
  .rw[show(x==n)=false from by simpa using z]at h;have I:=i7 J h;split
   .rw[lookup_cons,show(x==n)=false from by simpa using z];exact I
   .exact I
theorem sP{scope:Scope}{x:Str}{d:D}(z:isFree scope O x=true)(h:ρ.lookup x=some d):(bo scope O ρ).lookup x=some d:=i7 z h
theorem qt{scope:Scope}{k x:Str}{d e:D}(I:isFree scope O k=false)(h:(bo scope O ρ).lookup x=some e):((k,d)::bo scope O ρ).lookup x=some e:=by
 rw[lookup_cons];by_cases z:x=k
 .subst z;rw[C9 h]at I;exact tf I
 .rw[show(x==k)=false from by simpa using z];exact h
theorem fA{scope:Scope}{k x:Str}{d e:D}(z:(x==k)=false)(I:isFree scope O x=true)(h:ρ.lookup x=some e):((k,d)::bo scope O ρ).lookup x=some e:=by rw[lookup_cons,z];exact sP I h
theorem HA{a b c:UInt64}:flat (.tup [.aV a,.aV b,.aV c])=true:=rfl
set_option maxHeartbeats 4000000 in
theorem CC(g:Gl c)(R:aL A 20){v10 v11 v:Value}(Es:FnAt c 10 "rgb_to_hls" v10)(Er:FnAt c 11 "rgb_to_hsv" v11)(f:FnAt c 24 "_law_told" v){W:Wy}{white:Int}(hl:W.1.length=W.2.length)(hlen:W.1.length<=4000000)
 (hk:∀key∈W.1,ly key (ra key white) (rb key white) (rc key white)=true/\(ez key).natAbs<big):
 Callee c A v [.bT W.1 (W.2.map .int),.int white] (lD ((dT W W.1).1::(dT W W.1).2)):=by
 refine br g.B R f.f rfl rfl rfl rfl (by decide) (by decide) (by decide) λA' L ad cd G E af s Q kQ R' F=>?_;refine se (x:="grey") (y:="ring") (d1:= .int 0) (od:= .lst ((replicate 12 (0:Int)).map .int)) R' F (λG=>aj) (λG=>rp (ds:=[.int 0]) (n:=12) (bq (ae aj ai)) aj (by decide) (by decide) (by decide)) rfl rfl rfl (λal U vZ F=>?_) (by decide) rfl rfl
 refine dK (λi=>[(("ring":Str),al,OD.lst ((dT W (W.1.take i)).2.map D.int))]) F (λG=>sW (ks:=W.1) (ds:=W.2.map .int) R'.handled (aa rfl)) (.inl rfl)
  (λi ρ=>ρ.lookup ("grey":Str)=some (D.int (dT W (W.1.take i)).1)/\ρ.lookup ("ways":Str)=some (D.bT W.1 (W.2.map D.int))/\ρ.lookup ("white":Str)=some (D.int white)/\ρ.lookup ("ring":Str)=some (D.adr al))
  ⟨rfl,rfl,rfl,rfl⟩ (λ_=>rfl) ?_ ?_
 .intro E' i d ρ s H' Q' kn kb kr hY hZ Jp hd w9;refine gO w9 λq1 q2 q3 q4=>?_;clear w9;intro F;obtain⟨key,BH,rfl⟩:∃key,W.1[i]? =some key/\D.int key=d:=by rw[getElem?_map]at hd;exact mA hd
  obtain⟨hc,IY⟩:=hk key (mem_of_getElem? BH);have Ac:=mem_of_getElem? BH;have xO:=te hl Ac;have gM:dT W (W.1.take (i+1))=cV W (dT W (W.1.take i)) key:=by unfold dT;rw[take_add_one,BH];simp[foldl_append]
  have nK:=kL (W:=W) (ks:=W.1.take i) rfl;generalize dT W (W.1.take i)=st at*;obtain⟨gr,rg⟩:=st;simp only at*;refine Nx hc λc1 c2 c3 c4 c5 c6 c7 c8 c9 Ng Nf Rx Rw Rv Ru Rt Rr Rq Nd HJ Nc=>?_;clear hc;have c1:=DL c1;have c2:=DL c2;have c3:=DL c3;have c6:=DL c6;have c7:=DL c7;have c8:=DL c8;have c9:=DL c9;have Ng:=DL Ng;have Nf:=DL Nf;have Nd:=eq_of_beq Nd;have HJ:=eq_of_beq HJ;refine av (d:= .int (ez key)) F (λG=>ag (a:= .int (key+32)) (b:= .int 64) (ag (a:= .int key) (b:= .int 32) (aa rfl) aj rfl) aj (fT rfl)) (.inl rfl) rfl rfl λU F=>?_
  refine jl (y:="row") (ds:=[.int (ez key),.int (key-64*ez key),.int (63*ez key-key)]) (λ_=>true) (λd=>match d with| .int i=> .int (white+i)|_=> .none) (λd=>("part",d)::bo (lp (oC (ko (oC (bp (aw 24)) 1)) 1)) (bG (ak (aw 24)) "_law_told" L ad cd) (("red",.int (ez key))::("key",.int key)::ρ)) F
   (λG=>ke R'.handled (bb (ae (aa rfl) (ae (ag (a:= .int key) (b:= .int (64*ez key)) (aa rfl) (ag (a:= .int 64) (b:= .int (ez key)) aj (aa rfl) (dp (bh (by unfold big;decide+kernel) IY))) rfl) (ae (ag (a:= .int (63*ez key)) (b:= .int key) (ag (a:= .int 63) (b:= .int (ez key)) aj (aa rfl) (dp (bh (by unfold big;decide+kernel) IY))) (aa rfl) rfl) ai))))) rfl rfl rfl rfl rfl (by decide) (by decide) (λ_=>rfl)
   (λC H d _ _=>au (.inl rfl) rfl) (λd hd x e h=>qt rfl h) (λC G d hd=>aR) (λC G d hd _=>?_) (by simp) λU F=>?_
  .have hw:∀{d:D},(("part",d)::bo (lp (oC (ko (oC (bp (aw 24)) 1)) 1)) (bG (ak (aw 24)) "_law_told" L ad cd) (("red",.int (ez key))::("key",.int key)::ρ):List (Str×D)).lookup ("white":Str)=some (.int white):=fA rfl rfl q3;simp only[mem_cons,not_mem_nil,or_false]at hd;rcases hd with rfl|rfl|rfl<;>exact ag (a:= .int white) (aa hw) (aa rfl) rfl
  have e:((([.int (ez key),.int (key-64*ez key),.int (63*ez key-key)]:List D).filter λ_=>true).map λd=>match d with| .int i=>D.int (white+i)|_=> .none)=[ra key white,rb key white,rc key white].map D.int:=rfl;rw[e]at F;have Hi:((("row",.list ([ra key white,rb key white,rc key white].map D.int))::("red",.int (ez key))::("key",.int key)::ρ):List (Str×D)).lookup ("ways":Str)=some (D.bT W.1 (W.2.map D.int)):=q2;have Lh:((("row",.list ([ra key white,rb key white,rc key white].map D.int))::("red",.int (ez key))::("key",.int key)::ρ):List (Str×D)).lookup ("grey":Str)=some (D.int gr):=q1;have Lg:((("row",.list ([ra key white,rb key white,rc key white].map D.int))::("red",.int (ez key))::("key",.int key)::ρ):List (Str×D)).lookup ("white":Str)=some (D.int white):=q3;have Lf:((("row",.list ([ra key white,rb key white,rc key white].map D.int))::("red",.int (ez key))::("key",.int key)::ρ):List (Str×D)).lookup ("ring":Str)=some (D.adr al):=q4;have qk:((("row",.list ([ra key white,rb key white,rc key white].map D.int))::("red",.int (ez key))::("key",.int key)::ρ):List (Str×D)).lookup ("key":Str)=some (D.int key):=rfl;have qr:((("row",.list ([ra key white,rb key white,rc key white].map D.int))::("red",.int (ez key))::("key",.int key)::ρ):List (Str×D)).lookup ("row":Str)=some (.list ([ra key white,rb key white,rc key white].map D.int)):=rfl;generalize ((("row",.list ([ra key white,rb key white,rc key white].map D.int))::("red",.int (ez key))::("key",.int key)::ρ):List (Str×D))=ρ₁ at F Lh Hi Lg Lf qk qr;generalize ra key white=a at*;generalize rb key white=b at*;generalize rc key white=I at*;obtain⟨gm,gx⟩:=Ju (a:=a) (b:=b) (c:=I);obtain⟨lm,lx⟩:=Iz (a:=a) (b:=b) (c:=I);generalize gZ a b I=Y at*;generalize lZ a b I=ll at*;refine iQ (x:="great") (y:="least") (d1:= .int Y) (d2:= .int ll) R' F (λG=>bb (ae (aF g.B rfl (g.no _ (by decide)) boot_max (by decide) (.b _) (ae (d:= .list ([a,b,I].map .int)) (aa qr) ai) rfl (rA R' gm gx)) (ae (aF g.B rfl (g.no _ (by decide)) boot_min (by decide) (.b _) (ae (d:= .list ([a,b,I].map .int)) (aa qr) ai) rfl (GJ R' lm lx)) ai))) (.inl rfl) (.inl rfl) rfl rfl rfl λU F=>?_;refine fv (d:= .tup [.aV (iB (bC a) (bC b) (bC I)).1,.aV (iB (bC a) (bC b) (bC I)).2.1,.aV (iB (bC a) (bC b) (bC I)).2.2]) F (λG=>wk (ds:=[.aV (bC a),.aV (bC b),.aV (bC I)]) g.B rfl Er.g Er.f.Jw ?_ (by simp) (Fp g (R'.le (by decide)) Er ?_) rfl) (bU R' (aA (au (.inl rfl) rfl) (aA (au (.inl rfl) rfl) (aA (au (.inl rfl) rfl) bA))) rfl rfl) λU F=>?_
  .refine aB (bJ (ds:=[a,b,I].map .int) (p:=λ_=>true) (g:=λd=>match d with| .int i=> .aV (bC i)|_=> .none) (ρd:=λd=>("part",d)::bo _ _ _) (ba R'.handled (aa qr)) rfl rfl (by decide) (by decide) (λ_=>rfl) (λC H d _ _=>au (.inl rfl) rfl) (λd hd x e h=>qt rfl h) (λC G d hd=>aR) (λC G d hd _=>?_) (by simp)) rfl;simp only[map_cons,map_nil,mem_cons,not_mem_nil,or_false]at hd;rcases hd with rfl|rfl|rfl
   .exact ag (a:= .int a) (b:= .int 64) (aa rfl) aj (eO (by decide) c1)
   .exact ag (a:= .int b) (b:= .int 64) (aa rfl) aj (eO (by decide) c2)
   .exact ag (a:= .int I) (b:= .int 64) (aa rfl) aj (eO (by decide) c3)
  .intro h;unfold z9 at c4;rw[h]at c4;simpa using c4
  refine av (d:= .tup [.aV (jd (bC a) (bC b) (bC I)).1,.aV (jd (bC a) (bC b) (bC I)).2.1,.aV (jd (bC a) (bC b) (bC I)).2.2]) F (λG=>wk (ds:=[.aV (bC a),.aV (bC b),.aV (bC I)]) g.B rfl Es.g Es.f.Jw ?_ (by simp) (Fq g (R'.le (by decide)) Es ?_) rfl) (.inl rfl) rfl rfl λU F=>?_
  .refine aB (bJ (ds:=[a,b,I].map .int) (p:=λ_=>true) (g:=λd=>match d with| .int i=> .aV (bC i)|_=> .none) (ρd:=λd=>("part",d)::bo _ _ _) (ba R'.handled (aa qr)) rfl rfl (by decide) (by decide) (λ_=>rfl) (λC H d _ _=>au (.inl rfl) rfl) (λd hd x e h=>qt rfl h) (λC G d hd=>aR) (λC G d hd _=>?_) (by simp)) rfl;simp only[map_cons,map_nil,mem_cons,not_mem_nil,or_false]at hd;rcases hd with rfl|rfl|rfl
   .exact ag (a:= .int a) (b:= .int 64) (aa rfl) aj (eO (by decide) c1)
   .exact ag (a:= .int b) (b:= .int 64) (aa rfl) aj (eO (by decide) c2)
   .exact ag (a:= .int I) (b:= .int 64) (aa rfl) aj (eO (by decide) c3)
  .intro h;unfold Ad at c5;rw[h]at c5;simp only[Bool.false_or,and_eq_true,not_eq_true']at c5;refine⟨c5.1,λh2=>?_,λh2=>?_⟩
   .have:=c5.2;rw[h2]at this;simpa using this
   .have:=c5.2;rw[h2]at this;simpa using this
  refine bK F (b:=false) (λG=>?_) λU F=>?_
  .refine mi (aC g.B R' (bb (ds:=[.aV (iB (bC a) (bC b) (bC I)).2.1,.aV (iB (bC a) (bC b) (bC I)).2.2]) (ae (aa rfl) (ae (aa rfl) ai))) (bb (ds:=[.aV (dU (Y-ll) Y),.aV (bC Y)]) (ae (ag (a:= .int (Y-ll)) (b:= .int Y) (ag (a:= .int Y) (b:= .int ll) (aa rfl) (aa rfl) rfl) (aa rfl) (eO (by simpa using c6) c8)) (ae (ag (a:= .int Y) (b:= .int 64) (aa rfl) aj (eO (by decide) c9)) ai))) (CJ Rx Rw))
    (aC g.B R' (a:= .tup [.aV (jd (bC a) (bC b) (bC I)).1,.aV (jd (bC a) (bC b) (bC I)).2.1,.aV (jd (bC a) (bC b) (bC I)).2.2]) (aa rfl) (bb (ds:=[.aV (iB (bC a) (bC b) (bC I)).1,.aV (dU (Y+ll) 128),.aV (dU (Y-ll) (Kg (Y+ll) (128-Y-ll)))]) (ae (aa rfl) (ae (ag (a:= .int (Y+ll)) (b:= .int 128) (ag (a:= .int Y) (b:= .int ll) (aa rfl) (aa rfl) rfl) aj (eO (by decide) Ng)) (ae (ag (a:= .int (Y-ll)) (b:= .int (Kg (Y+ll) (128-Y-ll))) (ag (a:= .int Y) (b:= .int ll) (aa rfl) (aa rfl) rfl)
     (aF g.B rfl (g.no _ (by decide)) boot_min (by decide) (.b _) (ae (ag (a:= .int Y) (b:= .int ll) (aa rfl) (aa rfl) rfl) (ae (ag (a:= .int (128-Y)) (b:= .int ll) (ag (a:= .int 128) (b:= .int Y) aj (aa rfl) rfl) (aa rfl) rfl) ai)) rfl (GK R')) (eO (by simpa using c7) Nf)) ai)))) (CI Rv Ru Rt))
  refine wpAny_execs_nil ?_;generalize iB (bC a) (bC b) (bC I)=hv at*;have kx:∀x,Hj x=true->isFinite x=true/\Float64.isNaN x=false/\isInf x=false:=λx h=>by unfold Hj at h;simp only[and_eq_true,not_eq_true']at h;exact⟨h.1.1,h.1.2,h.2⟩
  refine eJ (kx _ Rr) λx1 x2 x3=>?_;refine eJ (kx _ Rq) λy1 y2 y3=>?_;refine av (d:= .int (toInt nearestOf (mul (mul (ofInt 64) hv.2.1) hv.2.2))) F (λG=>aF g.B rfl (g.no _ (by decide)) boot_round (by decide) (.b _) (ae (ag (a:= .aV (mul (ofInt 64) hv.2.1)) (b:= .aV hv.2.2) (ag (a:= .int 64) (b:= .aV hv.2.1) aj (aa rfl) (Br (by unfold mw;decide+kernel))) (aa rfl) GU) ai) rfl (wI R' x1 x2 x3)) (.inl rfl) rfl rfl λU F=>?_;generalize toInt nearestOf (mul (mul (ofInt 64) hv.2.1) hv.2.2)=sp at*
  have after:∀{z:List (Str×D)}{gr':Int}{ay:Shared}{Q:Flow->Shared->Prop},Fs c G af H' (bG (ak (aw 24)) "_law_told" L ad cd) z [("ring",al,.lst (rg.map D.int))] ay->
   z.lookup ("ways":Str)=some (D.bT W.1 (W.2.map D.int))->z.lookup ("key":Str)=some (D.int key)->z.lookup ("spread":Str)=some (D.int sp)->z.lookup ("hue":Str)=some (D.aV hv.1)->
   (∀J,Fs c G af H' (bG (ak (aw 24)) "_law_told" L ad cd) z [("ring",al,.lst ((cV W (gr,rg) key).2.map D.int))] J->Q .next J)->wpAny (model PW c.w) A' (execs ((ko (oC (bp (aw 24)) 1)).drop 8) (bG (ak (aw 24)) "_law_told" L ad cd)) Q E' ay:=by
   intro z gr' ay Q F w1 w2 w3 w4 kq;refine bK F (b:=sp==2) (λG=>aC g.B R' (a:= .int sp) (b:= .int 2) (aa w3) aj rfl) λU F=>?_;cases IW:dj key with
   |none=>rw[IW]at HJ;rw[show(sp==2)=false from HJ];refine wpAny_execs_nil (wpAny_execs_nil (kq _ ?_));simp only[cV,IW];exact F
   |some j=>
    have hj:=uq IW;rw[IW]at HJ Nc;rw[show(sp==2)=true from HJ];simp only[beq_iff_eq]at Nc;refine wZ (n:=(j:Int)) (m:=rg.getD j 0) (b:=bR W key) (d:= .int (rg.getD j 0+bR W key)) F (λG=>ag (a:= .int (toInt nearestOf (mul (ofInt 12) hv.1))) (b:= .int 12) (aF g.B rfl (g.no _ (by decide)) boot_round (by decide) (.b _) (ae (ag (a:= .int 12) (b:= .aV hv.1) aj (aa w4) (Br (by unfold mw;decide+kernel))) ai) rfl (wI R' y1 y2 y3)) aj ?_) (natCast_nonneg _) ?_ (λG=>aS (o:= .bT W.1 (W.2.map .int)) (i:= .int key) (aa w1) (aa w2) xO) rfl (aD (by rw[length_map,nK];decide)) λU F=>?_
    .rw[eo (by decide),Nc]
    .rw[toNat_natCast,getElem?_map,getD_eq_getElem?_getD,getElem?_eq_getElem (by exact aM 0xbc120c12112a10b112a10 [_,_] [] hj (ju nK))];rfl
    .refine wpAny_execs_nil (wpAny_execs_nil (kq _ ?_));simp only[cV,IW,map_set,toNat_natCast]at F⊢;exact F
  refine bK F (b:=(cmpInt hv.1 0==some .eq&&sp==0)) (λG=>aC g.B R' (a:= .tup [.aV hv.1,.int sp]) (b:= .tup [.int 0,.int 0]) (bb (ae (aa rfl) (ae (aa rfl) ai))) (bb (ae aj (ae aj ai))) eq_fi) λU F=>?_;rw[show(cmpInt hv.1 0==some .eq&&sp==0)=decide (key=0)from Nd];have back:=λ{z:List (Str×D)}{J:Shared}(F:Fs c G af H' (bG (ak (aw 24)) "_law_told" L ad cd) z [("ring",al,.lst ((cV W (gr,rg) key).2.map D.int))] J)(gr':Int)(he:gr'=(cV W (gr,rg) key).1)(w1:z.lookup ("grey":Str)=some (D.int gr'))(w2:z.lookup ("ways":Str)=some (D.bT W.1 (W.2.map D.int)))(w3:z.lookup ("white":Str)=some (D.int white))(w4:z.lookup ("ring":Str)=some (D.adr al))=>kn J z ⟨by rw[gM,<-he];exact w1,w2,w3,w4⟩ (F.ow (by rw[gM]))
  by_cases h0:key=0
  .rw[decide_eq_true h0];refine mO (x:="grey") (a:= .int gr) (b:= .int (bR W key)) (d:= .int (gr+bR W key)) F Lh (λG=>aS (o:= .bT W.1 (W.2.map .int)) (i:= .int key) (aa Hi) (aa qk) xO) rfl rfl (.inl rfl) rfl λU F=>?_;refine wpAny_execs_nil (after (gr':=gr) F Hi qk rfl rfl λJ F=>?_);refine back F (gr+bR W key) (by simp only[cV];rw[if_pos h0]) rfl ?_ ?_ ?_
   .exact Hi
   .exact Lg
   .exact Lf
  .rw[decide_eq_false h0];refine wpAny_execs_nil (after (gr':=gr) F Hi qk rfl rfl λJ F=>?_);refine back F gr (by simp only[cV];rw[if_neg h0]) ?_ ?_ ?_ ?_
   .exact Lh
   .exact Hi
   .exact Lg
   .exact Lf
 .intro ρ s w9;refine gO w9 λq1 q2 q3 q4=>?_;clear w9;intro F;have F:=F.freeze ["ring"] (by simpa using q4);rw[length_map,List.take_length]at F q1;have LS:=kL (W:=W) (ks:=W.1) rfl;refine aK (d:=lD ((dT W W.1).1::(dT W W.1).2)) F (λG=>?_) λv U F r=>kQ _ _ _ _ _ F r;exact ag (bq (ae (aa q1) ai)) (aa (d:= .list ((dT W W.1).2.map .int)) rfl) (dI (x:=[.int (dT W W.1).1]) (by rw[length_map,LS];simp))
theorem yW{test:Expr}{body rest:List Stmt}{pos:Pos}{Q:Flow->Shared->Prop}(F:Fs c ah af H O ρ own s)(Inv:Nat->List (Str×D)->List (Str×Addr×OD)->Prop)(N:Nat)(h0:Inv N ρ own)
 (IS:∀n ρ own,Inv n ρ own->∀G,jt c A O ρ G test (decide (0<n)))
 (turn:∀(E':Value->Shared->Prop) n ρ own s(Q':Flow->Shared->Prop),(∀U m bP cq,m<n+1->Inv m bP cq->Fs c ah af H O bP cq U->Q' .next U)->(∀U,wpAny (model PW c.w) A (execs rest O) Q E U->Q' .brk U)->(∀v U,Q (.ret v) U->Q' (.ret v) U)->
  Inv (n+1) ρ own->Fs c ah af H O ρ own s->wpAny (model PW c.w) A (execs body O) Q' E' s)
 (fin:∀ρ own s,Inv 0 ρ own->Fs c ah af H O ρ own s->wpAny (model PW c.w) A (execs rest O) Q E s):
 wpAny (model PW c.w) A (execs (.While test body [] pos::rest) O) Q E s:=by
 refine wpAny_execs_cons (wpAny_While ?_);refine codeAny_whileLoop (λn U=>∃ρ own,Inv n ρ own/\Fs c ah af H O ρ own U) (λn U h=>?_) N ⟨ρ,own,h0,F⟩;refine cC h λbP cq hI F'=>?_;clear h;refine F'.test (IS n bP cq hI) λay J=>?_;cases n with
 |zero=>rw[decide_eq_false (by exact NX (aI 8224 [] [])),if_neg Bool.false_ne_true];exact wpAny_execs_nil (fin bP cq ay hI J)
 |succ n=>
  rw[decide_eq_true (by exact aI 18872372691472 [_] []),if_pos rfl];refine wpAny_mono (turn _ n bP cq ay (λf U=>match f with
   | .next=>∃m bP cq,m<n+1/\Inv m bP cq/\Fs c ah af H O bP cq U
   | .cont=>False
   | .brk=>wpAny (model PW c.w) A (execs rest O) Q E U
   | .ret v=>Q (.ret v) U) (λ_ _ _ _ q0 q1 q2=>⟨_,_,_,q0,q1,q2⟩) (λ_ q=>q) (λ_ _ q=>q) hI J) (λf dY z=>?_) λ_ _ e=>e
  cases f with
  |next=>refine dR z λm Y I q0 q1 q2=>?_;clear z;exact⟨m,q0,Y,I,q1,q2⟩
  |cont=>exact z.elim
  |brk=>exact z
  |ret v=>exact z
theorem xK{l b:Addr}{vs ws:List Value}{n n2:Nat}{Q:Value->Shared->Prop}(hl:s.heap.get? l=some {cls:= .type "list",data:= .seq vs.toArray n})(hb:s.heap.get? b=some {cls:= .type "list",data:= .seq ws.toArray n2})
 (h:Q (.ref l) {s with heap:=s.heap.update l (Obj.mapSeq λx=>x++ws.toArray)})(hsz:vs.length+ws.length<=sizeLine):wpAny (model PW c.w) A (inplaceOp .Add (.ref l) (.ref b)) Q E s:=by
 have D:fillsInplaceSlot (.type "list") "add" (Operator.Add== .Add)=pure false:=by unfold fillsInplaceSlot;show(typeLookup (.type "list") (dunderI "add")>>=λfi=>pure (fi.isSome&& !isSeqSlot fi))=pure false;rw[PySem.F.slot_list_iadd.lookup];rfl
 have z:seqSlot? (.type "list") (dunderI "add")=pure (some (.builtin "list.__iadd__")):=by unfold seqSlot?;rw[PySem.F.slot_list_iadd.lookup];rfl
 unfold inplaceOp;refine wpAny_holding ?_;refine wpAny_bind (wpAny_typeOf (T:="list") ⟨_,hl,rfl⟩ (wpAny_bind (wpAny_of_eq D ?_)));show wpAny _ A (if false=true then _ else _) Q E s;rw[if_neg Bool.false_ne_true];refine wpAny_bind (wpAny_binaryOp1_none (nm:="add") (T:="list") ⟨_,hl,rfl⟩ ⟨_,hb,rfl⟩ noFill_list_add ?_);refine wpAny_bind (wpAny_of_eq z ?_);refine wpAny_bind (wpAny_rule ?_);have e1:vs.toArray.size+ws.toArray.size<=sizeLine:=by simpa using hsz
 refine call_meets PySem.F.slot_list_iadd ⟨_,hl,rfl⟩ PySem.F.entry_list_iadd (PySem.F.args_list_iadd_2 _ _) (AutoSeq1.list___iadd___list_list_0 l vs.toArray n b ws.toArray n2 (by simp only[Builtin.List.listTooLong,and_eq_true,not_eq_true',decide_eq_true_eq,not_and,Nat.not_lt,gt_iff_lt];intro _;exact e1) (le_trans (le_add_right _ _) e1) (Nat.le_succ_of_le e1)) ⟨hl,hb,h⟩
theorem yY{x:Str}{a:Addr}{ds es:List D}{p pos:Pos}{e:Expr}{rest:List Stmt}{Q:Flow->Shared->Prop}(F:Fs c ah af H O ρ [(x,a,.lst ds)] s)(he:∀G,Ev c A O ρ G e (.list es))(hk:O.kindOf x=some .local)(hz:ds.length+es.length<=4000000)
 (kk:∀U,Fs c ah af H O ((x,.adr a)::ρ) [(x,a,.lst (ds++es))] U->wpAny (model PW c.w) A (execs rest O) Q E U)(hd:(x==("__debug__":Str))=false:=by decide):
 wpAny (model PW c.w) A (execs (.AugAssign (.Name x p) .Add e pos::rest) O) Q E s:=by
 refine wpAny_execs_cons (wpAny_AugAssign_Name ?_);obtain⟨_,i,_⟩:=F.own _ (.head _);simp only at i
 have go:wpAny (model PW c.w) A (eval e O) (λv' ay=>wpAny (model PW c.w) A (inplaceOp .Add (.ref a) v')
  (λr bB=>wpAny (model PW c.w) A (storeName O x r) (λ_=>λU=>wpAny (model PW c.w) A (execs rest O) Q E U) E bB) E ay) E s:=by
  refine F.run he λv' ay z I=>?_;obtain⟨o,ho,vs,n,rfl,l⟩:=z.l8;refine dR I λb J n2 mh g2 l2=>?_;clear I;obtain rfl:=mh;have hb:=z.view.sub _ _ g2;refine xK ho hb ?_ (by rw[l.length,l2.length,sizeLine_eq];exact ao 0x3d090062ba10100000072ba10 [_,_] [] hz);obtain⟨n3,Qo⟩:∃n3,(ay.heap.update a (Obj.mapSeq λx=>x++J.toArray)).get? a=some {cls:= .type "list",data:= .seq (vs++J).toArray n3}:=by
   have e:vs.toArray++J.toArray=(vs++J).toArray:=by simp
   have:=get?_update_seq (c:="list") ho (λx=>x++J.toArray);rw[<-e];exact⟨_,this⟩
  have F3:=z.mut (od':= .lst (ds++es)) (Heap.SameBut.update ay.heap a (Obj.mapSeq λx=>x++J.toArray)) (le_refl _) Qo ⟨vs++J,n3,rfl,l.append l2⟩;have hp:(O.scope.kind== .class||(O.scope.kind== .module&&O.locals !=O.globals))=false:=by rw[F.view.kind];rfl
  obtain⟨m,nm⟩:=F3.frame.2;refine gO (F3.own _ (.head _)) λQ4 _ hL _=>?_;refine aq F3.l8 λo3 I6 PY=>?_;have F4:Fs c ah af H O ρ [] _:=F3.less (λ_ _ h=>h) λe he=>nomatch he;refine wpAny_storeName_local hk nm (λh' Hu sb=>?_) hp;have F5:=F4.fF (d:= .adr a) hk (by exact rfl) nm Hu sb (le_succ _) rfl;exact kk _ (F5.ot (by simp) Q4 hL ((sb.2 a hL).trans I6) (PY.mono (gk (λa h h'=>h' h) (F4.zx _ F4.frame.1) sb)))
 rcases i with⟨Y,m,n,e'⟩|⟨Y|Y,b',n,e'⟩
 .exact wpAny_loadName_local F.view.kind Y n e' go
 .exact wpAny_loadName_cell F.view.kind Y n e' go
 .exact wpAny_loadName_free F.view.kind Y.1 n e' go Y.2
theorem lG{w:World}{C:Addr}{ds:List D}{vs:List Value}(hl:vs.length=ds.length)(h:∀(j:Nat)(v:Value),vs[j]? =some v->∃d,ds[j]? =some d/\Rep w C G d v):aE w C G ds vs:=by
 induction ds generalizing vs with
 |nil=>exact eq_nil_of_length_eq_zero hl
 |cons d ds z=>refine lO (P:=λvs=>(∀(j:Nat)(v:Value),vs[j]? =some v->∃e,(d::ds)[j]? =some e/\Rep w C G e v)->aE w C G (d::ds) vs) hl (λv vs hl h=>?_) h;refine aq (h 0 v rfl) λd' Y J=>?_;exact⟨v,vs,rfl,bg Y▸J,z hl λj u I=>h (j+1) u I⟩
theorem xY(B:c.B)(hh:A.handled=none){p D pos z:Pos}{e1 e2:Expr}{a b:Int}(hk:O.kindOf "list"=some .globalImplicit)(hm:c.mg "list"=none)(BG:O.kindOf "range"=some .globalImplicit)(QI:c.mg "range"=none)
 (h1:Ev c A O ρ G e1 (.int a))(h2:Ev c A O ρ G e2 (.int b))(hs:starEach [e1,e2] O=[(false,eval e1 O),(false,eval e2 O)])(yq:starEach [e2] O=[(false,eval e2 O)])
 (I:starEach [.Call (.Name "range" D) [e1,e2] [] z] O=[(false,eval (.Call (.Name "range" D) [e1,e2] [] z) O)])
 (ha: -(2^62)<=a)(ON:a<2^62)(hb: -(2^62)<=b)(OL:b<2^62)(Kz:a<=b)(hn:b-a<=1000000):
 Ev c A O ρ G (.Call (.Name "list" p) [.Call (.Name "range" D) [e1,e2] [] z] [] pos) (.list (aJ a b)):= .mk λE s V=>by
 have hR:∀s₁,Vw c O ρ G s₁->Keeps s s₁->wpAny (model PW c.w) A (eval (.Call (.Name "range" D) [e1,e2] [] z) O) (λv ay=>Keeps s ay/\Vw c O ρ G ay/\∃r t u w,v= .ref r/\IsRange ay.heap r a b 1 t u w) E s₁:=λs₁ ou J=>
  ik B ou BG QI boot_range (by decide) (.t _) (ae h1 (ae h2 ai yq) (by rw[hs,yq])) (by rw[hs];rfl) λvs U kp tk l V'=>by refine bD l.two λv w gD r1 r2=>?_;obtain rfl:=gD;obtain⟨t,rfl⟩:=r1;obtain⟨u,rfl⟩:=r2;have kq:Keeps U {U with heap:=U.heap.push {cls:= .type "range",data:= .fields #[.int a t,.int b u,.int 1 U.toks]},toks:=U.toks+1}:=sV U _ _;exact call_range_2 ⟨aQ J (aQ kp kq),V'.keeps kq (le_succ _),_,_,_,_,rfl,IsRange.new ..⟩
 refine wpAny_Call_NameR (Calls.Name_function_global V.kind hk (Calls.loadGlobal_builtin (V.glob▸B.g.keeps V.old) hm (V.fq▸B.b.keeps V.old) ((B.builtins "list" (by decide)).trans (show bootBuiltins "list"=some (.type "list") by decide+kernel)) ?_));rw[I];refine PySem.callWith_type rfl (bN rfl ?_);have i0:starEach [.Call (.Name "range" D) [e1,e2] [] z] O=(false,eval (.Call (.Name "range" D) [e1,e2] [] z) O)::starEach [] O:=I;show wpAny _ A (spliced (backTo pos [(false,eval (.Call (.Name "range" D) [e1,e2] [] z) O)])) _ E s;rw[<-I];refine wpAny_items_cons (wpAny_mono (hR s V (bj s)) (λv ay q=>?_) λ_ _ e=>e) i0;obtain⟨k2,V2,r,t,u,w,rfl,hr⟩:=q;refine wpAny_items_nil ?_;have hsz:Builtin.Range.rangeSize a b 1=((b-a).toNat:Int):=by rw[rangeSize_one];exact KY Kz
 show wpAny _ A (call (.type "list") [.ref r]) _ E ay;refine call_list_range hh hr (small_one ha ON hb OL) hsz (by exact aM 0xf424052ba68ba6a78182215a0 [_] [_,_] (rP (ao 46048895016 [] [_,_] Kz)) hn) λh' tk acc c' hk hD hI=>?_;refine⟨aQ k2 (jP ay hk),?_⟩;show ∃_,_;refine⟨_,acc.toList,c',rfl,.inr ⟨by simpa using hD,?_⟩,?_⟩
 .exact bu k2 (bH ay)
 .refine lG (by rw[Array.length_toList,hI.1];simp[aJ]) λj v hv=>?_;have Y:acc[j]? =some v:=by simpa using hv
  obtain⟨t',rfl⟩:=hI.2 j v Y;have hj:j< (b-a).toNat:=by have:=(Array.getElem?_eq_some_iff.mp Y).1;rw[hI.1]at this;exact this
  exact⟨.int (a+j),by simp[aJ,hj],Exists.intro _ (by rw[mul_one])⟩
theorem nu{acc:List (Str×Value)}:∀{kvs:List (Str×Value)},((acc++kvs).map (·.1)).Nodup->merged acc kvs=acc++kvs
 |[],_=>by simp[merged]
 |(k,v)::r,h=>by
  have hn:∀q∈acc,q.1≠k:=λq z e=>by rw[map_append,nodup_append]at h;exact h.2.2 q.1 (mem_map_of_mem z) k (by simp) e
  have hs:stored acc k v=acc++[(k,v)]:=by unfold stored;rw[if_neg];simp only[any_eq_true,decide_eq_true_eq,not_exists,not_and];exact hn
  have e:merged acc ((k,v)::r)=merged (acc++[(k,v)]) r:=by simp[merged,hs]
  rw[e,nu (by simpa using h)];simp
noncomputable def pairOf(O:Env)(pos:Pos)(x:Str×Str×Nat×Nat×Pos×Pos):Sem Value×Sem Value:=
 (eval (.Constant (.str x.1) x.2.2.1 x.2.2.2.2.1) O,do let v<-eval (.Constant (.str x.2.1) x.2.2.2.1 x.2.2.2.2.2) O;standAt pos;pure v)
theorem pP{pos:Pos}:∀(l:List (Str×Str×Nat×Nat×Pos×Pos))(Q:List (Value×Value)->Shared->Prop)(tk:Nat),
 (∀ts:List (Tok×Tok),ts.length=l.length->∀tk',Q (zipWith (λx t=>(.str x.1 t.1,.str x.2.1 t.2)) l ts) {s with toks:=tk'})->wpAny (model PW c.w) A (evalPairs (l.map (pairOf O pos))) Q E {s with toks:=tk}
 |[],Q,tk,h=>evalPairs_nil (h [] rfl tk)
 |x::l,Q,tk,h=>by rw[map_cons];refine zt (λa b tk'=>?_);exact pP l _ tk' λts hl z=>h ((a,b)::ts) (by simp[hl]) z
theorem yd(B:c.B){D:List (Option Expr)}{values:List Expr}{pos:Pos}(l:List (Str×Str×Nat×Nat×Pos×Pos))(hl:l≠[])(hlen:l.length<=15)(hn:(l.map (·.1)).Nodup)
 (Y:(evalEachOpt D O).zip ((evalEach values O).map λv=>do let x<-v;standAt pos;pure x)=(l.map (pairOf O pos)).map λp=>(some p.1,p.2)):
 Ev c A O ρ G (.Dict D values pos) (.fG (l.map (·.1)) (l.map λx=> .str x.2.1)):= .mk λE s V=>by
 refine wpAny_Dict_pairs (knd:=strKind PW c.w) (pairs:=l.map (pairOf O pos)) Y (by simpa using hl) (by simpa using hlen) ?_;refine pP (s:={s with heap:=s.heap.push {cls:= .type "dict",data:= .dict #[]}}) l _ s.toks λts I tk'=>?_;have J:∀(l:List (Str×Str×Nat×Nat×Pos×Pos))(ts:List (Tok×Tok)),ts.length=l.length->Carries (strKind PW c.w) (zipWith (λx t=>((.str x.1 t.1,.str x.2.1 t.2):Value×Value)) l ts) ((l.map (·.1)).zip (zipWith (λx t=> .str x.2.1 t.2) l ts)):=by
  intro l;induction l with
  |nil=>intro ts _;trivial
  |cons x l ih=>
   intro ts h
   match ts,h with
   |t::ts,h=>exact⟨strKind_is _ _ _ _,rfl,ih ts (by simpa using h)⟩
 have z:(l.map (·.1)).length=(zipWith (λx t=>(.str x.2.1 t.2:Value)) l ts).length:=by simp[I]
 refine⟨_,J l ts I,Heap.DictOf.new _,λh' hd sb=>?_⟩;rw[nu (acc:=[]) (by rw[nil_append,map_fst_zip (le_of_eq z)];exact hn),nil_append]at hd;refine uw B V (vs:=zipWith (λx t=>(.str x.2.1 t.2:Value)) l ts) (t:=tk') hd z sb ?_;refine lG (by simp[I]) λj v hv=>?_;refine bD (List.getElem?_zipWith_eq_some.mp hv) λx t h1 h2 w=>?_;subst w;exact⟨.str x.2.1,by rw[getElem?_map,h1];rfl,⟨_,rfl⟩⟩
theorem H6{m n:Nat}:Builtin.Str.strSliceIndices none (some (m:Int)) 1 n=(range (min m n)).map (0+ ·):=by
 unfold Builtin.Str.strSliceIndices;have e:(max 0 (min (if(m:Int)<0 then(m:Int)+n else m) n):Int)=((min m n:Nat):Int):=by rw[if_neg (by exact vq (aI 684072 [_] []))];exact NU
 simp only[show(1:Int)>0 from by decide,if_true,e];have:=sliceRange_one 0 (min m n);simpa using this
theorem Cc{m n:Nat}:Builtin.Str.strSliceIndices (some (m:Int)) none 1 n=(range (n-min m n)).map (min m n+ ·):=by
 unfold Builtin.Str.strSliceIndices;have e:(max 0 (min (if(m:Int)<0 then(m:Int)+n else m) n):Int)=((min m n:Nat):Int):=by rw[if_neg (by exact vq (aI 684072 [_] []))];exact NU
 simp only[show(1:Int)>0 from by decide,if_true,e];exact sliceRange_one (min m n) n
theorem xR{w:List Nat}{i:Nat}:(tx w).cps[i]? =w[i]? :=by simp[tx]
theorem sC{w:List Nat}{m:Nat}:dm (tx w) none (some (m:Int)) none=tx (w.take m):=by
 unfold dm;simp only[getD_none,BEq.rfl,Bool.true_and,H6,df,length_map,length_range,beq_iff_eq];split
 .rename_i h;rw[take_of_length_le (by exact aM 50479106976 [_,_,_] [] (ju h) yo)]
 .simp only[xR,cX (a:=0)];unfold tx;congr 2;simp only[drop_zero];rcases le_or_ge m w.length with h|h
  .rw[min_eq_left h]
  .rw[min_eq_right h,take_of_length_le h];simp
theorem nc{w:List Nat}{m:Nat}:dm (tx w) (some (m:Int)) none none=tx (w.drop m):=by
 unfold dm;simp only[getD_none,BEq.rfl,Bool.true_and,Cc,df,length_map,length_range,beq_iff_eq];split
 .rename_i h;by_cases D:m=0
  .subst D;rfl
  .have z:w=[]:=eq_nil_of_length_eq_zero (by lia);subst z;simp
 .simp only[xR,cX];unfold tx;congr 2;rcases le_or_ge m w.length with h|h
  .rw[min_eq_left h,take_of_length_le (by rw[length_drop];exact le_refl _)]
  .rw[min_eq_right h,List.drop_of_length_le h];simp
theorem xl{xs:List D}{a b:Nat}(h:a<=b):dn xs (some (a:Int)) (some (b:Int)) none=(xs.drop a).take (b-a):=by
 unfold dn;rw[sliceBounds_plain];simp only[elim,clipAt_nat,sliceRange_one,cX];rcases le_or_ge a xs.length with z|z
 .rw[min_eq_left z];rcases le_or_ge b xs.length with I|I
  .rw[min_eq_left I]
  .rw[min_eq_right I,take_of_length_le (by rw[length_drop];exact le_refl _),take_of_length_le (by rw[length_drop];exact cU 0xcb1e0ed0dca10ba0 [_,_,_,_,_] [] (dE (ao 12192672 [_,_] [] z)) I eC)]
 .rw[min_eq_right z,List.drop_length,List.drop_of_length_le z];simp
noncomputable def jK:List (List Nat):=[[102,102],[102,105],[102,108],[102,102,105],[102,102,108]]
noncomputable def jC:List Nat:=[64256,64257,64258,64259,64260]
noncomputable def eA:List Nat:=[173,847,6150,6155,6156,6157,8203,8204,8205,8288,65279]++(range 16).map (65024+ ·)
noncomputable def fc:List Nat:=[97,65,119808,119860,119912,120016,120172,120224,120276,120328,120380,120432]
noncomputable def dC:List Nat:=[172,174,846,848,6149,6151,6154,6158,8202,8206,8287,8289,65023,65040,65278,65280]
noncomputable def aW(w:List Nat)(kind:Nat):Nat:=if 11<kind/\w.take 3∈jK then 3 else if 11<kind/\w.take 2∈jK then 2 else 1
noncomputable def codeOf(w:List Nat)(kind:Nat):Nat:=
 match(aO jK (w.take (aW w kind))).bind (jC[·]?)with
 |some x=>x
 |none=>fc.getD (kind%12) 0+w.headD 0-97
noncomputable def gp:Nat->List Nat->Nat->List Nat->List Nat
 |0,_,_,z=>z
 |f+1,[],_,z=>z
 |f+1,w,num,z=>gp f (w.drop (w.take (aW w (num/29%24))).length) (num/696) (z++(eA.drop (num%29)).take 1++[codeOf w (num/29%24)])
noncomputable def d9(w:List Nat)(num:Nat):List Nat:=gp w.length w (num/16) [dC.getD (num%16) 0]
theorem yI{a b:List Nat}(h:tx a=tx b):a=b:=by
 have:(tx a).cps.toList=(tx b).cps.toList:=by rw[h]
 simpa[tx]using this
theorem pI{p:List Nat}:∀{ks:List (List Nat)},aO (ks.map tx) (tx p)=aO ks p
 |[]=>rfl
 |a::ks=>by
  simp only[map_cons,cW,pI];by_cases h:a=p
  .subst h;simp
  .rw[if_neg h,if_neg (λe=>h (yI e))]
theorem lX{p:List Nat}{ks:List (List Nat)}:(ks.map tx).contains (tx p)=decide (p∈ks):=by
 rw[Bool.eq_iff_iff];simp only[List.contains_iff_mem,mem_map,decide_eq_true_eq];constructor
 .rintro⟨a,D,z⟩;rw[<-yI z];exact D
 .exact λh=>⟨p,h,rfl⟩
theorem IG:(["ff","fi","fl","ffi","ffl"]:List Str)=jK.map tx:=by decide
theorem IE:(["ﬀ","ﬁ","ﬂ","ﬃ","ﬄ"]:List Str)=jC.map λc=>tx [c]:=by decide
noncomputable def g9:D:= .fG (jK.map tx) (jC.map λc=> .str (tx [c]))
theorem nE{x:Nat}:∀{ys:List Nat},nG x (ys.map ax)=some (ys.contains x)
 |[]=>rfl
 |y::ys=>by
  show((nG (x:Int) (ys.map ax)).map λb=>((y:Nat):Int)==(x:Int)||b)=_;rw[nE];show some _=some _;congr 1;rw[List.contains_cons,Bool.eq_iff_iff];simp only[or_eq_true,beq_iff_eq];constructor
  .rintro(h|h)
   .left;exact dG (ao 3081210784 [_,_] [] (rQ h)) (ao 3081210784 [_,_] [] (t7 h))
   .right;exact h
  .rintro(h|h)
   .left;exact dq (ao 3121314424 [_,_] [] (ju h)) (ao 3121314424 [_,_] [] (dX h))
   .right;exact h
theorem Ap{a b:Nat}:(a:Int).fmod (b:Int)=((a%b:Nat):Int):=by rw[Int.fmod_eq_emod_of_nonneg _ (natCast_nonneg _)];exact(Int.natCast_emod _ _).symm
theorem nU{a b:Nat}:(a:Int).fdiv (b:Int)=((a/b:Nat):Int):=by rw[fdiv_eq_ediv_of_nonneg _ (natCast_nonneg _)];exact(Int.natCast_ediv _ _).symm
theorem cB{a b:Nat}(h:b≠0):gf .Mod (.int (a:Nat)) (.int (b:Nat))=some (.int ((a%b:Nat):Int)):=by rw[eo (by exact oD (ao 0xa1120210a71120218 [_] [] (NW (aI 40992 [_] []) h))),Ap]
theorem fU{a b:Nat}(h:b≠0)(hb:b<2^64):gf .FloorDiv (.int (a:Nat)) (.int (b:Nat))=some (.int ((a/b:Nat):Int)):=by rw[fT (dW (by exact oD (ao 0xa1120210a71120218 [_] [] (NW (aI 40992 [_] []) h))) (by rw[natAbs_natCast];exact lt_trans hb (by decide+kernel))),nU]
theorem sz{a:Nat}{r:List Nat}{kind:Nat}:1<=aW (a::r) kind/\aW (a::r) kind<=3/\1<=((a::r).take (aW (a::r) kind)).length/\
 aW (a::r) kind∈1::([2,3].filter λk=>decide (11<kind)&&decide ((a::r).take k∈jK))/\(∀x∈1::([2,3].filter λk=>decide (11<kind)&&decide ((a::r).take k∈jK)),x<=aW (a::r) kind)/\
 ((a::r).take (aW (a::r) kind)∉jK->(a::r).take (aW (a::r) kind)=[a]):=by
 have len:∀m,1<=m->1<=((a::r).take m).length:=λm h=>by rw[length_take,length_cons];exact(le_total (m) ((r.length)+1)).elim (λI=>aM 0xab0b1120a1120 [_,_] [] h (G6 I)) λI=>ao 0xa112b10a1120 [_,_] [] (KP I)
 unfold aW;split
 .rename_i h;refine⟨by exact aI 51515680 [] [],by exact aI 51523872 [] [],len _ (by exact aI 51515680 [] []),?_,?_,λhn=>absurd h.2 hn⟩
  .exact mem_cons_of_mem _ (mem_filter.mpr ⟨by simp,by simp only[and_eq_true,decide_eq_true_eq];exact h⟩)
  .intro x z;simp only[mem_cons,mem_filter,not_mem_nil,or_false]at z;lia
 .rename_i J;split
  .rename_i h;refine⟨by exact aI 34738464 [] [],by exact aI 51519776 [] [],len _ (by exact aI 34738464 [] []),?_,?_,λhn=>absurd h.2 hn⟩
   .exact mem_cons_of_mem _ (mem_filter.mpr ⟨by simp,by simp only[and_eq_true,decide_eq_true_eq];exact h⟩)
   .intro x z;simp only[mem_cons,mem_filter,not_mem_nil,or_false,and_eq_true,decide_eq_true_eq]at z;rcases z with rfl|⟨rfl|rfl,D⟩
    .exact aI 34738464 [] []
    .exact aI 34742560 [] []
    .exact absurd D J
  .rename_i Y;refine⟨by exact aI 17961248 [] [],by exact aI 51515680 [] [],len _ (by exact aI 17961248 [] []),by simp,?_,λ_=>rfl⟩;intro x z;simp only[mem_cons,mem_filter,not_mem_nil,or_false,and_eq_true,decide_eq_true_eq]at z;rcases z with rfl|⟨rfl|rfl,D⟩
   .exact aI 17961248 [] []
   .exact absurd D Y
   .exact absurd D J
theorem lR{K:Type} [DecidableEq K]:∀{ks:List K}{k:K},k∉ks->aO ks k=none
 |[],_,_=>rfl
 |a::ks,k,h=>by simp only[mem_cons,not_or]at h;simp only[cW];rw[if_neg (λe=>h.1 e.symm),lR h.2];rfl
theorem lQ{K:Type} [DecidableEq K]:∀{ks:List K}{k:K},k∈ks->∃j,aO ks k=some j/\j<ks.length
 |a::ks,k,h=>by
  simp only[cW];by_cases e:a=k
  .exact⟨0,by rw[if_pos e],by simp⟩
  .rw[if_neg e];rcases dg h with h|h
   .exact absurd h.symm e
   .refine aq (lQ h) λj D z=>?_;exact⟨j+1,by rw[D];rfl,by simp;exact ao 0xb112a10b112a10 [_,_] [] z⟩
noncomputable def Oh(x:Int×Nat×Pos):Expr:= .Constant (.int x.1) x.2.1 x.2.2
theorem tr:∀(z:List (Int×Nat×Pos)),oQ c A O ρ G (z.map Oh) (z.map λx=> .int x.1)
 |[]=>ai
 |x::z=>ae aj (tr z) rfl
theorem rq{es:List Expr}{pos:Pos}(z:List (Int×Nat×Pos))(h:es=z.map Oh)(hz:z.length<=1000):Ev c A O ρ G (.List es pos) (.list (z.map λx=> .int x.1)):=by subst h;exact bq (tr z) (aD (by rw[length_map];exact ao 0x3e832a03d090062a0 [_] [] hz))
theorem Cb{x:Str}{p pos:Pos}{e:Expr}{od:OD}{rest:List Stmt}{Q:Flow->Shared->Prop}(F:Fs c ah af H O ρ own s)(he:∀G,BQ c A O ρ G e od)(hb:kK O H x)(ho:own.all (λe=> !(e.1==x))=true)
 (hs:swapsWith e (some (.Name x p)) pos.line O=pure false)(z:∀a U,a∉H.X->Fs c ah af (H.add a) O ((x,.adr a)::ρ) ((x,a,od)::own) U->wpAny (model PW c.w) A (execs rest O) Q E U):
 gh (wpAny (model PW c.w) A (execs (.Assign [.Name x p] e pos::rest) O) Q E s):=⟨iS F he hb ho hs z⟩
noncomputable def KJ:Stmt->Expr
 | .Assign _ v _=>v
 |_=> .Constant .none 0 ⟨0,0,0,0⟩
noncomputable def JW:Expr->Expr
 | .BinOp l _ _ _=>l
 |_=> .Constant .none 0 ⟨0,0,0,0⟩
noncomputable def Ld:Expr->Expr
 | .List [.Subscript v _ _] _=>v
 |_=> .Constant .none 0 ⟨0,0,0,0⟩
noncomputable def intsOf:Expr->List (Int×Nat×Pos)
 | .List es _=>es.filterMap λe=>match e with| .Constant (.int i) n p=>some (i,n,p)|_=>none
 |_=>[]
noncomputable def strsOf:Expr->List (Str×Str×Nat×Nat×Pos×Pos)
 | .Dict ks vs _=>(ks.zip vs).filterMap λe=>match e with|(some (.Constant (.str k) n p),.Constant (.str v) m q)=>some (k,v,n,m,p,q)|_=>none
 |_=>[]
theorem AK:((intsOf (cR (oC (bp (aw 20)) 2))).map λx=>D.int x.1)=fc.map ax:=by rfl
theorem F9:((intsOf (JW (cR (oC (bp (aw 20)) 1)))).map λx=>D.int x.1)++aJ 65024 65040=eA.map ax:=by rfl
theorem Aq:((intsOf (Ld (cR (oC (bp (aw 20)) 3)))).map λx=>D.int x.1)=dC.map ax:=by rfl
theorem xF:D.fG ((strsOf (cR (oC (bp (aw 20)) 0))).map (·.1)) ((strsOf (cR (oC (bp (aw 20)) 0))).map λx=> .str x.2.1)=g9:=by show D.fG (["ff","fi","fl","ffi","ffl"]:List Str) ((["ﬀ","ﬁ","ﬂ","ﬃ","ﬄ"]:List Str).map .str)=_;rw[IG,IE,map_map];rfl
theorem uT{i:Nat}(h:i<16):(dC.map ax)[i]? =some (ax (dC.getD i 0)):=by rw[getElem?_map,getD_eq_getElem?_getD,getElem?_eq_getElem (by simpa[dC]using h)];rfl
theorem u0{i:Nat}(h:i<12):(fc.map ax)[i]? =some (ax (fc.getD i 0)):=by rw[getElem?_map,getD_eq_getElem?_getD,getElem?_eq_getElem (by simpa[fc]using h)];rfl
structure J0(ρ:List (Str×D))(w:List Nat)(num:Nat):Prop where
 word:ρ.lookup ("word":Str)=some (.str (tx w))
 number:ρ.lookup ("number":Str)=some (.int (num:Nat))
 joined:ρ.lookup ("joined":Str)=some g9
 hidden:ρ.lookup ("hidden":Str)=some (.list (eA.map ax))
 AL:ρ.lookup ("dress":Str)=some (.list (fc.map ax))
set_option maxHeartbeats 4000000 in
theorem zy(g:Gl c)(R:aL A 20){v:Value}(f:FnAt c 20 "_law_typed" v){Y:List Nat}{z:Nat}(hlen:Y.length<=100)(Qk:∀x∈Y,x=102\/x=105\/x=108)(Mv:∀x∈d9 Y z,x<=0x10FFFF)(Sa:(d9 Y z).length<=1000):
 Callee c A v [.str (tx Y),.int z] (.tup [.list ((d9 Y z).map λx=> .str (tx [x])),.list ((d9 Y z).map λx=> .bool (eA.contains x))]):=by
 refine br g.B R f.f rfl rfl rfl rfl (by decide) (by decide) (by decide) λA' L ad cd G E af s Q kq R' F=>?_;refine @gh.out _ (bS (d:=g9) F (λG=>?_) (.inr (show _∈cw (ak (aw 20)) by decide)) rfl rfl λU F=>?_)
 .exact xF▸yd g.B (strsOf (cR (oC (bp (aw 20)) 0))) (by decide) (by decide) (by decide) rfl
 refine @gh.out _ (bS (d:= .list (eA.map ax)) F (λG=>?_) (.inr (show _∈cw (ak (aw 20)) by decide)) rfl rfl λU F=>?_)
 .exact ag (rq (intsOf (JW (cR (oC (bp (aw 20)) 1)))) rfl (by decide)) (xY g.B R'.handled rfl (g.no _ (by decide)) rfl (g.no _ (by decide)) aj aj rfl rfl rfl (by decide) (by decide) (by decide) (by decide) (by decide) (by decide)) (by rw[<-F9];exact dI (by rw[length_map];decide))
 refine @gh.out _ (bS (d:= .list (fc.map ax)) F (λG=>?_) (.inl rfl) rfl rfl λU F=>?_)
 .rw[<-AK];exact rq _ rfl (by decide)
 refine @gh.out _ (Cb (od:= .lst ([dC.getD (z%16) 0].map ax)) F (λG=>je (ae (aS (o:= .list (dC.map ax)) (i:= .int (z%16:Nat)) ?_ (ag (a:= .int z) (b:= .int (16:Nat)) (aa rfl) aj (cB (by decide))) ?_) ai)) (.inl rfl) rfl rfl λal U vZ F=>?_)
 .rw[<-Aq];exact rq _ rfl (by decide)
 .rw[kN (by exact ao 0x1022112a10186a052a0 [_] [] DZ)];exact uT (mod_lt _ (by decide))
 refine mO (x:="number") (a:= .int z) (b:= .int (16:Nat)) (d:= .int (z/16:Nat)) F rfl (λG=>aj) rfl ?_ (.inl rfl) rfl λU F=>?_
 .rw[vX (by decide),nU]
 have Se:g9= .fG (jK.map tx) (jC.map λc=> .str (tx [c])):=rfl
 refine yW F (λn ρ own=>∃(w:List Nat)(num:Nat)(I:List Nat)(fu:Nat),n=w.length/\w.length<=fu/\gp fu w num I=d9 Y z/\own=[(("codes":Str),al,OD.lst (I.map ax))]/\J0 ρ w num/\(∀x∈w,x=102\/x=105\/x=108)/\I.length+2*w.length<=201/\ρ.lookup ("codes":Str)=some (.adr al))
  Y.length ⟨Y,z/16,[dC.getD (z%16) 0],Y.length,rfl,le_refl _,rfl,rfl,⟨rfl,rfl,rfl,rfl,rfl⟩,Qk,by simp;exact ao 0x6422a1c922a21311210 [_] [] hlen,rfl⟩ ?_ ?_ ?_
 .intro n ρ own w9;refine Dq w9 λw num I fu Bz _ _ _ st _ hb _=>?_;clear w9;obtain rfl:=Bz;intro G;refine gU (aa st.word) ?_;show(if sizeOk (tx w).length then some ((tx w).length !=0)else none)=_;rw[df,if_pos (aD (by exact ao 0xc922a213b103d090062a1 [_,_] [] hb))];congr 1;cases w<;>simp
 .intro E' n ρ own s Q' kn kb kr w9;refine Dq w9 λw num I fu hn Jg LN HV st rf Em yt=>?_;clear w9;obtain rfl:=HV;intro F;obtain⟨a,r,rfl⟩:∃a r,w=a::r:=by
   cases w with
   |nil=>simp at hn
   |cons a r=>exact⟨a,r,rfl⟩
  obtain⟨fu,rfl⟩:∃f',fu=f'+1:=⟨fu-1,by simp at Jg;exact dG (ao 4832465291227552 [_,_] [] eC) (ao 0xb112a10b112a10 [_,_] [] (dE (ao 0xa112b10a1120 [_,_] [] Jg)))⟩;have gM:gp fu ((a::r).drop ((a::r).take (aW (a::r) (num/29%24))).length) (num/696) (I++(eA.drop (num%29)).take 1++[codeOf (a::r) (num/29%24)])=d9 Y z:=LN;have BF:=rf a (.head _);generalize Kt:num/29%24=kind at gM;refine Du (sz (a:=a) (r:=r) (kind:=kind)) λm1 m2 m3 m4 m5 m6=>?_;have BB:(tx (a::r)).length<=4000000:=by rw[df];exact ao 0xc922a213b103d090062a1 [_,_] [] Em
  refine yY (es:=((eA.drop (num%29)).take 1).map ax) F (λG=>cK (o:= .list (eA.map ax)) (lo:=some ((num%29:Nat):Int)) (hi:=some ((num%29+1:Nat):Int)) (st:=none) (aa st.hidden) (ag (a:= .int num) (b:= .int (29:Nat)) (aa st.number) aj (cB (by decide))) (ag (a:= .int (num%29:Nat)) (b:= .int 1) (ag (a:= .int num) (b:= .int (29:Nat)) (aa st.number) aj (cB (by decide))) aj rfl) trivial ?_) rfl ?_ λU F=>?_
  .show(if sizeOk (eA.map ax).length then some (D.list (dn (eA.map ax) _ _ none))else none)=_;rw[if_pos (by decide),xl (by exact aI 17998240 [_] []),show num%29+1-num%29=1 from by exact dG (ao 4832472269394592 [_,_] [] (dE (aI 17998240 [_] []))) (ao 0xba1112b10a1120 [_,_] [] eC),map_take,map_drop]
  .rw[length_map,length_map,length_take];exact aM 0x112b0c922c213a103d090062ba10 [_,_,_] [] Em yo
  refine av (d:= .int (kind:Nat)) F (λG=>ag (a:= .int (num/29:Nat)) (b:= .int (24:Nat)) (ag (a:= .int num) (b:= .int (29:Nat)) (aa st.number) aj (fU (by decide) (by decide))) aj (by rw[cB (by decide),Kt])) (.inr (show _∈cw (ak (aw 20)) by decide)) rfl rfl λU F=>?_;have J:J0 ((("kind":Str),D.int (kind:Nat))::(("codes":Str),D.adr al)::ρ) (a::r) num:=⟨st.word,st.number,st.joined,st.hidden,st.AL⟩;have BH:(((("kind":Str),D.int (kind:Nat))::(("codes":Str),D.adr al)::ρ):List (Str×D)).lookup ("kind":Str)=some (.int (kind:Nat)):=rfl;have Ek:(((("kind":Str),D.int (kind:Nat))::(("codes":Str),D.adr al)::ρ):List (Str×D)).lookup ("codes":Str)=some (.adr al):=rfl;generalize (((("kind":Str),D.int (kind:Nat))::(("codes":Str),D.adr al)::ρ):List (Str×D))=ρ₁ at F J BH Ek;have Ob:∀(m:Nat),y7 (.str (tx (a::r))) none (some (m:Int)) none=some (.str (tx ((a::r).take m))):=λm=>by show(if sizeOk (dm (tx (a::r)) none (some (m:Int)) none).length then some (D.str (dm (tx (a::r)) none (some (m:Int)) none))else none)=_;rw[sC,if_pos (aD (by rw[df,length_take];rw[df]at BB;exact aM 0x3d090062b0ba03d090062a0 [_,_] [] Bx BB))]
  refine av (d:= .str (tx ((a::r).take (aW (a::r) kind)))) F (λG=>cK (o:= .str (tx (a::r))) (lo:=none) (hi:=some ((aW (a::r) kind:Nat):Int)) (st:=none) (aa J.word) trivial ?_ trivial (Ob _)) (.inl rfl) rfl rfl λU F=>?_
  .refine aF g.B rfl (g.no _ (by decide)) boot_max (by decide) (.b _) (ae (d:= .list (((1::([2,3].filter λk=>decide (11<kind)&&decide ((a::r).take k∈jK))).map λ(n:Nat)=>(n:Int)).map .int))
    (aB (ag (a:= .list [.int 1]) (b:= .list (([2,3].filter λk=>decide (11<kind)&&decide ((a::r).take k∈jK)).map ax)) (bq (ae aj ai))
     (aB (bJ (ds:=[ax 2,ax 3]) (p:=λd=>decide (11<kind)&&decide ((a::r).take (fk d)∈jK)) (g:=λd=>d) (ρd:=λd=>("k",d)::bo _ _ _) (ke R'.handled (bb (ae aj (ae aj ai)))) rfl rfl (by decide) (by decide) (λ_=>rfl) (λC H d _ _=>au (.inl rfl) rfl) (λd hd x e h=>qt rfl h) (λC G d hd=>?_) (λC G d hd _=>aa rfl) (by simp)) ?_) (dI ?_)) ?_) ai) rfl (rA R' (mem_map.mpr ⟨_,m4,rfl⟩) (λx hx=>by
     refine aq (et hx) λn h1 gD=>?_;obtain rfl:=gD;have:=m5 n h1;exact ao 3121314424 [_,_] [] this))
   .obtain⟨k,rfl⟩:∃k:Nat,d=ax k:=by
     simp only[mem_cons,not_mem_nil,or_false]at hd;rcases hd with rfl|rfl
     .exact⟨2,rfl⟩
     .exact⟨3,rfl⟩
    have ek:fk (ax k)=k:=rfl;rw[ek];refine ee ?_;by_cases KG:11<kind
    .rw[decide_eq_true KG,Bool.true_and];refine rU (aC g.B R' (a:= .int (kind:Nat)) (b:= .int 11) (aa (fA rfl rfl BH)) aj (by show some (decide ((11:Int)< (kind:Nat)))=some true;rw[decide_eq_true (by exact ao 0xa112b1210a7112b1218 [_] [] KG)])) (aC g.B R' (a:= .str (tx ((a::r).take k))) (b:=g9) (cK (o:= .str (tx (a::r))) (lo:=none) (hi:=some (k:Int)) (st:=none) (aa (fA rfl rfl J.word)) trivial (aa rfl) trivial (Ob k)) (aa (fA rfl rfl J.joined)) ?_);show some ((jK.map tx).contains (tx ((a::r).take k)))=_;rw[lX]
    .rw[decide_eq_false KG,Bool.false_and];exact rV (aC g.B R' (a:= .int (kind:Nat)) (b:= .int 11) (aa (fA rfl rfl BH)) aj (by show some (decide ((11:Int)< (kind:Nat)))=some false;rw[decide_eq_false (by exact vq (ao 0xb12a0b12a78 [_] [] (NY KG)))]))
   .show D.list ((([2,3].map ax).filter λd=>decide (11<kind)&&decide ((a::r).take (fk d)∈jK)).map λd=>d)=_;rw[List.map_id',filter_map];rfl
   .rw[length_map];exact le_trans (add_le_add_left (length_filter_le _ _) _) (by simp)
   .rw[map_map];rfl
  have Qx:ij .In (.str (tx ((a::r).take (aW (a::r) kind)))) g9=some (decide ((a::r).take (aW (a::r) kind)∈jK)):=by show some ((jK.map tx).contains _)=_;rw[lX]
  refine jm (d:=ax (codeOf (a::r) kind)) F (λG=>pR (b:=decide ((a::r).take (aW (a::r) kind)∈jK)) (aC g.B R' (aa rfl) (aa J.joined) Qx) (λh=>?_) (λh=>?_)) rfl (aD ?_) (λU F=>?_) rfl rfl rfl rfl rfl rfl
  .have Je:(a::r).take (aW (a::r) kind)∈jK:=by simpa using h
   refine aq (lQ Je) λjx Ag F8=>?_;have OJ:jx<jC.length:=F8;have iy:codeOf (a::r) kind=jC[jx]:=by unfold codeOf;rw[Ag];simp[getElem?_eq_getElem OJ]
   refine aB (aF g.B rfl (g.no _ (by decide)) boot_ord (by decide) (.b _) (ae (d:= .str (tx [jC[jx]])) (aS (o:=g9) (i:= .str (tx ((a::r).take (aW (a::r) kind)))) (aa J.joined) (aa rfl) ?_) ai) rfl tP) (by rw[iy];rfl);show(aO (jK.map tx) (tx ((a::r).take (aW (a::r) kind)))).bind ((jC.map λc=>D.str (tx [c]))[·]?)=_;rw[pI,Ag];show(jC.map λc=>D.str (tx [c]))[jx]? =_;rw[getElem?_map,getElem?_eq_getElem OJ];rfl
  .have Ja:(a::r).take (aW (a::r) kind)∉jK:=by simpa using h
   have hp:=m6 Ja;have iy:codeOf (a::r) kind=fc.getD (kind%12) 0+a-97:=by unfold codeOf;rw[lR Ja];rfl
   refine aB (ag (a:= .int ((fc.getD (kind%12) 0:Nat)+(a:Nat):Int)) (b:= .int 97) (ag (a:= .int (fc.getD (kind%12) 0:Nat)) (b:= .int (a:Nat)) (aS (o:= .list (fc.map ax)) (i:= .int (kind%12:Nat)) (aa J.AL) (ag (a:= .int (kind:Nat)) (b:= .int (12:Nat)) (aa BH) aj (cB (by decide))) ?_) (aF g.B rfl (g.no _ (by decide)) boot_ord (by decide) (.b _) (ae (d:= .str (tx [a])) (aB (aa rfl) (by rw[hp])) ai) rfl tP) rfl) aj rfl) ?_
   .rw[kN (by exact ao 0xc12112a10186a052a0 [_] [] DZ)];exact u0 (mod_lt _ (by decide))
   .rw[iy];show D.int _=D.int _;exact congrArg D.int (Pl BF)
  .rw[length_append,length_map,length_map,length_take];exact aM 0x112b0c922c213a103d090062ba10 [_,_,_] [] Em yo
  refine av (d:= .str (tx ((a::r).drop ((a::r).take (aW (a::r) kind)).length))) F (λG=>cK (o:= .str (tx (a::r))) (lo:=some ((((a::r).take (aW (a::r) kind)).length:Nat):Int)) (hi:=none) (st:=none) (aa J.word) (aF g.B rfl (g.no _ (by decide)) boot_len (by decide) (.b _) (ae (d:= .str (tx ((a::r).take (aW (a::r) kind)))) (aa rfl) ai) rfl (gP ?_)) trivial trivial ?_) (.inr (show _∈cw (ak (aw 20)) by decide)) rfl rfl λU F=>?_
  .show(if sizeOk (tx ((a::r).take (aW (a::r) kind))).length then some ((((tx ((a::r).take (aW (a::r) kind))).length:Nat)):Int)else none)=_;rw[df,if_pos (aD (by rw[length_take];rw[df]at BB;exact aM 0x312b0ba03d090062a0 [_,_] [] yo m2))]
  .show(if sizeOk (dm (tx (a::r)) (some ((((a::r).take (aW (a::r) kind)).length:Nat):Int)) none none).length then some (D.str (dm (tx (a::r)) (some ((((a::r).take (aW (a::r) kind)).length:Nat):Int)) none none))else none)=_;rw[nc,if_pos (aD (by rw[df,length_drop];rw[df]at BB;exact aM 0x3d090062b0ba03d090062a0 [_,_] [] qx BB))]
  refine mO (x:="number") (a:= .int num) (b:= .int (696:Nat)) (d:= .int (num/696:Nat)) F J.number (λG=>aj) rfl ?_ (.inl rfl) rfl λU F=>?_
  .rw[vX (by decide),nU]
  refine wpAny_execs_nil (kn _ ((a::r).drop ((a::r).take (aW (a::r) kind)).length).length _ _ ?_ ?_ F)
  case refine_2=>
   refine⟨(a::r).drop ((a::r).take (aW (a::r) kind)).length,num/696,I++(eA.drop (num%29)).take 1++[codeOf (a::r) kind],fu,rfl,?_,gM,?_,⟨rfl,rfl,J.joined,J.hidden,J.AL⟩,λx hx=>rf x (mem_of_mem_drop hx),?_,?_⟩
   .rw[length_drop];simp only[length_cons]at Jg⊢;exact(le_total ((take (aW (a::r) kind) (a::r)).length) ((r.length)+1)).elim (λq0=>cU 0xc1120112b1112d10112d1ca10ba0 [_,_,_,_] [] (dE q0) Jg m3) λq0=>ao 2755488 [_,_] [] (EF q0)
   .simp only[map_append,map_cons,map_nil,map_take,map_drop]
   .simp only[length_append,length_take,length_drop,length_cons,length_nil]at m3 Em⊢;exact Pm Em m3
   .exact Ek
  .rw[length_drop,<-hn];exact(le_total ((take (aW (a::r) kind) (a::r)).length) ((n)+1)).elim (λq0=>aM 0xc1120112b1ca10112b1112a10 [_,_,_] [] (dE q0) m3) λq0=>ao 0x2a0112b1112a10 [_,_] [] (EF q0)
 .intro ρ own s w9;refine Dq w9 λw num I fu hn Jg LN HV st rf Em yt=>?_;clear w9;obtain rfl:=HV;intro F;have hw:w=[]:=eq_nil_of_length_eq_zero hn.symm;subst hw;have Gg:I=d9 Y z:=by rw[<-LN];cases fu<;>rfl
  subst Gg;have F:=F.freeze ["codes"] (by simpa using yt);refine aK (d:= .tup [.list ((d9 Y z).map λx=> .str (tx [x])),.list ((d9 Y z).map λx=> .bool (eA.contains x))]) F (λG=>?_) λv U F r=>kq _ _ _ _ _ F r
  refine bb (ae (aB (bJ (ds:=(d9 Y z).map ax) (p:=λ_=>true) (g:=λd=> .str (tx [fk d])) (ρd:=λd=>("code",d)::bo _ _ _) (ba R'.handled (aa rfl)) rfl rfl (by decide) (by decide) (λ_=>rfl) (λC H d _ _=>au (.inl rfl) rfl) (λd hd x e h=>qt rfl h) (λC G d hd=>aR) (λC G d hd _=>?_) (by rw[length_map];exact ao 0xc922b213a103d090062a0 [_,_] [] Em)) ?_)
   (ae (aB (bJ (ds:=(d9 Y z).map ax) (p:=λ_=>true) (g:=λd=> .bool (eA.contains (fk d))) (ρd:=λd=>("code",d)::bo _ _ _) (ba R'.handled (aa rfl)) rfl rfl (by decide) (by decide) (λ_=>rfl) (λC H d _ _=>au (.inl rfl) rfl) (λd hd x e h=>qt rfl h) (λC G d hd=>aR) (λC G d hd _=>?_) (by rw[length_map];exact ao 0xc922b213a103d090062a0 [_,_] [] Em)) ?_) ai))
  .refine aq (et hd) λx hx gD=>?_;obtain rfl:=gD;have hc:=Mv x hx;refine aB (aF g.B rfl (g.no _ (by decide)) boot_chr (by decide) (.b _) (ae (d:= .int (x:Nat)) (aa rfl) ai) rfl (JT ?_)) ?_
   .simp only[Bool.or_eq_false_iff,decide_eq_false_iff_not];exact⟨vq (aI 684072 [_] []),vq (ao 0x10ffff62a010ffff62a78 [_] [] hc)⟩
   .simp[ax,zW,tx]
  .rw[oS (λ_ _=>rfl),map_map];congr 1
  .refine aq (et hd) λx hx gD=>?_;obtain rfl:=gD;refine ia g.B R' (a:= .int (x:Nat)) (b:= .list (eA.map ax)) (aa rfl) (aa (fA rfl rfl ?_)) nE;exact st.hidden
  .rw[oS (λ_ _=>rfl),map_map];congr 1
end
variable{s₁:Shared}
theorem Fs.reshape(F:Fs c ah af H O ρ own s)(hX:∀a,a∈H'.X↔a∈H.X)(hZ:H'.Z=H.Z)(hY:H'.Y=H.Y)(inv:H'.J s.heap)(eS:∀h h',H'.J h->(∀b∈H'.fp,∀o,h.get? b=some o->h'.get? b=some o)->H'.J h')
 (jz:∀b∈H'.fp,b∉H'.Z)(gQ:∀b∈H'.fp,∃o,s.heap.get? b=some o):Fs c ah af H' O ρ own s:=by
 have up:∀a o,aX ah af H.X s a o->aX ah af H'.X s a o:=by
  rintro a o (h|⟨z,h2,I⟩)
  .exact .inl h
  .exact .inr ⟨z,h2,λhm=>I ((hX a).mp hm)⟩
 exact{
  gd:=F.gd
  rest:=F.rest
  old:=F.old
  new:=λx D=>F.new x ((hX x).mp D)
  ex:=λx D=>F.ex x ((hX x).mp D)
  view:={sub:=by
          rintro b p (h|⟨z,_,_⟩)
          .exact F.view.sub _ _ (.inl h)
          .exact z
         base:=λb p e=>up _ _ (F.view.base b p e)
         toks:=F.view.toks
         kind:=F.view.kind
         glob:=F.view.glob
         fq:=F.view.fq
         vars:=λy d e=>let⟨u,i,q⟩:=F.view.vars y d e;⟨u,i,q.mono up⟩
         apart:=F.apart
         cells:=F.view.cells}
  own:=λe he=>let⟨z,h2,I,o,h4,h5⟩:=F.own e he;⟨by rw[hZ];exact z,h2,I,o,h4,h5.mono up⟩
  frame:=⟨by rw[hZ];exact F.frame.1,F.frame.2⟩
  gR:=λx D=>let⟨z,a,v,h2,I,h4⟩:=F.gR x (by rw[<-hY];exact D);⟨z,a,v,h2,by rw[hZ];exact I,h4⟩
  zx:=λa ha=>(hX a).mpr (F.zx a (by rw[<-hZ];exact ha))
  inv:=inv
  eS:=eS
  jz:=jz
  gQ:=gQ
  apart:=F.apart
  dt:=λy a h=>⟨(F.dt y a h).1,by
   rcases(F.dt y a h).2 with q|q
   .exact .inl λhm=>q ((hX a).mp hm)
   .exact .inr (by rw[hZ];exact q)⟩}
theorem vJ{H:Hd}{wr fp:List Addr}{P:Nat->Value->Prop}{St:Nat->Heap->Prop}{I:Addr}{n:Nat}(W:Walks PW c.w A I fp wr n P St)(hT:∀t∈T,t∈H.X)(z:∀b∈fp,b∉T)(s₁:Shared)(i:Nat):Bv T (λL=>HI (H.pin L) wr fp St s₁ i) where
 X:=λ_ _=>rfl
 Z:=λ_ _=>rfl
 Y:=λ_ _=>rfl
 inv:=λL h j=>j.1
 step:=λL L' h h' j kp p=>⟨p,W.frame i h h' j.2.1 λb hb o e=>kp b o (z b hb) e,λb hb o e=>kp b o (λht=>(bl.mp hb).1 (cv ((hT b ht)))) (j.2.2 b hb o e)⟩
 fr:=λL h h' hj hk=>⟨λq D=>hk _ (cv ((cv ((mem_map_of_mem D))))) _ (hj.1 q D),W.frame i h h' hj.2.1 λb hb o e=>hk b (d7 hb) o e,
  λb hb o e=>hk b (cv ((d7 hb))) o (hj.2.2 b hb o e)⟩
 fp:=λL b hb=>by
  rcases de hb with h|h
  .exact .inr ⟨z b h,λL'=>d7 h⟩
  .rcases de h with h|h
   .exact .inr ⟨λht=>(bl.mp h).1 (cv ((hT b ht))),λL'=>cv ((d7 h))⟩
   .refine aq (et h) λq D J=>?_;obtain rfl:=J;exact .inl ⟨_,D⟩
structure NH(c:Cx)(T:List Addr)(b8:List Tb)(O:Env)(G:PH)(Ls:List (Addr×Obj))(s:Shared):Prop where
 hG:∀a o,G a o->a∉T
 hT:∀t∈T,∃o,s.heap.get? t=some o
 pin:jM Ls s.heap
 told:∀t∈b8,Told Ls t
 lz:∀q∈Ls,q.1∈T\/G q.1 q.2
 cells:∀x a,O.cells.lookup x=some a->a∉T
theorem yn.CE{e:Expr}{d:D}(h:∀E s G Ls,Vw c O ρ G s->NH c T b8 O G Ls s->wpAny (model PW c.w) A (eval e O) (λv U=>∃bL,jy c T b8 fs G s Ls bL d v U) E s):yn c A T b8 fs O ρ e d:=
 λah af s HH eT ct Ls own E Q I F P Y=>by
  refine wpAny_mono (wpAny_toks (h E s _ Ls F.view ⟨?_,λt ht=>F.ex t (P.hX t ht),I.inv _ _ F.inv,P.told,λq J=>(P.lz q J).imp id λz=>z.imp id λz=>⟨I.inv _ _ F.inv q J,dy z.1,z.2⟩,λx a hx ht=>?_⟩)) (λv U q=>?_) λ_ _ e=>e.2
  .rintro a o (q|⟨_,_,q⟩) ht
   .have:=F.gd.sub a o q;rw[show(aN af T).heap.get? a=none from hideAll_none _ ht]at this;exact ns this
   .exact q (P.hX a ht)
  .rcases(F.dt x a hx).2 with q|q
   .exact q (P.hX a ht)
   .exact P.hZ a ht q
  .obtain⟨tk,bL,st⟩:=q;refine eJ (F.D3 I P tk st) λF' P' r=>?_;exact Y v U bL F' P' r st.old
theorem ve{elt:Expr}{x:Str}{px:Pos}{gens:List Comprehension}{scope:Scope}{pos:Pos}{depth:Nat}{I:Addr}{fp wr:List Addr}{Pv:Nat->Value->Prop}{St:Nat->Heap->Prop}{ds:List D}{g:D->D}{J:Env}{R:Result->Shared->Prop}
 (Hx:∀t∈T,t∈H.X)(pJ:∀b∈wr,s.heap.get? b=none)(Oy:∀b∈wr,b∉H.X)(OR:∀a o,G a o->s.heap.get? a=some o)(Q6:∀t∈T,∃o,s.heap.get? t=some o)(QW:∀x a,J.cells.lookup x=some a->a∉wr)
 (Wd:tV c A G (aN s T) H I fp wr Pv St s₁ ds)(CZ:∀b∈fp,b∉T)(F1:Fs c G (aN s T) (HI (H.pin Ls) wr fp St s₁ 0) J ρ [] s₁)(P1:PS T b8 [] Ls G s (HI (H.pin Ls) wr fp St s₁ 0) Ls)(acc:Acc c G (aN s T) (HI (H.pin Ls) wr fp St s₁ 0) Dn [] s₁)
 (v9:Dn∈H.X)(Al:Dn∉H.fp)(KD:Dn∉T)(Rb:s.heap.get? Dn=none)(jQ:ds≠[])(hx:J.kindOf x=some .local\/x∈H.Y)
 (kg:∀(Q:Fin->Shared->Prop)(E:Value->Shared->Prop)(s:Shared),wpAny (model PW c.w) A (pyNext (.ref I)) (λr s₁=>match r with
  |none=>Q (.done .next) s₁
  |some v=>wpAny (model PW c.w) A (letOwnedTupleGo (.Name x px) (.ref I) v) (λ_ ay=>wpAny (model PW c.w) A (assign (.Name x px) J v) (λ_ bB=>wpAny (model PW c.w) A (dJ [] J) (λok dY=>if ok=true then wpAny (model PW c.w) A (eval elt J) (λy fX=>wpAny (model PW c.w) A (call (.builtin "list.append") [.ref Dn,y]) (λ_ jY=>Q (.again (.compLoop (.ListComp elt gens scope pos) depth (.ref I) (.ref Dn) J)) jY) E fX) E dY else Q (.again (.compLoop (.ListComp elt gens scope pos) depth (.ref I) (.ref Dn) J)) dY) E bB) E ay) E s₁) E s->
  wpAny (model PW c.w) A (compTurn (.ListComp elt gens scope pos) depth (.ref I) (.ref Dn) J) Q E s)
 (Mn:∀d∈ds,yn c A T b8 fs J ((x,d)::ρ) elt (g d))(FT:ρ.lookup x=none)(hlen:ds.length<=4000000)
 (fin:∀U L,Fs c G (aN s T) (H.pin L) J ρ [] U->PS T b8 fs Ls G s H L->Acc c G (aN s T) H Dn (ds.map g) U->R (.ok .next) U):
 codeAny (model PW c.w) A (.compLoop (.ListComp elt gens scope pos) depth (.ref I) (.ref Dn) J) R s₁:=by
 obtain⟨W,hex,hP,T',KA,BM⟩:=Wd;have En:Dn∉wr:=λhm=>Oy Dn hm v9;have data:∀(ay:Shared),(∀b∈iU (wr++H.X) s₁,∀o,s₁.heap.get? b=some o->ay.heap.get? b=some o)->∀i v,i<ds.length->Pv i v->∃d,ds[i]? =some d/\Rep c.w c.C (aX G (aN s T) (wr++H.X) ay) d v:=λay hk i v jW hv=>by
  refine aq (hP i v jW hv) λd h1 h2=>?_;refine⟨d,h1,h2.mono ?_⟩;rintro a o (h|⟨h1,h2,hn⟩)
  .exact .inl h
  .exact .inr ⟨hk a (bl.mpr ⟨hn,o,h1⟩) o h1,h2,hn⟩
 have z0:∀{i U L OW},Fs c G (aN s T) (HI (H.pin L) wr fp St s₁ i) J ρ [] U->PS T b8 OW Ls G s (HI (H.pin L) wr fp St s₁ i) L->yy (H.pin L) wr J:=λ{i U L OW}F P=>{
  cA:=λy hy hm=>Oy y hm hy
  iw:=λb hb hm=>by
   refine aq (et hb) λq hq gD=>?_;obtain rfl:=gD;rcases P.lz q hq with z|z|z
   .obtain⟨o,e⟩:=Q6 _ z;rw[pJ _ hm]at e;exact ns e
   .have:=OR _ _ z;rw[pJ _ hm]at this;exact ns this
   .exact z.2 (d7 hm)
  eS:=λh h' hj hk q hq=>hk _ (mem_map_of_mem hq) _ (hj q hq)
  zx:=λa ha=>by
   have:=F.zx a ha;rcases de this with h|h
   .obtain⟨o,e⟩:∃o,U.heap.get? a=some o:=F.ex a this;have h1:a∈(HI (H.pin Ls) wr fp St s₁ 0).X:=d7 h;exact absurd (W.sub a h) (λh2=>F.jz a (d7 h2) ha)
   .exact h
  jz:=λb hb=>F.jz b (cv ((cv hb)))
  gY:=QW
  dt:=λx a h=>by
   rcases(F.dt x a h).2 with q|q
   .exact .inl λhm=>q (cv hm)
   .exact .inr q}
 refine codeAny_loop rfl (λn U=>∃i L,n=ds.length-i/\i<=ds.length/\Fs c G (aN s T) (HI (H.pin L) wr fp St s₁ i) J ρ [] U/\PS T b8 (if i=0 then []else fs) Ls G s (HI (H.pin L) wr fp St s₁ i) L/\Acc c G (aN s T) (HI (H.pin L) wr fp St s₁ i) Dn ((ds.take i).map g) U) ?_ ds.length
  ⟨0,Ls,rfl,zero_le _,F1,P1,by simpa using acc⟩
 intro n U w9;refine k9 w9 λi L gD hle F' P' a'=>?_;clear w9;obtain rfl:=gD;have B:=z0 F' P';show wpAny _ A ((compTurn (.ListComp elt gens scope pos) depth (.ref I) (.ref Dn) J).onRaise (λx=>do noteFrame x J;theTreesLotGoes x)) _ _ U;refine wpAny_noted (kg _ _ U ?_);rcases lt_or_ge i ds.length with jW|BJ
 .refine wpAny_with_toks (le_refl U.toks) (W.item i U _ _ jW F'.inv.2.1 λv h' tk' Gh q8 hk hU=>?_);have F2:=Fs.turn B W.sub hex W.frame F' q8 hk hU;have P2:PS T b8 (if i=0 then []else fs) Ls G s (HI (H.pin L) wr fp St s₁ (i+1)) L:=P';refine aq (data _ F2.inv.2.2 i v jW Gh) λd hd rd=>?_;have a2:Acc c G (aN s T) (HI (H.pin L) wr fp St s₁ (i+1)) Dn ((ds.take i).map g) {U with heap:=h',toks:=tk'}:=by
   refine cC a'.obj λvs n ho l=>?_;refine⟨a'.x,a'.z,a'.fp,vs,n,hk _ _ En ho,l.mono ?_⟩;rintro a o (h|⟨h1,h2,h3⟩)
   .exact .inl h
   .exact .inr ⟨hk a o (λhm=>h3 (d7 hm)) h1,h2,h3⟩
  have rf:wpAny (model PW c.w) A (letOwnedTupleGo (.Name x px) (.ref I) v) (λ_ ay=>ay=({U with heap:=h',toks:=tk'}:Shared)) (notedBy (model PW c.w) A J λe U=>R (.error e) U) {U with heap:=h',toks:=tk'}:=by refine aq (BM _ _ q8) λoi LY Ej=>?_;exact lL LY Ej KA rfl
  refine wpAny_mono rf (λ_ ay e=>?_) λ_ _ e=>e;subst e;have Ge:d∈ds:=mem_of_getElem? hd;refine wpAny_assign_Name (F2.gy hx rd rfl λbB F3 Mc=>?_);have a3:=a2.xn F2 Mc;refine wpAny_tests_nil ?_;rw[if_pos rfl];refine Mn d Ge G s bB (λL=>HI (H.pin L) wr fp St s₁ (i+1)) _ Ls L [] _ _ (vJ W Hx CZ s₁ (i+1)) F3 P2 λy fX L' F5 P5 r5 k5=>?_;have a5:Acc c G (aN s T) (HI (H.pin L') wr fp St s₁ (i+1)) Dn ((ds.take i).map g) fX:=by
   refine cC a3.obj λvs n ho l=>?_;refine⟨a3.x,a3.z,λhm=>?_,vs,n,k5 _ _ KD ho,l.mono ?_⟩
   .rcases de hm with h|h
    .exact a3.fp (d7 h)
    .rcases de h with h|h
     .exact a3.fp (cv ((d7 h)))
     .refine aq (et h) λq hq e=>?_;rcases P5.lz q hq with z|z|z
      .rw[e]at z;exact KD z
      .have:=OR _ _ z;rw[e,Rb]at this;exact ns this
      .rw[e]at z;exact z.2 a3.x
   .rintro a o (h|⟨h1,h2,h3⟩)
    .exact .inl h
    .exact .inr ⟨k5 a o (λht=>h3 (cv ((Hx a ht)))) h1,h2,h3⟩
  have QL:((ds.take i).map g).length<=4000000:=by rw[length_map,length_take];exact aM 0x3d090062b0ba03d090062a0 [_,_] [] Bx hlen
  refine a5.push F5 r5 (aD QL) λu qD F6 a6=>?_;have kh:(ds.take i).map g++[g d]=(ds.take (i+1)).map g:=by rw[take_add_one,hd,map_append];rfl
  rw[kh]at a6;refine⟨rfl,_,by exact aM 0xcb1d0d112c1a10b112a10 [_,_,_,_] [] (dE (ao 0xb112a10b112a10 [_,_] [] jW)) eC,i+1,L',rfl,jW,F6.less (λy e hy=>?_) (λ_ h=>h),?_,a6⟩
  .simp only[lookup_cons];by_cases Ox:y=x
   .rw[Ox,FT]at hy;exact ns hy
   .rw[show(y==x)=false from by simpa using Ox];exact hy
  .rw[if_neg (by exact D0 (aI 18872372691472 [_] []))];refine⟨P5.hX,P5.hZ,P5.told,P5.full,P5.mono,λt ht=>P5.done t ?_,P5.lz⟩;exact d7 ht
 .have BI:i=ds.length:=by exact dG (ao 12192672 [_,_] [] hle) (ao 12192672 [_,_] [] BJ)
  subst BI;refine wpAny_with_toks (le_refl U.toks) (W.done U _ _ F'.inv.2.1 λh' tk' hk hU=>?_);refine fin _ L (Fs.over B F' hk hU) ?_ ?_
  .have FW:ds.length≠0:=λh=>jQ (List.length_eq_zero_iff.mp h);rw[if_neg FW]at P';refine⟨Hx,P'.hZ,P'.told,P'.full,P'.mono,P'.done,λq hq=>(P'.lz q hq).imp id (Or.imp id λz=>⟨z.1,λhm=>z.2 (cv hm)⟩)⟩
  .refine cC a'.obj λvs n ho l=>?_;rw[take_of_length_le (le_refl _)]at l;refine⟨v9,a'.z,?_,vs,n,hk _ _ En ho,l.mono ?_⟩
   .exact Al
   .rintro a o (h|⟨h1,h2,h3⟩)
    .exact .inl h
    .exact .inr ⟨hk a o (λhm=>h3 (d7 hm)) h1,h2,λhm=>h3 (cv hm)⟩
theorem AG{elt iter:Expr}{x:Str}{px:Pos}{scope:Scope}{pos:Pos}{ds:List D}(g:D->D)(hi:∀G,tZ c A O ρ G iter ds)
 (hclos:closureFor scope O=pure (f9 scope O))(hkind:scope.kind= .function)(hnames:∀y∈scope.names,y.2= .local->scope.names.lookup y.1=some .local)(hY:∀y∈cw scope,scope.names.lookup y=some .cell)
 (hs:∀x,foldedSetIterable iter O x=pure x)(hx:∀C,(bE scope O C).kindOf x=some .local\/x∈cw scope)(FT:(bo scope O ρ).lookup x=none)
 (Mn:∀C,∀d∈ds,yn c A T b8 fs (bE scope O C) ((x,d)::bo scope O ρ) elt (g d))(jQ:ds≠[])(hlen:ds.length<=4000000):
 yn c A T b8 fs O ρ (.ListComp elt [⟨.Name x px,iter,[],0⟩] scope pos) (.list (ds.map g)):=yn.CE λE s G Ls V pp=>by
 rw[arm_eval_ListComp];show wpAny _ A (comprehension (.ListComp elt [⟨.Name x px,iter,[],0⟩] scope pos) scope O (firstIterPos [⟨.Name x px,iter,[],0⟩] pos) (newList []) false (eval iter O)) _ E s;refine wpAny_comprehension_free (use:=none) rfl hs hclos hkind hnames ?_;refine hi G _ E s V λit s₁ kp tk Wd=>?_;refine ru Wd λI fp wr P St oB W iC hex C0 pJ hP hT=>?_;clear Wd;obtain rfl:=oB;refine wpAny_newObj_type ?_ (by show(#[]:Array Value).size<=sizeLine;exact zero_le _);refine eE ?_;have hsz:(s₁.heap.push {cls:= .type "list",dict:=none,data:= .seq ([]:List Value).toArray}).objs.size=s₁.heap.objs.size+1:=size_push ..;refine gO (n9 (scope:=scope) V kp tk W iC hex pJ hP hT hkind hY rfl) λB Wi F1 acc=>?_;generalize Sb:({s₁ with heap:=pushCells ((s₁.heap.push {cls:= .type "list",data:= .seq #[]}).push {cls:= .type "dict",data:= .dict #[]}) scope.names}:Shared)=J at*;generalize hH:oh scope s₁.heap.objs.size (s₁.heap.objs.size+1)=H at*;have CZ:∀b∈fp,b∉T:=λb hb ht=>by
  rcases C0 b hb with⟨o,h⟩|h
  .exact pp.hG _ _ h ht
  .obtain⟨o,e⟩:=pp.hT b ht;rw[h]at e;exact ns e
 have Ol:∀b o,s.heap.get? b=some o->J.heap.get? b=some o:=F1.old;have C7:∀t∈T,t∉H.X:=λt ht hm=>by obtain⟨o,e⟩:=pp.hT t ht;rw[F1.new t (cv hm)]at e;exact ns e
 have Q5:∀t∈T,t∉wr:=λt ht hm=>by obtain⟨o,e⟩:=pp.hT t ht;rw[pJ t hm]at e;exact ns e
 have F2:=F1.qW (T:=T) pp.hT pp.hG (λy a h ht=>by
  rcases(F1.dt y a h).2 with q|q
  .rw[ip]at h;rcases ny h with h|⟨_,h⟩
   .refine C7 a ht ?_;rw[<-hH];exact .tail _ (.tail _ (mem_map.mpr ⟨_,mem_of_lookup h,rfl⟩))
   .exact pp.cells y a (eU h) ht
  .exact C7 a ht (B.zx a q))
 have F3:=F2.reshape (H':=HI ((H.wide T).pin Ls) wr fp St J 0) (λa=>by
  show a∈wr++(T++H.X)↔a∈T++(wr++H.X);simp only[mem_append];constructor<;>(rintro(h|h|h)<;>simp[h])) rfl rfl
  ⟨λq Y=>Ol _ _ (pp.pin q Y),F1.inv.2.1,λ_ _ _ e=>e⟩ ((vJ (H:=H.wide T) W (λt ht=>d7 ht) CZ J 0).fr Ls)
  (λb hb=>by
   rcases de hb with h|h
   .exact F1.jz b (d7 h)
   .rcases de h with h|h
    .exact λhz=>(bl.mp h).1 (cv ((cv ((B.zx b hz)))))
    .refine aq (et h) λq Y gD=>?_;obtain rfl:=gD;exact λhz=>by have:=pp.pin q Y;rw[F1.new _ (cv ((B.zx _ hz)))]at this;exact ns this)
  (λb hb=>by
   rcases de hb with h|h
   .exact F1.gQ b (d7 h)
   .rcases de h with h|h
    .exact(bl.mp h).2
    .refine aq (et h) λq Y gD=>?_;obtain rfl:=gD;exact⟨_,Ol _ _ (pp.pin q Y)⟩)
 have v9:s₁.heap.objs.size∈H.X:=by rw[<-hH];exact .tail _ (.head _)
 have BN:s.heap.get? s₁.heap.objs.size=none:=F1.new _ (cv v9);have KD:s₁.heap.objs.size∉T:=λhm=>C7 _ hm v9;have NB:Acc c G (aN s T) (HI ((H.wide T).pin Ls) wr fp St J 0) s₁.heap.objs.size [] J:=by
  refine cC acc.obj λvs n ho l=>?_;subst l;refine⟨cv ((cv v9)),acc.z,λhm=>?_,[],n,ho,by exact rfl⟩;rcases de hm with h|h
  .exact acc.fp (d7 h)
  .rcases de h with h|h
   .exact(bl.mp h).1 (cv ((cv v9)))
   .refine aq (et h) λq Y e=>?_;have:=pp.pin q Y;rw[e,BN]at this;exact ns this
 have RK:tV c A G (aN s T) (H.wide T) I fp wr P St J ds:=⟨Wi.W,Wi.hex,λi v hl hv=>by
  refine aq (Wi.hP i v hl hv) λd h1 h2=>?_;refine⟨d,h1,h2.mono ?_⟩;rintro a o (h|⟨h1,h2,h3⟩)
  .exact .inl h
  .refine .inr ⟨h1,dy h2,λhm=>?_⟩;rcases de hm with hm|hm
   .exact h3 (d7 hm)
   .rcases de hm with hm|hm
    .obtain⟨o',e⟩:=pp.hT a hm;rw[h2]at e;exact ns e
    .exact h3 (cv hm),Wi.hT⟩
 have P3:PS T b8 [] Ls G s (HI ((H.wide T).pin Ls) wr fp St J 0) Ls:=⟨λt ht=>cv ((d7 ht)),λt ht hz=>C7 t ht (B.zx t hz),pp.told,λ_=>rfl,λ_ _ h=>h,(λ_ h=>nomatch h),λq Y=>(pp.lz q Y).imp id .inl⟩
 have loop:codeAny (model PW c.w) A (.compLoop (.ListComp elt [⟨.Name x px,iter,[],0⟩] scope pos) 0 (.ref I) (.ref s₁.heap.objs.size) (bE scope O (s₁.heap.objs.size+1)))
  (compPost (model PW c.w) A E none (λv U=>∃bL,jy c T b8 fs G s Ls bL (.list (ds.map g)) v U) (.ref s₁.heap.objs.size) (s₁.heap.objs.size+1)) J:=by
  refine ve (H:=H.wide T) (s:=s) (g:=g) (λt ht=>d7 ht) pJ (λb hb hm=>?_) V.sub pp.hT B.gY RK CZ F3 P3 NB (cv v9) (by rw[<-hH];exact λh=>nomatch h) KD BN jQ ?_
   (λQ E s h=>iK (fm elt (.Name x px) iter [] scope pos (.ref I) (.ref _) (bE scope O _)) h) (Mn _) FT hlen (λU L F' P' a'=>?_)
  .rcases de hm with hm|hm
   .exact Q5 b hm hb
   .exact B.cA b hm hb
  .rw[<-hH];exact hx _
  .have Jt:s₁.heap.objs.size+1∈H.Z:=by rw[<-hH];exact .head _
   have yw:s.heap.get? (s₁.heap.objs.size+1)=none:=F1.new _ (cv ((B.zx _ Jt)));obtain⟨m,hm⟩:=F'.frame.2;refine⟨m,hm,λh' sb=>⟨L,?_,?_,λt ht=>?_,λq Y=>?_,P'.told,P'.full,P'.mono,P'.done,λq Y=>(P'.lz q Y).imp id (Or.imp id And.left),?_⟩⟩
   .have:=F'.rest;rw[this];rfl
   .exact λb o hb e=>(sb.2 b (λq=>by rw[q,yw]at e;exact ns e)).trans (F'.old b o (b9 e hb))
   .obtain⟨o,e⟩:=F'.ex t (d7 ht);obtain⟨o',e'⟩:=pp.hT t ht;exact⟨o,(sb.2 t (λq=>by rw[q,yw]at e';exact ns e')).trans e⟩
   .exact(sb.2 q.1 (λe=>F'.jz q.1 (mem_map_of_mem Y) (by rw[e];exact Jt))).trans (F'.inv q Y)
   .refine cC a'.obj λvs n ho l=>?_;show ∃_,_;have C8:s₁.heap.objs.size≠s₁.heap.objs.size+1:=ne_of_lt (lt_succ_self _);refine⟨_,vs,n,rfl,.inr ⟨(sb.2 _ C8).trans ho,BN⟩,l.mono ?_⟩;rintro a o (h|⟨h1,h2,h3⟩)
    .exact .inl h
    .refine .inr ⟨(sb.2 a (λq=>h3 (by rw[q];exact cv ((B.zx _ Jt))))).trans h1,?_⟩;exact oN λp e=>Lw.sn ((b9 e (λht=>h3 (d7 ht))).symm.trans h2)
 have s8:=codeAny_compStart_list (it:= .ref I) loop (W.self 0 _ _ _ F3.inv.2.1 loop);have Ai:({({scope,locals:=(s₁.heap.push {cls:= .type "list",dict:=none,data:= .seq ([]:List Value).toArray}).objs.size,globals:=O.globals,cells:=cellsFrom ((s₁.heap.push {cls:= .type "list",dict:=none,data:= .seq ([]:List Value).toArray}).objs.size+1) scope.names (f9 scope O),qual:=O.qual,func:=none,code:=O.code,frame:=O.frame,builtins:=O.builtins}:Env)with scope:=relabel scope O}:Env)=bE scope O (s₁.heap.objs.size+1):=by rw[hsz];rfl
 have key:∀(C':Nat)(e':Env),C'=s₁.heap.objs.size+1->e'=bE scope O (s₁.heap.objs.size+1)->
  codeAny (model PW c.w) A (.compStart (.ListComp elt [⟨.Name x px,iter,[],0⟩] scope pos) 0 (.ref I) (.ref s₁.heap.objs.size) e')
  (compPost (model PW c.w) A E none (λv U=>∃bL,jy c T b8 fs G s Ls bL (.list (ds.map g)) v U) (.ref s₁.heap.objs.size) C') J:=by
  rintro C' e' rfl rfl;exact s8
 exact key _ _ hsz Ai
structure rI(c:Cx)(A:Around)(I:Addr)(fp wr:List Addr)(n:Nat)(dat:Nat->List Value->Prop)(St:Nat->Heap->Prop):Prop where
 sub:∀b∈wr,b∈fp
 frame:∀i h h',St i h->(∀b∈fp,∀o,h.get? b=some o->h'.get? b=some o)->St i h'
 hex:∀i h,St i h->∀b∈fp,∃o,h.get? b=some o
 item:∀i(s:Shared)(elts:List Expr)(k:Nat)(pos:Pos)(Q:Value->Shared->Prop)(Qn:Shared->Prop)(E:Value->Shared->Prop),i<n->St i s.heap->
  (∀vals T h' tk m,dat i vals->s.heap.get? T=none->h'.get? T=some {cls:= .type "tuple",data:= .seq (toArray vals) m}->St (i+1) h'->(∀b o,b∉wr->s.heap.get? b=some o->h'.get? b=some o)->s.toks<=tk->
   Q (.ref T) {s with heap:=h',toks:=tk})->
  wpAny (model PW c.w) A (pyNext (.ref I)) (λr s₁=>match r with|none=>Qn s₁|some v=>wpAny (model PW c.w) A (letOwnedTupleGo (.Tuple elts k pos) (.ref I) v) (λ_ ay=>Q v ay) E s₁) E s
 done:∀(s:Shared)(Q:Option Value->Shared->Prop)(E:Value->Shared->Prop),St n s.heap->
  (∀h' tk,(∀b o,b∉wr->s.heap.get? b=some o->h'.get? b=some o)->Q none {s with heap:=h',toks:=tk})->wpAny (model PW c.w) A (pyNext (.ref I)) Q E s
 self:∀i(s:Shared)(Q:Value->Shared->Prop)(E:Value->Shared->Prop),St i s.heap->Q (.ref I) s->wpAny (model PW c.w) A (pyIter (.ref I)) Q E s
theorem rR{c:Cx}{A:Around}(hh:A.handled=none)(e it l:Addr)(D:e≠it)(z:l≠e)(I:l≠it)(items:Array Value):
 rI c A e [e,it,l] [e,it] items.size (λi vals=>∃t x,items[i]? =some x/\vals=[.int i t,x]) (λi h=>(∃old,IsEnum h e it i old)/\h.IsListIter it l i/\h.IsList l items) where
 sub:=(WalksT.enumerate (prog:=PW) (w:=c.w) hh e it l D z I items).sub
 frame:=(WalksT.enumerate (prog:=PW) (w:=c.w) hh e it l D z I items).frame
 hex:=λi h J b hb=>by
  obtain⟨⟨old,he⟩,⟨o1,h1,_⟩,⟨o2,h2,_⟩⟩:=J;simp only[mem_cons,not_mem_nil,or_false]at hb;rcases hb with rfl|rfl|rfl
  .exact⟨_,he⟩
  .exact⟨_,h1⟩
  .exact⟨_,h2⟩
 item:=λi s elts k pos Q Qn E hi J hQ=>by
  refine eJ J λHW hit hl=>?_;clear J;obtain⟨old,he⟩:=HW;have hx:items[i]? =some items[i]:=Array.getElem?_eq_getElem hi;refine wpAny_pyNext_enum_item he hit hl hx D λh' ho Mf hT hsz hk=>?_;have Mm:e<s.heap.objs.size:=lt_size he;refine wpAny_letOwnedTupleGo_enum ho λgL QU Y=>?_;have Q7:gL.get? s.heap.objs.size=some {cls:= .type "tuple",data:= .seq (toArray [.int i s.toks,items[i]]) 0}:=(Y.2 _ (ne_of_gt Mm)).trans hT
  exact hQ [.int i s.toks,items[i]] s.heap.objs.size gL (s.toks+1) 0 ⟨_,_,hx,rfl⟩ (get?_none_of_le (le_refl _)) Q7
   ⟨⟨_,by simpa using QU⟩,Mf.at λo y=>(Y.2 it D.symm).trans y,hl.at λo x=>(Y.2 l z).trans (hk l o z I x)⟩
   (λb o hb x=>(Y.2 b (λe'=>hb (by simp[e']))).trans (hk b o (λe'=>hb (by simp[e'])) (λe'=>hb (by simp[e'])) x)) (le_succ _)
 done:=(WalksT.enumerate (prog:=PW) (w:=c.w) hh e it l D z I items).done
 self:=(WalksT.enumerate (prog:=PW) (w:=c.w) hh e it l D z I items).self
theorem ue{c:Cx}{A:Around}(hh:A.handled=none)(z TI TO i1 i2 l1 l2:Addr)(D:ZipApart z TI TO i1 i2 l1 l2)(xs ys:Array Value):
 rI c A z [z,TI,TO,i1,i2,l1,l2] [z,TO,i1,i2] (min xs.size ys.size) (λi vals=>∃x y,xs[i]? =some x/\ys[i]? =some y/\vals=[x,y])
  (λi h=>IsZip h z TI TO .none/\IsPair h TI (.ref i1) (.ref i2)/\(∃a b,IsPair h TO a b)/\h.IsListIter i1 l1 i/\h.IsListIter i2 l2 i/\h.IsList l1 xs/\h.IsList l2 ys) where
 sub:=(WalksT.zip2 (prog:=PW) (w:=c.w) hh z TI TO i1 i2 l1 l2 D xs ys).sub
 frame:=(WalksT.zip2 (prog:=PW) (w:=c.w) hh z TI TO i1 i2 l1 l2 D xs ys).frame
 hex:=λi h Y b hb=>by
  refine AJ Y λhz BM J mh Bz oB J'=>?_;clear Y;refine oM J λa b' Js=>?_;clear J;refine aq mh λo1 h1 _=>?_;clear mh;refine aq Bz λo2 h2 _=>?_;clear Bz;refine aq oB λo3 h3 _=>?_;clear oB;refine aq J' λo4 h4 _=>?_;clear J';simp only[mem_cons,not_mem_nil,or_false]at hb;rcases hb with rfl|rfl|rfl|rfl|rfl|rfl|rfl
  .exact⟨_,hz⟩
  .exact⟨_,BM⟩
  .exact⟨_,Js⟩
  .exact⟨_,h1⟩
  .exact⟨_,h2⟩
  .exact⟨_,h3⟩
  .exact⟨_,h4⟩
 item:=λi s elts k pos Q Qn E hi Y hQ=>by
  refine AJ Y λhz BM J h1 h2 OI Ks=>?_;clear Y;refine oM J λa b Js=>?_;clear J;have Ku:i<xs.size:=lt_of_lt_of_le hi (min_le_left ..);have OK:i<ys.size:=lt_of_lt_of_le hi (Nat.min_le_right ..);refine wpAny_pyNext_zip_item D hz BM Js h1 h2 OI Ks (Array.getElem?_eq_getElem Ku) (Array.getElem?_eq_getElem OK) λh' a1 a2 a3 a4 a5 a6 hk=>?_;have lt:∀{c o},s.heap.get? c=some o->s.heap.objs.size≠c:=λe=>ne_of_gt (lt_size e);have nz:s.heap.objs.size≠z:=lt hz;refine wpAny_letOwnedTupleGo_zip a1 λgL CR I=>?_
  refine hQ [xs[i],ys[i]] s.heap.objs.size gL s.toks 0 ⟨_,_,Array.getElem?_eq_getElem Ku,Array.getElem?_eq_getElem OK,rfl⟩ (get?_none_of_le (le_refl _)) (I.extBut _ _ nz a5)
   ⟨CR,I.extBut _ _ D.TIz (hk _ _ D.TIz D.TITO D.TIi1 D.TIi2 BM),⟨_,_,I.extBut _ _ D.TOz a2⟩,a3.extBut I.extBut D.i1z,a4.extBut I.extBut D.i2z,
    (OI.at λo e=>hk _ o D.l1z D.l1TO D.l1i1 D.l1i2 e).extBut I.extBut D.l1z,(Ks.at λo e=>hk _ o D.l2z D.l2TO D.l2i1 D.l2i2 e).extBut I.extBut D.l2z⟩ (λc o hc e=>?_) (le_refl _)
  exact I.extBut _ _ (λx=>hc (by simp[x])) (hk c o (λx=>hc (by simp[x])) (λx=>hc (by simp[x])) (λx=>hc (by simp[x])) (λx=>hc (by simp[x])) e)
 done:=(WalksT.zip2 (prog:=PW) (w:=c.w) hh z TI TO i1 i2 l1 l2 D xs ys).done
 self:=(WalksT.zip2 (prog:=PW) (w:=c.w) hh z TI TO i1 i2 l1 l2 D xs ys).self
theorem vd{elt:Expr}{elts:List Expr}{Kd:Nat}{tp:Pos}{gens:List Comprehension}{scope:Scope}{pos:Pos}{ifs:List Expr}{depth:Nat}{I:Addr}{fp wr:List Addr}{dat:Nat->List Value->Prop}{St:Nat->Heap->Prop}{ds:List D}{f:D->List D}{R:Result->Shared->Prop}(act:ActT)
 (B:yy H wr O)(W:rI c A I fp wr ds.length dat St)(Mp:∀i vals,i<ds.length->dat i vals->∃es,ds[i]? =some (.tup es)/\aE c.w c.C (aX ah af (wr++H.X) s₁) es vals)
 (F1:Fs c ah af (HI H wr fp St s₁ 0) O ρ [] s₁)(acc:Acc c ah af (HI H wr fp St s₁ 0) Dn out s₁)(v9:Dn∈H.X)(Al:Dn∉H.fp)
 (uP:∀Q Q' E s,(∀s,Q s->Q' s)->act Q E s->act Q' E s)
 (kg:∀(Q:Fin->Shared->Prop)(E:Value->Shared->Prop)(s:Shared),wpAny (model PW c.w) A (pyNext (.ref I)) (λr s₁=>match r with
  |none=>Q (.done .next) s₁
  |some v=>wpAny (model PW c.w) A (letOwnedTupleGo (.Tuple elts Kd tp) (.ref I) v) (λ_ ay=>wpAny (model PW c.w) A (assign (.Tuple elts Kd tp) O v) (λ_ bB=>wpAny (model PW c.w) A (dJ ifs O) (λok J=>if ok=true then act (Q (.again (.compLoop (.ListComp elt gens scope pos) depth (.ref I) (.ref Dn) O))) E J else Q (.again (.compLoop (.ListComp elt gens scope pos) depth (.ref I) (.ref Dn) O)) J) E bB) E ay) E s₁) E s->
  wpAny (model PW c.w) A (compTurn (.ListComp elt gens scope pos) depth (.ref I) (.ref Dn) O) Q E s)
 (gM:∀(E':Value->Shared->Prop) d v s(H':Hd)(out:List D),(out++f d).length<=4000000->H'.Z=H.Z->H'.Y=H.Y->d∈ds->Fs c ah af H' O ρ [] s->Rep c.w c.C (aX ah af H'.X s) d v->Acc c ah af H' Dn out s->
  wpAny (model PW c.w) A (assign (.Tuple elts Kd tp) O v) (λ_ ay=>wpAny (model PW c.w) A (dJ ifs O) (λok bB=>if ok=true then act (λJ=>Fs c ah af H' O ρ [] J/\Acc c ah af H' Dn (out++f d) J) E' bB else(Fs c ah af H' O ρ [] bB/\Acc c ah af H' Dn (out++f d) bB)) E' ay) E' s)
 (hlen:out.length+(ds.map f).flatten.length<=4000000)
 (fin:∀U,Fs c ah af H O ρ [] U->Acc c ah af H Dn (out++(ds.map f).flatten) U->R (.ok .next) U):
 codeAny (model PW c.w) A (.compLoop (.ListComp elt gens scope pos) depth (.ref I) (.ref Dn) O) R s₁:=by
 have En:Dn∉wr:=B.cA _ v9
 refine codeAny_loop rfl (λn U=>∃i,n=ds.length-i/\i<=ds.length/\Fs c ah af (HI H wr fp St s₁ i) O ρ [] U/\Acc c ah af (HI H wr fp St s₁ i) Dn (out++((ds.take i).map f).flatten) U) ?_ ds.length
  ⟨0,rfl,zero_le _,F1,by simpa using acc⟩
 intro n U w9;refine tA w9 λi rS hle F' a'=>?_;clear w9;obtain rfl:=rS;show wpAny _ A ((compTurn (.ListComp elt gens scope pos) depth (.ref I) (.ref Dn) O).onRaise (λx=>do noteFrame x O;theTreesLotGoes x)) _ _ U;refine wpAny_noted (kg _ _ U ?_);rcases lt_or_ge i ds.length with jW|BJ
 .refine W.item i U elts Kd tp _ _ _ jW F'.inv.2.1 λvals T h' tk' m Gh OP Q8 q8 hk hU=>?_;have F2:=Fs.turn B W.sub W.hex W.frame F' q8 hk hU;refine aq (Mp i vals jW Gh) λes hd rl=>?_;have rd:Rep c.w c.C (aX ah af (wr++H.X) {U with heap:=h',toks:=tk'}) (.tup es) (.ref T):=by
   show ∃_,_;refine⟨T,vals,m,rfl,.inr ⟨Q8,?_,λhm=>?_⟩,rl.mono ?_⟩
   .exact oN λo e=>Lw.sn ((F'.old _ _ e).symm.trans OP)
   .exact(F'.ex T hm).elim λo e=>Lw.ns (OP.symm.trans e)
   .rintro a o (h|⟨h1,h2,hn⟩)
    .exact .inl h
    .exact .inr ⟨F2.inv.2.2 a (bl.mpr ⟨hn,o,h1⟩) o h1,h2,hn⟩
  have a2:Acc c ah af (HI H wr fp St s₁ (i+1)) Dn (out++((ds.take i).map f).flatten) {U with heap:=h',toks:=tk'}:=by
   refine cC a'.obj λvs n ho l=>?_;refine⟨a'.x,a'.z,a'.fp,vs,n,hk _ _ En ho,l.mono ?_⟩;rintro a o (h|⟨h1,h2,h3⟩)
   .exact .inl h
   .exact .inr ⟨hk a o (λhm=>h3 (d7 hm)) h1,h2,h3⟩
  have Ge:(.tup es:D)∈ds:=mem_of_getElem? hd;have kh:out++((ds.take i).map f).flatten++f (.tup es)=out++((ds.take (i+1)).map f).flatten:=by rw[take_add_one,hd,map_append,flatten_append,append_assoc];simp
  have oJ:(out++((ds.take i).map f).flatten++f (.tup es)).length<=4000000:=by
   rw[kh];have:(ds.take (i+1)).map f=(ds.map f).take (i+1):=by rw[map_take]
   have h2:((ds.map f).take (i+1)).flatten.length<=(ds.map f).flatten.length:=by
    conv=>rhs;rw[<-take_append_drop (i+1) (ds.map f),flatten_append,length_append]
    exact aI 762272 [_,_] []
   rw[length_append,this];exact aM 0xcb03d090062ca103d090062ba10 [_,_,_] [] hlen h2
  refine wpAny_mono (gM _ (.tup es) (.ref T) _ (HI H wr fp St s₁ (i+1)) _ oJ rfl rfl Ge F2 rd a2) (λ_ bB jc=>wpAny_mono jc (λok J jb=>?_) λ_ _ e=>e) λ_ _ e=>e;rw[kh]at jb;cases ok with
  |true=>rw[if_pos rfl]at jb⊢;exact uP _ _ _ _ (λfX ma=>⟨rfl,_,by exact aM 0xcb1d0d112c1a10b112a10 [_,_,_,_] [] (dE (ao 0xb112a10b112a10 [_,_] [] jW)) eC,i+1,rfl,jW,ma.1,ma.2⟩) jb
  |false=>rw[if_neg Bool.false_ne_true]at jb⊢;exact⟨rfl,_,by exact aM 0xcb1d0d112c1a10b112a10 [_,_,_,_] [] (dE (ao 0xb112a10b112a10 [_,_] [] jW)) eC,i+1,rfl,jW,jb.1,jb.2⟩
 .have BI:i=ds.length:=by exact dG (ao 12192672 [_,_] [] hle) (ao 12192672 [_,_] [] BJ)
  subst BI;refine wpAny_with_toks (le_refl U.toks) (W.done U _ _ F'.inv.2.1 λh' tk' hk hU=>?_);refine fin _ (Fs.over B F' hk hU) ?_;refine cC a'.obj λvs n ho l=>?_;rw[take_of_length_le (le_refl _)]at l;refine⟨v9,a'.z,Al,vs,n,hk _ _ En ho,l.mono ?_⟩;rintro a o (h|⟨h1,h2,h3⟩)
  .exact .inl h
  .exact .inr ⟨hk a o (λhm=>h3 (d7 hm)) h1,h2,λhm=>h3 (cv hm)⟩
def WalkX(c:Cx)(A:Around)(G:PH)(s:Shared)(it:Value)(ds:List D)(s₁:Shared):Prop:=
 ∃I fp wr dat St,it= .ref I/\rI c A I fp wr ds.length dat St/\St 0 s₁.heap/\(∀b∈wr,s.heap.get? b=none)/\
  (∀i vals,i<ds.length->dat i vals->∃es,ds[i]? =some (.tup es)/\aE c.w c.C (λa o=>grow G s s₁ a o/\a∉wr) es vals)
def G3(c:Cx)(A:Around)(O:Env)(ρ:List (Str×D))(G:PH)(e:Expr)(ds:List D):Prop:=
 ∀K E s,Vw c O ρ G s->(∀it s₁,Keeps s s₁->s.toks<=s₁.toks->WalkX c A G s it ds s₁->K it s₁)->wpAny (model PW c.w) A (eval e O) (λz U=>wpAny (model PW c.w) A (pyIter z) K E U) E s
theorem tv{z iter:Expr}{elts:List Expr}{J:Nat}{tp:Pos}{ifs:List Expr}{scope:Scope}{pos:Pos}{ds:List D}(p:D->Bool)(g:D->D)(ρd:D->List (Str×D))(hi:G3 c A O ρ G iter ds)
 (hclos:closureFor scope O=pure (f9 scope O))(hkind:scope.kind= .function)(hnames:∀y∈scope.names,y.2= .local->scope.names.lookup y.1=some .local)(hY:∀y∈cw scope,scope.names.lookup y=some .cell)
 (hs:∀x,foldedSetIterable iter O x=pure x)
 (ha:∀C H d,H.Y=cw scope->d∈ds->wQ c A H (bE scope O C) [] (.Tuple elts J tp) d (bo scope O ρ) (ρd d))
 (hback:∀d∈ds,∀x e,(bo scope O ρ).lookup x=some e->(ρd d).lookup x=some e)
 (ht:∀C G d,d∈ds->tW c A (bE scope O C) (ρd d) G ifs (p d))
 (he:∀C G d,d∈ds->p d=true->Ev c A (bE scope O C) (ρd d) G z (g d))(hlen:ds.length<=4000000):
 Ev c A O ρ G (.ListComp z [⟨.Tuple elts J tp,iter,ifs,0⟩] scope pos) (.list ((ds.filter p).map g)):= .mk λE s V=>by
 rw[arm_eval_ListComp];show wpAny _ A (comprehension (.ListComp z [⟨.Tuple elts J tp,iter,ifs,0⟩] scope pos) scope O (firstIterPos [⟨.Tuple elts J tp,iter,ifs,0⟩] pos) (newList []) false (eval iter O)) _ E s;refine wpAny_comprehension_free (use:=none) rfl hs hclos hkind hnames ?_;refine hi _ E s V λit s₁ kp tk Wd=>?_;refine JC Wd λI fp wr dat St oB W iC pJ hP=>?_;clear Wd;obtain rfl:=oB;refine wpAny_newObj_type ?_ (by show(#[]:Array Value).size<=sizeLine;exact zero_le _);refine eE ?_;have hsz:(s₁.heap.push {cls:= .type "list",dict:=none,data:= .seq ([]:List Value).toArray}).objs.size=s₁.heap.objs.size+1:=size_push ..;refine gO (lY (scope:=scope) V kp tk W.sub W.frame iC W.hex pJ hkind hY rfl) λB EO F1 acc=>?_
 have loop:codeAny (model PW c.w) A (.compLoop (.ListComp z [⟨.Tuple elts J tp,iter,ifs,0⟩] scope pos) 0 (.ref I) (.ref s₁.heap.objs.size) (bE scope O (s₁.heap.objs.size+1)))
  (compPost (model PW c.w) A E none (cf c.w c.C G s (.list ((ds.filter p).map g))) (.ref s₁.heap.objs.size) (s₁.heap.objs.size+1))
  {s₁ with heap:=pushCells ((s₁.heap.push {cls:= .type "list",data:= .seq #[]}).push {cls:= .type "dict",data:= .dict #[]}) scope.names}:=by
  refine vd (f:=λd=>if p d=true then [g d]else []) (λQ E s=>wpAny (model PW c.w) A (eval z (bE scope O (s₁.heap.objs.size+1))) (λx fX=>wpAny (model PW c.w) A (call (.builtin "list.append") [.ref s₁.heap.objs.size,x]) (λ_ jY=>Q jY) E fX) E s) B W
   (λi vals hl hv=>let⟨es,e1,e2⟩:=hP i vals hl hv;⟨es,e1,e2.mono λa o q=>EO a o q.1 q.2⟩) F1 acc (.tail _ (.head _)) (λh=>nomatch h)
   (λQ Q' E s h hq=>wpAny_mono hq (λ_ _ h'=>wpAny_mono h' (λ_ _ q=>h _ q) λ_ _ e=>e) λ_ _ e=>e)
   (λQ E s h=>iK (fm z _ iter ifs scope pos (.ref I) (.ref _) (bE scope O _)) h) ?_ ?_ ?_
  .intro E' d v s H' out ho hZ BL hd F r a;refine wpAny_mono (ha _ H' d BL hd _ _ E' s v F r) (λ_ ay gL=>?_) λ_ _ e=>e;obtain⟨F2,hk⟩:=gL;have a2:=a.xn F hk;refine wpAny_mono (wpAny_toks ((ht _ _ d hd).1 E' ay F2.view)) (λok bB jc=>?_) λ_ _ e=>e.2;obtain⟨tk,rfl,kp⟩:=jc;have F3:=F2.keeps kp tk;have a3:=a2.keeps F2 kp;cases hp:p d with
   |false=>rw[if_neg Bool.false_ne_true,if_neg Bool.false_ne_true,append_nil];exact⟨F3.less (hback d hd) (λ_ h=>h),a3⟩
   |true=>rw[if_pos rfl,if_pos rfl];refine wpAny_mono (wpAny_toks ((he _ _ d hd hp).1 E' bB F3.view)) (λx fX q=>?_) λ_ _ e=>e.2;have F5:=F3.keeps q.2.1 q.1;have a5:=a3.keeps F3 q.2.1;exact a5.push F5 (F3.up q.2) (aD (by rw[length_append]at ho;exact ao 0x3d090062ba103d090062a0 [_,_] [] ho)) (λu qD F6 a6=>⟨F6.less (hback d hd) (λ_ h=>h),a6⟩)
  .rw[bW ds,length_map,length_nil,zero_add];exact le_trans (length_filter_le _ _) hlen
  .intro U F' a';rw[bW ds,nil_append]at a';have yw:s.heap.get? (s₁.heap.objs.size+1)=none:=F'.new _ (.head _);have C8:s₁.heap.objs.size≠s₁.heap.objs.size+1:=ne_of_lt (lt_succ_self _);obtain⟨m,hm⟩:=F'.frame.2;refine⟨m,hm,λh' sb=>?_⟩;have BN:s.heap.get? s₁.heap.objs.size=none:=F'.new _ (.tail _ (.head _));have hr:=F'.rest;have kk:Keeps s {U with heap:=h'}:=by refine⟨h',U.toks,?_,λb o e=>(sb.2 b (λq=>by rw[q]at e;rw[yw]at e;exact ns e)).trans (F'.old b o e)⟩;rw[hr]
   refine⟨kk,?_⟩;refine cC a'.obj λvs n ho l=>?_;show ∃_,_;refine⟨_,vs,n,rfl,.inr ⟨(sb.2 _ C8).trans ho,BN⟩,l.mono ?_⟩;rintro a o (h|⟨h1,h2,h3⟩)
   .exact .inl h
   .exact .inr ⟨(sb.2 a (λq=>h3 (by rw[q];exact .head _))).trans h1,h2⟩
 have s8:=codeAny_compStart_list (it:= .ref I) loop (W.self 0 _ _ _ F1.inv.2.1 loop);have Ai:({({scope,locals:=(s₁.heap.push {cls:= .type "list",dict:=none,data:= .seq ([]:List Value).toArray}).objs.size,globals:=O.globals,cells:=cellsFrom ((s₁.heap.push {cls:= .type "list",dict:=none,data:= .seq ([]:List Value).toArray}).objs.size+1) scope.names (f9 scope O),qual:=O.qual,func:=none,code:=O.code,frame:=O.frame,builtins:=O.builtins}:Env)with scope:=relabel scope O}:Env)=bE scope O (s₁.heap.objs.size+1):=by rw[hsz];rfl
 have key:∀(C':Nat)(e':Env),C'=s₁.heap.objs.size+1->e'=bE scope O (s₁.heap.objs.size+1)->
  codeAny (model PW c.w) A (.compStart (.ListComp z [⟨.Tuple elts J tp,iter,ifs,0⟩] scope pos) 0 (.ref I) (.ref s₁.heap.objs.size) e')
  (compPost (model PW c.w) A E none (cf c.w c.C G s (.list ((ds.filter p).map g))) (.ref s₁.heap.objs.size) C')
  {s₁ with heap:=pushCells ((s₁.heap.push {cls:= .type "list",data:= .seq #[]}).push {cls:= .type "dict",data:= .dict #[]}) scope.names}:=by
  rintro C' e' rfl rfl;exact s8
 exact key _ _ hsz Ai
noncomputable def n7(ds:List D):List D:=ds.zipIdx.map λq=> .tup [.int q.2,q.1]
theorem xG(B:c.B)(hh:A.handled=none){p pos:Pos}{e:Expr}{ds:List D}(hk:O.kindOf "enumerate"=some .globalImplicit)(hm:c.mg "enumerate"=none)(he:Ev c A O ρ G e (.list ds))
 (hs:starEach [e] O=[(false,eval e O)]):G3 c A O ρ G (.Call (.Name "enumerate" p) [e] [] pos) (n7 ds):=λK E s V kk=>
 ik B V hk hm (show bootBuiltins "enumerate"=some (.type "enumerate") by decide+kernel) (by decide) (.t _) (ae he ai hs) (by rw[hs];rfl) λvs U kp tk l V'=>by
  refine aq l.one λv rS r=>?_;obtain rfl:=rS;have sub:=V.gG kp;obtain⟨a,vs,n,rfl,g,l⟩:=r;have il:U.heap.IsList a vs.toArray:=⟨_,sub _ _ g,rfl,_,rfl⟩;have Y:a<U.heap.objs.size:=lt_size (sub _ _ g);refine call_enumerate_list il λh' he hit hsz hk=>?_;have LB:Keeps s {U with heap:=h'}:=aQ kp (bI U hk);refine wpAny_pyIter_enum he (kk _ _ LB tk ?_);have z:(n7 ds).length=vs.toArray.size:=by simp[n7,l.length]
  have J:U.heap.get? U.heap.objs.size=none:=get?_none_of_le (le_refl _);have I:U.heap.get? (U.heap.objs.size+1)=none:=get?_none_of_le (le_succ _)
  refine⟨_,_,_,_,_,rfl,z▸rR hh (U.heap.objs.size+1) U.heap.objs.size a (ne_of_gt (lt_succ_self _)) (ne_of_lt (Nat.lt_succ_of_lt Y)) (ne_of_lt Y) vs.toArray,
   ⟨⟨_,he⟩,hit,il.at λo e=>hk _ o e⟩,λb hb=>?_,λi vals hi hv=>?_⟩
  .simp only[mem_cons,not_mem_nil,or_false]at hb;rcases hb with rfl|rfl
   .exact bu kp I
   .exact bu kp J
  .refine cC hv λt x hx mh=>?_;clear hv;obtain rfl:=mh;have BI:i<ds.length:=by simpa[n7]using hi
   refine aq (l.get (getElem?_eq_getElem BI)) λv' e1 r1=>?_;rw[getElem?_toArray,e1]at hx;obtain rfl:=bg hx;refine⟨[.int i,ds[i]],?_,?_⟩
   .simp[n7,getElem?_eq_getElem BI]
   .simp only[aE];refine⟨_,_,rfl,by exact Exists.intro _ rfl,_,_,rfl,r1.mono λb o q=>⟨cz (bI U hk) b o q,λhm=>?_⟩,rfl⟩;have:=sub _ _ q;simp only[mem_cons,not_mem_nil,or_false]at hm;rcases hm with rfl|rfl
    .rw[I]at this;exact ns this
    .rw[J]at this;exact ns this
theorem zY(B:c.B)(hh:A.handled=none){p pos:Pos}{e1 e2:Expr}{z ds2:List D}(hk:O.kindOf "zip"=some .globalImplicit)(hm:c.mg "zip"=none)(h1:Ev c A O ρ G e1 (.list z))(h2:Ev c A O ρ G e2 (.list ds2))(hl:z.length=ds2.length)
 (hs:starEach [e1,e2] O=[(false,eval e1 O),(false,eval e2 O)])(yq:starEach [e2] O=[(false,eval e2 O)]):G3 c A O ρ G (.Call (.Name "zip" p) [e1,e2] [] pos) ((z.zip ds2).map λq=> .tup [q.1,q.2]):=λK E s V kk=>
 ik B V hk hm (show bootBuiltins "zip"=some (.type "zip") by decide+kernel) (by decide) (.t _) (ae h1 (ae h2 ai yq) (by rw[hs,yq])) (by rw[hs];rfl) λvs U kp tk l V'=>by
  refine bD l.two λv u gD r1 r2=>?_;obtain rfl:=gD;have sub:=V.gG kp;refine dR r1 λa vs n Y g1 l1=>?_;clear r1;obtain rfl:=Y;refine dR r2 λb us m Y g2 l2=>?_;clear r2;obtain rfl:=Y;have Ov:U.heap.IsList a vs.toArray:=⟨_,sub _ _ g1,rfl,_,rfl⟩;have Ou:U.heap.IsList b us.toArray:=⟨_,sub _ _ g2,rfl,_,rfl⟩;have BF:a<U.heap.objs.size:=lt_size (sub _ _ g1);have Af:b<U.heap.objs.size:=lt_size (sub _ _ g2);refine call_zip_2 Ov Ou λh' hz BM Js QQ hi2 hsz hk=>?_;have LB:Keeps s {U with heap:=h'}:=aQ kp (bI U hk);refine wpAny_pyIter_zip hz (kk _ _ LB tk ?_);have hn:∀k,U.heap.get? (U.heap.objs.size+k)=none:=λk=>get?_none_of_le (le_add_right _ k);have ua:U.heap.get? U.heap.objs.size=none:=hn 0;have CS:((z.zip ds2).map λq=>(.tup [q.1,q.2]:D)).length=min vs.toArray.size us.toArray.size:=by simp[l1.length,l2.length]
  refine⟨_,_,_,_,_,rfl,CS▸ue hh _ _ _ _ _ a b (zipApart_new BF Af) vs.toArray us.toArray,
   ⟨hz,BM,⟨_,_,Js⟩,QQ,hi2,Ov.at λo e=>hk _ o e,Ou.at λo e=>hk _ o e⟩,λb hb=>?_,λi vals hi hv=>?_⟩
  .simp only[mem_cons,not_mem_nil,or_false]at hb;rcases hb with rfl|rfl|rfl|rfl
   .exact bu kp (hn 4)
   .exact bu kp (hn 3)
   .exact bu kp ua
   .exact bu kp (hn 1)
  .refine bD hv λx y hx hy Bz=>?_;clear hv;obtain rfl:=Bz;have I:i<z.length:=by simp at hi;exact aM 0xbc0c112a10b112a10 [_,_,_] [] hi yo
   have J:i<ds2.length:=by simp at hi;exact aM 0xbc0c112a10b112a10 [_,_,_] [] I (dX hl)
   refine aq (l1.get (getElem?_eq_getElem I)) λv1 e1 r1=>?_;refine aq (l2.get (getElem?_eq_getElem J)) λv2 e2 r2=>?_;rw[getElem?_toArray,e1]at hx;obtain rfl:=bg hx;rw[getElem?_toArray,e2]at hy;obtain rfl:=bg hy;have nw:∀b o,grow G s U b o->b∉[U.heap.objs.size+4,U.heap.objs.size+3,U.heap.objs.size,U.heap.objs.size+1]:=λb o q hm=>by
    have:=sub _ _ q;simp only[mem_cons,not_mem_nil,or_false]at hm;rcases hm with rfl|rfl|rfl|rfl
    .rw[hn 4]at this;exact ns this
    .rw[hn 3]at this;exact ns this
    .rw[ua]at this;exact ns this
    .rw[hn 1]at this;exact ns this
   refine⟨[z[i],ds2[i]],?_,?_⟩
   .simp[getElem?_eq_getElem I,getElem?_eq_getElem J,List.zip_eq_zipWith,List.getElem?_zipWith]
   .show ∃_,_;exact⟨_,_,rfl,r1.mono λb o q=>⟨cz (bI U hk) b o q,nw b o q⟩,_,_,rfl,r2.mono λb o q=>⟨cz (bI U hk) b o q,nw b o q⟩,rfl⟩
theorem Callee.Io{f:Value}{ds:List D}{d:D}(h:cJ c T b8 fs A f ds d)(hw:c'.w=c.w)(hC:c'.C=c.C)(hh:∀a o,c.h₀.get? a=some o->c'.h₀.get? a=some o)
 (hT:∀b∈T,∃r∈Ls,r.1=b)(J:jM Ls c'.h₀)(hf:∀t∈b8,Full Ls t)(hg:∀a o,c.h₀.get? a=some o->a∉T)
 (nK:∀G vs,aE c.w c.C G ds vs->aE c.w c.C (λ_ _=>False) ds vs):Callee c' A f ds d:=λE s G vs g l=>by
 have e:c'.w=c.w:=hw;rw[hw,hC]at l;rw[hw]
 refine wpAny_mono (h E s (λa o=>c.h₀.get? a=some o\/(a∉T/\(a,o)∈Ls)) vs Ls ⟨λa o q=>q.elim (λq=>g.old _ _ (hh _ _ q)) λq=>g.old _ _ (J _ q.2),λ_ _ q=> .inl q,g.toks⟩ (λa o q=>q.elim (hg a o) And.left) (λb hb=>?_) (λq hq=>g.old _ _ (J q hq)) (λt ht=> .inr (hf t ht))
  (λq hq=>if I:q.1∈T then .inl I else .inr (.inr ⟨I,hq⟩)) ((nK _ _ l).mono (λ_ _ q=>q.elim))) (λv U p=>?_) λ_ _ e=>e
 .refine aq (hT b hb) λr Y z=>?_;obtain rfl:=z;exact⟨_,g.old _ _ (J r Y)⟩
 .obtain⟨_,bL,P⟩:=p;have e:=P.full hf;subst e;refine⟨⟨U.heap,U.toks,P.rest,λb o q=>?_⟩,?_⟩
  .by_cases hb:b∈T
   .refine aq (hT b hb) λr Y z=>?_;obtain rfl:=z;have h1:=g.old _ _ (J r Y);rw[q]at h1;obtain rfl:=bg h1;exact P.pin r Y
   .exact P.old b o hb q
  .rw[hC];exact P.rep.mono λa o q=>q.elim (λq=>q.elim (λq=> .inl (g.base a o (hh _ _ q))) λq=> .inl (g.base a o (J _ q.2))) .inr
theorem Callee.more{f:Value}{ds:List D}{d:D}(h:Callee c A f ds d)(z:c'.w=c.w)(J:c'.C=c.C)(I:∀a o,c.h₀.get? a=some o->c'.h₀.get? a=some o):Callee c' A f ds d:=λE s G vs g l=>by have e:c'.w=c.w:=z;rw[z,J]at l⊢;exact h E s G vs ⟨g.sub,λa o q=>g.base a o (I a o q),g.toks⟩ l
theorem FnAt.more{n:Nat}{name:Str}{v:Value}(f:FnAt c n name v)(hg:c'.mg=c.mg)(z:∀a o,c.h₀.get? a=some o->c'.h₀.get? a=some o):FnAt c' n name v:=⟨by rw[hg];exact f.g,f.f.more z⟩
theorem Fs.Cn(F:Fs c ah af H O ρ own s){X':List Addr}(hw:c'.w=c.w)(hC:c'.C=c.C)(hX:∀a∈X',a∈H.X)(hZ:∀a∈H.Z,a∈X')(hc:∀a o,c'.h₀.get? a=some o->aX ah af X' s a o):
 Fs c' (aX ah af X' s) (aN s X') {X:=X',Z:=H.Z,Y:=H.Y,fp:=[],J:=λ_=>True} O ρ own s:=by
 have sub:∀a o,aX ah af X' s a o->s.heap.get? a=some o:=by
  rintro a o (h|⟨h,_,_⟩)
  .exact F.old _ _ (F.gd.sub _ _ h)
  .exact h
 have nX:∀a o,aX ah af X' s a o->a∉X':=by
  rintro a o (h|⟨_,_,h⟩) z
  .have:=F.new a (hX a z);rw[F.gd.sub _ _ h]at this;exact sn this
  .exact h z
 have up:∀a o,aX ah af H.X s a o->aX (aX ah af X' s) (aN s X') X' s a o:=by
  rintro a o (h|⟨D,h2,h3⟩)
  .exact .inl (.inl h)
  .exact .inl (.inr ⟨D,h2,λz=>h3 (hX a z)⟩)
 exact{
  gd:=⟨λa o g=>b9 (sub a o g) (nX a o g),hc,F.view.toks⟩
  rest:=rfl
  old:=λb o e=>gX e
  new:=λx hx=>hideAll_none _ hx
  ex:=λx hx=>F.ex x (hX x hx)
  view:={sub:=by
          rintro b p (h|⟨D,_,_⟩)
          .exact sub _ _ h
          .exact D
         base:=λb p e=> .inl (hc b p e)
         toks:=F.view.toks
         kind:=F.view.kind
         glob:=F.view.glob
         fq:=F.view.fq
         vars:=λy d e=>let⟨u,i,q⟩:=F.view.vars y d e;⟨u,i,by rw[hw,hC];exact q.mono up⟩
         apart:=F.apart
         cells:=F.view.cells}
  own:=λe he=>by obtain⟨D,h2,h3,o,h4,I⟩:=F.own e he;refine⟨D,h2,h3,o,h4,?_⟩;have I:=I.mono up;unfold cg at I⊢;rw[hw,hC];exact I
  frame:=F.frame
  gR:=F.gR
  zx:=hZ
  inv:=trivial
  eS:=λ_ _ _ _=>trivial
  jz:=λb hb=>nomatch hb
  gQ:=λb hb=>nomatch hb
  apart:=F.apart
  dt:=λy a h=>⟨(F.dt y a h).1,by
   rcases(F.dt y a h).2 with q|q
   .exact .inl λz=>q (hX a z)
   .exact .inr q⟩}
theorem tO(B:c.B)(R:aL A (k+1)){v:Value}{ps:List Str}{scope:Scope}{body:List Stmt}{qn:Str}(f:gi c v ps scope body qn){ds:List D}{d:D}(hlen:ds.length=ps.length)
 (hkind:scope.kind= .function)(pK:scope.isCoroutine=false)(uL:scope.isGenerator=false)(rM:ps.Nodup)
 (BE:∀x∈ps,scope.names.lookup x=some .local\/scope.names.lookup x=some .cell)(hY:∀y∈cw scope,scope.names.lookup y=some .cell)
 (hb:∀(A':Around)(L a:Addr)(cd:Value)(G:PH)(E:Value->Shared->Prop)(af s:Shared)(Ls:List (Addr×Obj))(Q:Flow->Shared->Prop),(∀fl U bL,jy c T b8 fs G af Ls bL d (j0 fl) U->Q fl U)->aL A' k->
  (∀t∈T,∃o,af.heap.get? t=some o)->(∀q∈Ls,∃o,af.heap.get? q.1=some o)->(∀t∈b8,Told Ls t)->(∀q∈Ls,q.1∈T\/G q.1 q.2)->(∀y∈(iG scope L).X,af.heap.get? y=none)->
  Fs c G (aN af T) (((iG scope L).wide T).pin Ls) (bG scope qn L a cd) (ps.zip ds) [] s->
  wpAny (model PW c.w) A' (execs body (bG scope qn L a cd)) Q E s):
 cJ c T b8 fs A v ds d:=λE s G vs Ls g hG Y z I s7 l=>by
 refine wpAny_mono (wpAny_toks (E:=E) (Q:=λv U=>∃bL,jy c T b8 fs G s Ls bL d v U) ?_) (λv U p=>p) λ_ _ e=>e.2;refine mn B R f hlen hkind pK uL rM BE hY g l λA' a cd E' U Q' R' hv s6 J F=>?_;have F1:=F.qW (T:=T) Y hG (k7 (λy hy=>F.new y (.tail _ hy)) Y);have F2:=F1.D4 (Ls:=Ls) (λq J=>F.old _ _ (z q J)) (λq J hm=>by have e:=z q J;rw[F.new q.1 hm]at e;exact ns e)
 exact hb A' _ a cd G E' s U Ls Q' (λfl cP bL h=>J fl cP ⟨bL,h⟩) R' Y (λq J=>⟨_,z q J⟩) I s7 F.new F2
theorem HN{a b c n:Nat}(h:a+b+c=n):a<=n/\b<=n/\c<=n:=h▸⟨le_trans (le_add_right a b) (le_add_right _ c),le_trans (le_add_left b a) (le_add_right _ c),le_add_left c _⟩
noncomputable def intOf:D->Int
 | .int i=>i
 |_=>0
noncomputable def mP(script:List Int)(j:Int):List D:=dn (dn (script.map .int) none (some 60) none) (some j) none (some 4)
noncomputable def Ir:Int:=10^30
noncomputable def ej(script:List Int)(j told:Int):Int:=told+((mP script j).map λd=>(intOf d).fmod Ir).sum
noncomputable def rz(script:List Int):List Int:=[ej script 0 17,ej script 1 2567090,ej script 2 529,ej script 3 7]
theorem pj{xs:List D}{lo hi st:Option Int}{d:D}(h:d∈dn xs lo hi st):d∈xs:=by unfold dn at h;refine aq (mem_filterMap.mp h) λi _ hi=>?_;exact mem_of_getElem? hi
theorem xm{xs:List D}{lo hi st:Option Int}:(dn xs lo hi st).length<=(sliceRange (sliceBounds lo hi st xs.length).1 (sliceBounds lo hi st xs.length).2.1 (sliceBounds lo hi st xs.length).2.2).length:=List.length_filterMap_le _ _
theorem gw{script:List Int}{j told:Int}(h:0<=told):0<=ej script j told:=by
 unfold ej;refine add_nonneg h ?_;induction mP script j with
 |nil=>simp
 |cons d ds z=>rw[map_cons,sum_cons];exact add_nonneg (fmod_nonneg_of_pos _ (by decide)) z
theorem xc{script:List Int}{j:Int}:mP script j=((mP script j).map intOf).map .int:=by
 have h:∀d∈mP script j,∃i,d= .int i:=λd I=>by refine aq (et (pj (pj I))) λi _ z=>?_;obtain rfl:=z;exact⟨i,rfl⟩
 generalize mP script j=l at h;induction l with
 |nil=>rfl
 |cons d ds D=>obtain⟨i,rfl⟩:=h d (.head _);rw[map_cons,map_cons,<-D λe he=>h e (.tail _ he)];rfl
theorem yN{script:List Int}:dn (script.map .int) none (some 60) none=(script.map .int).take 60:=vK (k:=60)
theorem y8{script:List Int}{j:Int}(z:0<=j):(mP script j).length<=1000:=by
 unfold mP;refine le_trans xm ?_;rw[yN];have hn:((script.map D.int).take 60).length<=60:=by rw[length_take];exact ao 66119414850208 [_] [] yo
 generalize ((script.map D.int).take 60).length=n at hn;unfold sliceRange sliceBounds;simp only[getD_some,length_map,length_range];rw[if_neg (by exact vq (ao 2687017000 [] [_] z):¬j<0)];simp only[show((4:Int)>0)=True from by simp,if_true];split
 .exact KX hn
 .simp
theorem kO{q:Int}(z:q.natAbs<=1000):q.natAbs<big:=lt_of_le_of_lt z (lt_of_lt_of_le (by decide:1000<2^10) (pow_le_pow_right (by decide) (by decide):2^10<=2^4000))
noncomputable abbrev dZ(L a:Addr)(z:Value):Env:=bG (ak (aw 28)) "law" L a z
noncomputable def gI(n:Nat):Stmt:=oC (bp (aw 28)) n
noncomputable def zV(n:Nat):List Stmt:=(bp (aw 28)).drop n
theorem AF(g:Gl c)(R:aL A k){L a:Addr}{Y:Value}{script:List Int}(hl:script.length<=1000):
 Ev c A (dZ L a Y) [("script",.list (script.map .int))] G (cR (gI 0)) (.list ((rz script).map .int)):=by
 refine aB (tv (ds:=n7 [.int 17,.int 2567090,.int 529,.int 7]) (p:=λ_=>true) (g:=λd=>match d with| .tup [.int j,.int t]=> .int (ej script j t)|_=> .none)
  (ρd:=λd=>match d with| .tup [x,y]=>[("told",y),("j",x),("script",.list (script.map .int))]|_=>[])
  (xG g.B R.handled rfl (g.no _ (by decide)) (bq (ae aj (ae aj (ae aj (ae aj ai))))) rfl) rfl rfl (by decide) (by decide) (λ_=>rfl) (λC H d hY z=>?_) (λd z x e h=>?_) (λC G d z=>aR) (λC G d z _=>?_) (by decide)) ?_
 all_goals try
  have z:d= .tup [.int 0,.int 17]\/d= .tup [.int 1,.int 2567090]\/d= .tup [.int 2,.int 529]\/d= .tup [.int 3,.int 7]:=by have e:n7 [.int 17,.int 2567090,.int 529,.int 7]=[.tup [.int 0,.int 17],.tup [.int 1,.int 2567090],.tup [.int 2,.int 529],.tup [.int 3,.int 7]]:=rfl;rw[e]at z;simpa using z
  obtain⟨j,t,rfl,J,h4⟩:∃j t:Int,d= .tup [.int j,.int t]/\0<=j/\j<4:=by rcases z with rfl|rfl|rfl|rfl<;>exact⟨_,_,rfl,by decide,by decide⟩
 .exact bU R (aA (au (.inl rfl) rfl) (aA (au (.inl rfl) rfl) bA)) rfl rfl
 .exact cm rfl (cm rfl h)
 .refine ag (a:= .int t) (b:= .int ((mP script j).map λd=>(intOf d).fmod Ir).sum) (aa rfl) (aF g.B (x:="sum") (ds:=[.list (((mP script j).map λd=>(intOf d).fmod Ir).map .int)]) rfl (g.no _ (by decide)) boot_sum (by decide) (.b _) (ae ?_ ai) rfl (Bf R)) rfl
  refine aB (bJ (ds:=mP script j) (p:=λ_=>true) (g:=λd=> .int ((intOf d).fmod Ir)) (ρd:=λd=>[("x",d)])
   (ba R.handled (cK (o:= .list (dn (script.map .int) none (some 60) none)) (lo:=some j) (hi:=none) (st:=some 4) (cK (o:= .list (script.map .int)) (lo:=none) (hi:=some 60) (st:=none) (aa rfl) trivial aj trivial ?_) (aa rfl) trivial aj ?_))
   rfl rfl (by decide) (by decide) (λ_=>rfl) (λC H d _ _=>au (.inl rfl) rfl) (λd z x e h=>cm rfl h) (λC G d z=>aR) (λC G d z _=>?_) (by have:=y8 (script:=script) J;exact ao 0x3e832a03d090062a0 [_] [] this)) ?_
  .show(if sizeOk (script.map D.int).length then some (D.list (dn (script.map D.int) none (some 60) none))else none)=_;rw[if_pos (aD (by rw[length_map];exact ao 0x3e832a03d090062a0 [_] [] hl))]
  .show(if sizeOk (dn (script.map D.int) none (some 60) none).length then some (D.list (dn (dn (script.map D.int) none (some 60) none) (some j) none (some 4)))else none)=_;rw[if_pos (aD ?_)]
   .rfl
   .rw[yN,length_take];exact ao 0x3c22a03d090062a0 [_] [] yo
  .rw[xc]at z;refine aq (et z) λi _ I=>?_;obtain rfl:=I;exact ag (a:= .int i) (b:= .int Ir) (aa rfl) (ag (a:= .int 10) (b:= .int 30) aj aj (en (bV (by decide) (kO (by decide)) (by decide)))) (eo (by decide))
  .rw[oS (λ_ _=>rfl),map_map];rfl
 .rfl
theorem eF{b:Int}{n:Nat}(h:b=n):aJ 0 b=(range n).map ax:=by subst h;unfold aJ ax;simp
noncomputable def wd(c0:Nat):List Nat:=(range (1+c0%5)).map λk=>c0/5/3^k%3
noncomputable abbrev cD(c0 c1 c2 c3:Nat):D:= .list [ax c0,ax c1,ax c2,ax c3]
theorem Gn{n:Nat}(h:n<3):mK (.str "fil") (.int n)=some (.str (tx [lt n])):=by have:n=0\/n=1\/n=2:=EE h;rcases this with rfl|rfl|rfl<;>rfl
theorem D1{c0 x:Nat}(h:x∈wd c0):x<3:=by refine aq (et h) λk _ z=>?_;obtain rfl:=z;exact mod_lt _ (by decide)
theorem qy{c0:Nat}:1<=(wd c0).length/\(wd c0).length<=5:=by rw[wd,length_map,length_range];exact⟨aI 43237052704 [_] [],ao 0x512112a10512a11210 [_] [] DZ⟩
theorem Dh(g:Gl c)(R:aL A k){L a:Addr}{cd:Value}{c0 c1 c2 c3:Nat}:Ev c A (dZ L a cd) [("cells",cD c0 c1 c2 c3)] G (cR (gI 1)) (.str (tx ((wd c0).map lt))):=by
 have e1:((wd c0).map λi=>[lt i]).flatten=(wd c0).map lt:=by
  generalize wd c0=l;induction l with
  |nil=>rfl
  |cons x xs I=>rw[map_cons,flatten_cons,I];rfl
 refine aB (tq (ls:=(wd c0).map λi=>[lt i]) ?_ ?_ rfl rfl) (by rw[e1])
 .refine aB (bJ (ds:=(range (1+c0%5)).map ax) (p:=λ_=>true) (g:=λd=> .str (tx [lt (c0/5/3^fk d%3)])) (ρd:=λd=>[("k",d),("cells",cD c0 c1 c2 c3)])
   (eF (b:=1+((c0%5:Nat):Int)) (n:=1+c0%5) (by exact dq (aI 0xa11217a711218 [_] []) (aI 0xa71121a112178 [_] []))▸dQ g.B R.handled rfl (g.no _ (by decide)) (ag (a:= .int 1) (b:= .int (c0%5:Nat)) aj
    (ag (a:= .int c0) (b:= .int (5:Nat)) (aS (o:=cD c0 c1 c2 c3) (i:= .int 0) (aa rfl) aj rfl) aj (cB (by decide))) rfl) rfl (by exact aI 0xa711213e221588 [_] []) (by exact ao 0x512112a103e2215112a7112118 [_] [] DZ))
   rfl rfl (by decide) (by decide) (λ_=>rfl) (λC H d _ _=>au (.inl rfl) rfl) (λd J x e h=>cm rfl h) (λC G d J=>aR) (λC G d J _=>?_) (by rw[length_map,length_range];exact ao 0x512112a103d090062a11210 [_] [] DZ)) ?_
  .refine aq (et J) λk hk D=>?_;obtain rfl:=D;have z:k<5:=by have:=mem_range.mp hk;exact aM 0x512112b10b1121112a10512112a10 [_,_] [] this DZ
   have e:fk (ax k)=k:=rfl;rw[e];have h3:3^k<=81:=le_trans (pow_le_pow_right (by decide) (show k<=4 by exact ao 0x512112a10412a0 [_] [] z)) (by decide);have Y:0<3^k:=Nat.pow_pos (by decide);refine aS (o:= .str "fil") (i:= .int (c0/5/3^k%3:Nat)) eh ?_ (Gn (mod_lt _ (by decide)))
   refine ag (a:= .int (c0/5/3^k:Nat)) (b:= .int (3:Nat)) (ag (a:= .int (c0/5:Nat)) (b:= .int (3^k:Nat)) (ag (a:= .int c0) (b:= .int (5:Nat)) (aS (o:=cD c0 c1 c2 c3) (i:= .int 0) (aa rfl) aj rfl) aj (fU (by decide) (by decide)))
    (aB (ag (a:= .int 3) (b:= .int k) aj (aa rfl) (en (bV (by exact aI 684072 [_] []) (dP (by decide)) (by exact ao 0x512112a103e832a78 [_] [] z)))) ?_) (fU (by exact D0 (ao 0xa1120210a1120210 [_] [] Y)) (by exact ao 0x5122a0402215112a10 [_] [] h3))) aj (cB (by decide))
   rw[toNat_natCast];congr 1
  .rw[oS (λ_ _=>rfl),wd,map_map,map_map,map_map,map_map];congr 1
 .rw[map_map];have:=qy (c0:=c0);have e2:((wd c0).map (length∘λi=>[lt i])).sum=(wd c0).length:=by
   generalize wd c0=l;induction l with
   |nil=>rfl
   |cons x xs I=>rw[map_cons,sum_cons,I];simp;exact dG (aI 1179532726800 [_] []) (aI 0xa1121112a10 [_] [])
  rw[e2];exact ao 0x512a0100000072a0 [_] [] this.2
theorem lE{M:Nat}:∀(ts:List Str)(k:Nat)(acc:Str),(∀t∈ts,t.length<=M)->(textFrom k acc ts).length<=acc.length+ts.length*(M+2)
 |[],k,acc,_=>by simp[textFrom]
 |t::r,k,acc,h=>by
  have z:=lE r (k+1) (acc++(if k>0 then ", " else "":String)++t) λx D=>h x (.tail _ D);have e:(acc++(if k>0 then ", " else "":String)++t).length<=acc.length+2+t.length:=by
   rw[strLen_append,strLen_append];have:((if k>0 then ", " else "":String):Str).length<=2:=by split<;>decide
   exact ao 0x212b0c212a11cba110 [_,_,_] [] this
  have ht:=h t (.head _);simp only[textFrom,length_cons];rw[Nat.succ_mul];exact cU 0xdf0f212b11e0ce1a0212d1c1b1a0 [_,_,_,_,_,_] [] z e ht
theorem lJ{M:Nat}{ts:List Str}(h:∀t∈ts,t.length<=M):(listText ts).length<=2+ts.length*(M+2):=by
 unfold listText;rw[strLen_append];have:=lE ts 0 "[" h;have e1:(("[":String):Str).length=1:=by decide
 have e2:(("]":String):Str).length=1:=by decide
 exact cU 0x112d0112b0cd1a0c2121ba10 [_,_,_,_] [] this (dX e2) (dX e1)
theorem oj:∀bs:List Bool,PyData.showableAll (bs.map .bool)=true
 |[]=>by simp[PyData.showableAll]
 |b::bs=>by simp[PyData.showableAll,PyData.showable,oj bs]
theorem kF:∀bs:List Bool,PyData.hasDictAll (bs.map .bool)=false
 |[]=>by simp[PyData.hasDictAll]
 |b::bs=>by simp[PyData.hasDictAll,PyData.hasDict,kF bs]
theorem l5:∀bs:List Bool,PyData.depthAll (bs.map .bool)=0
 |[]=>by simp[PyData.depthAll]
 |b::bs=>by simp[PyData.depthAll,PyData.depth,l5 bs]
theorem qi:∀bs:List Bool,(PyData.shownAll (bs.map .bool)).length=bs.length/\∀t∈PyData.shownAll (bs.map .bool),t.length<=5
 |[]=>by simp[PyData.shownAll]
 |b::bs=>by
  obtain⟨D,z⟩:=qi bs;simp only[map_cons,PyData.shownAll,length_cons,D,mem_cons];refine⟨trivial,?_⟩;rintro t (rfl|h)
  .cases b<;>(simp only[PyData.shown];decide)
  .exact z t h
theorem wH{c:Cx}{A:Around}{k:Nat}(R:aL A k){bs:List Bool}(hl:bs.length<=1000):Callee c A (.type "str") [.list (bs.map .bool)] (.str (jZ bs)):=by
 refine vg R ?_ ?_ ?_ ?_
 .simp[PyData.showable,oj]
 .simp[PyData.hasDict,kF]
 .simp[PyData.depth,l5]
 .unfold jZ;simp only[PyData.shown];obtain⟨D,z⟩:=qi bs;have:=lJ z;rw[D]at this;lia
noncomputable def mx(x:Nat):Bool:=Ey.contains (x:Int)
noncomputable def eP(z:List Nat):List Nat:=(((z.filter λx=> !mx x).map m3).map λy=>y.cps.toList).flatten
noncomputable def yf:D->Nat
 | .str x=>x.cps.toList.headD 0
 |_=>0
theorem tG{x:Nat}:yf (.str (tx [x]))=x:=rfl
theorem xX{n:Nat}{q z pos:Pos}{e:Expr}{ls:List Str}(he:Ev c A O ρ G e (.list (ls.map .str)))(hsz:(ls.map (·.length)).sum<=16777216)
 (D:starEach [e] O=[(false,eval e O)])(I:(z.endLine==pos.line)=true):
 Ev c A O ρ G (.Call (.Attribute (.Constant (.str "") n q) "join" z) [e] [] pos) (.str (tx (ls.map λy=>y.cps.toList).flatten)):=by
 have J:starEach [e] O=(false,eval e O)::starEach [] O:=D;refine aB (dA (d0:= .str "") (ds:=[.list (ls.map .str)]) sN rfl eh (ae he ai J) (by rw[D];rfl) (Bj ?_) rfl (by rw[D];rfl) I) (by rw[IF]);have e0:("":Str).length=0:=by decide
 rw[e0,mul_zero,Nat.add_zero];exact hsz
noncomputable abbrev Ke(z:List Nat):D:= .list (z.map λx=> .str (tx [x]))
noncomputable abbrev MC(z:List Nat):D:= .list (z.map λx=> .bool (eA.contains x))
theorem pO{p:Nat->Bool}:∀z:List Nat,((z.map λx=>D.str (tx [x])).filter λd=>p (yf d))=(z.filter p).map λx=>D.str (tx [x])
 |[]=>rfl
 |x::z=>by rw[map_cons,filter_cons,filter_cons,tG,pO z];cases p x<;>rfl
theorem Di(g:Gl c)(R:aL A 5){N4 N3:Value}(xV:FnAt c 14 "in_table_b1" N4)(Ep:FnAt c 16 "map_table_b3" N3){L a:Addr}{cd:Value}{I:List Nat}{fl:D}{wt:D}{cc:D}(hl:I.length<=1000)(J:∀x∈I,(qU x).length<=100)(QH:((((I.filter λx=> !mx x).map m3)).map (·.length)).sum<=16777216):
 Ev c A (dZ L a cd) [("flags",fl),("signs",Ke I),("word",wt),("cells",cc)] G (cR (gI 3)) (.str (tx (eP I))):=by
 refine xX ?_ QH rfl rfl
 refine aB (bJ (ds:=I.map λx=> .str (tx [x])) (p:=λd=> !mx (yf d)) (g:=λd=> .str (m3 (yf d))) (ρd:=λd=>[("sign",d)])
  (ba R.handled (aa rfl)) rfl rfl (by decide) (by decide) (λ_=>rfl) (λC H d _ _=>au (.inl rfl) rfl) (λd Y x e h=>cm rfl h) (λC G d Y=>?_) (λC G d Y _=>?_) (by rw[length_map];exact ao 0x3e832a03d090062a0 [_] [] hl)) ?_
 .refine aq (et Y) λx hx z=>?_;obtain rfl:=z;rw[tG];exact ee (BZ (gU (a:= .bool (mx x)) (bz g.B rfl xV.g xV.f.plain (ae (aa rfl) ai) rfl (D7 g R xV)) rfl) rfl)
 .refine aq (et Y) λx hx z=>?_;obtain rfl:=z;rw[tG];exact bz g.B rfl Ep.g Ep.f.plain (ae (aa rfl) ai) rfl (Im g R Ep (J x hx))
 .rw[pO (p:=λx=> !mx x),map_map,map_map];rfl
noncomputable def vW:Stmt->Expr
 | .If t _ _ _=>t
 |_=> .Constant .none 0 ⟨0,0,0,0⟩
noncomputable def kA(l:List Nat)(z:Nat):Nat:=(Builtin.Str.occurrences (tx l) (tx [z]) 0 (tx l).length ((tx l).length+1)).length
noncomputable def iA(c2:Nat):Int:=(2+(c2%8:Nat))*(1-2*(c2/8%2:Nat))
noncomputable def widthOf(c2:Nat):Nat:=6+c2/16%4
theorem yL(g:Gl c)(R:aL A 5){J:Value}(xV:FnAt c 14 "in_table_b1" J){L a:Addr}{cd:Value}{s0:Nat}{sr w:List Nat}{cc:D}(hl:(s0::sr).length<=1000)(hw:w.length<=1000)(Y:∀x∈s0::sr,mx x=eA.contains x)(z:eP (s0::sr)=s0::w):
 jt c A (dZ L a cd) [("read",.str (tx (eP (s0::sr)))),("flags",MC (s0::sr)),("signs",Ke (s0::sr)),("word",.str (tx w)),("cells",cc)] G (vW (gI 4)) false:=by
 rw[z];have e1:(((s0::sr).map mx).map D.bool)=(s0::sr).map λx=> .bool (eA.contains x):=by rw[map_map];exact map_congr_left λx hx=>congrArg D.bool (Y x hx)
 have e2:((s0::sr).map λx=>D.bool (eA.contains x))=((s0::sr).map mx).map .bool:=e1.symm;have ne:∀x:Str,ij .NotEq (.str x) (.str x)=some false:=λx=>by show some (!(x==x))=some false;simp
 refine mi (aC g.B R (a:= .str (jZ ((s0::sr).map mx))) (b:= .str (jZ ((s0::sr).map mx))) ?_ ?_ (ne _)) (aC g.B R (a:= .str (tx (s0::w))) (b:= .str (tx (s0::w))) (aa rfl) ?_ (ne _))
 .refine aF g.B (x:="str") (ds:=[.list (((s0::sr).map mx).map .bool)]) rfl (g.no _ (by decide)) boot_str (by decide) (.t _) (ae ?_ ai) rfl (wH R (by rw[length_map];exact hl))
  refine aB (bJ (ds:=(s0::sr).map λx=> .str (tx [x])) (p:=λ_=>true) (g:=λd=> .bool (mx (yf d))) (ρd:=λd=>[("sign",d)])
   (ba R.handled (aa rfl)) rfl rfl (by decide) (by decide) (λ_=>rfl) (λC H d _ _=>au (.inl rfl) rfl) (λd hd x e h=>cm rfl h) (λC G d hd=>aR) (λC G d hd _=>?_) (by rw[length_map];exact ao 0x3e832a03d090062a0 [_] [] hl)) ?_
  .refine aq (et hd) λx hx I=>?_;obtain rfl:=I;rw[tG];exact bz g.B rfl xV.g xV.f.plain (ae (aa rfl) ai) rfl (D7 g R xV)
  .rw[oS (λ_ _=>rfl),map_map,map_map];rfl
 .exact aF g.B (x:="str") (ds:=[.list (((s0::sr).map mx).map .bool)]) rfl (g.no _ (by decide)) boot_str (by decide) (.t _) (ae (aB (aa (d:=MC (s0::sr)) rfl) (congrArg D.list e2)) ai) rfl (wH R (by rw[length_map];exact hl))
 .exact ag (a:= .str (tx [s0])) (b:= .str (tx w)) (aS (o:=Ke (s0::sr)) (i:= .int 0) (aa rfl) aj rfl) (aa rfl) (jf (by simp;exact ao 0x3e832a0100000072a11210 [_] [] hw))
theorem Dk(g:Gl c)(R:aL A 5){L a:Addr}{cd:Value}{rd w:List Nat}{fl I cc:D}{n0 n1 n2:Nat}(J:w.length<=1000)(h0:kA rd 102=n0)(h1:kA rd 105=n1)(Y:kA rd 108=n2):
 Ev c A (dZ L a cd) [("read",.str (tx rd)),("flags",fl),("signs",I),("word",.str (tx w)),("cells",cc)] G (cR (gI 5)) (.tup [ax w.length,.list [ax n0,ax n1,ax n2]]):=by
 subst h0 h1 Y;refine bb (ae (aF g.B (x:="len") rfl (g.no _ (by decide)) boot_len (by decide) (.b _) (ae (aa (d:= .str (tx w)) rfl) ai) rfl (gP (n:=w.length) ?_)) (ae ?_ ai))
 .show(if sizeOk (tx w).length then some ((tx w).length:Int)else none)=_;rw[df,if_pos (aD (by exact ao 0x3e832a03d090062a0 [_] [] J))]
 .refine aB (bJ (ds:=[.str (tx [102]),.str (tx [105]),.str (tx [108])]) (p:=λ_=>true) (g:=λd=>ax (kA rd (yf d))) (ρd:=λd=>[("letter",d),("read",.str (tx rd))])
   (vS (x:="fil") R.handled eh (by decide+kernel)) rfl rfl (by decide) (by decide) (λ_=>rfl) (λC H d _ _=>au (.inl rfl) rfl) (λd z x e h=>cm rfl h) (λC G d z=>aR) (λC G d z _=>?_) (by decide)) ?_
  .obtain⟨x,rfl⟩:∃x,d= .str (tx [x]):=by simp only[mem_cons,not_mem_nil,or_false]at z;rcases z with rfl|rfl|rfl<;>exact⟨_,rfl⟩
   rw[tG];exact dA (d0:= .str (tx rd)) pB rfl (aa rfl) (ae (aa rfl) ai) rfl wJ rfl rfl rfl
  .rfl
theorem Gr(g:Gl c)(R:aL A 5){L a:Addr}{Y:Value}{c0 c1 c2 c3:Nat}{ρ:List (Str×D)}(h:ρ.lookup ("cells":Str)=some (cD c0 c1 c2 c3)):
 Ev c A (dZ L a Y) ρ G (cR (gI 6)) (.tup [.int (iA c2),ax (widthOf c2)]):=by
 have J:c2%8<8:=mod_lt _ (by decide);have I:c2/8%2<2:=mod_lt _ (by decide);refine bb (ae ?_ (ae ?_ ai))
 .refine ag (a:= .int (2+(c2%8:Nat))) (b:= .int (1-2*(c2/8%2:Nat))) (ag (a:= .int 2) (b:= .int (c2%8:Nat)) aj (ag (a:= .int c2) (b:= .int (8:Nat)) (aS (o:=cD c0 c1 c2 c3) (i:= .int 2) (aa h) aj rfl) aj (cB (by decide))) rfl)
   (ag (a:= .int 1) (b:= .int (2*(c2/8%2:Nat))) aj (ag (a:= .int 2) (b:= .int (c2/8%2:Nat)) aj (ag (a:= .int (c2/8:Nat)) (b:= .int (2:Nat)) (ag (a:= .int c2) (b:= .int (8:Nat)) (aS (o:=cD c0 c1 c2 c3) (i:= .int 2) (aa h) aj rfl) aj (fU (by decide) (by decide))) aj (cB (by decide))) (dp ?_)) rfl) (dp ?_)
  .exact bh (dP (by decide)) (dP (by exact aM 0x212112b10b7a78912a0 [_,_] [] (t4 (aI 684072 [_] [])) I))
  .exact bh (kO (by exact aM 0x812112b10b72121a783e832a0 [_,_] [] (t4 (aI 44863459368 [_] [])) J)) (dP (by exact(Int.le_total 0 (1-(2*(((c2/8%2):Nat):Int)))).elim (λz=>ao 0xb72131126a78912a0 [_,_] [] (t4 z)) λz=>aM 0x212112b11b721311268a78912a0 [_,_] [] (G7 z) I))
 .refine aB (ag (a:= .int 6) (b:= .int (c2/16%4:Nat)) aj (ag (a:= .int (c2/16:Nat)) (b:= .int (4:Nat)) (ag (a:= .int c2) (b:= .int (16:Nat)) (aS (o:=cD c0 c1 c2 c3) (i:= .int 2) (aa h) aj rfl) aj (fU (by decide) (by decide))) aj (cB (by decide))) rfl) ?_;unfold widthOf ax;congr 1
noncomputable def uu(x:Int)(n:Nat):List Int:=(range n).map λ(i:Nat)=>x^(1+i)-1
noncomputable def iu(x:Int)(n:Nat):Int:=cj (uu x n)
noncomputable def eZ(x:Int)(cs:List Nat):Int:=cj (cs.map (uu x)).flatten
noncomputable def jE(x:Int)(n:Nat)(cs:List Nat):D:= .tup [.int ((iu x n).fdiv (eZ x cs)),.int ((iu x n).fmod (eZ x cs))]
theorem kZ:∀(ns:List Int)(a:Int),ns.foldl (· * ·) a=a*cj ns
 |[],a=>by simp[cj]
 |n::ns,a=>by have e1:=kZ ns (a*n);have e2:=kZ ns (1*n);unfold cj at e2⊢;rw[foldl_cons,foldl_cons,e1,e2,one_mul,mul_assoc];rfl
theorem mY{n:Int}{ns:List Int}:cj (n::ns)=n*cj ns:=by unfold cj;rw[foldl_cons,kZ,one_mul];rfl
theorem sq{B:Nat}:∀ns:List Int,(∀x∈ns,x.natAbs<=B)->(cj ns).natAbs<=B^ns.length
 |[],_=>by simp[cj]
 |n::ns,h=>by rw[mY,Int.natAbs_mul,length_cons,pow_succ,Nat.mul_comm (B^ns.length)];exact mul_le_mul (h n (.head _)) (sq ns λx z=>h x (.tail _ z))
theorem vG:∀ns:List Int,(∀x∈ns,x≠0)->cj ns≠0
 |[],_=>by decide
 |n::ns,h=>by rw[mY];exact Int.mul_ne_zero (h n (.head _)) (vG ns λx z=>h x (.tail _ z))
theorem Lj{e:Nat}(h:e<=30):(2^60:Nat)^e<2^1850:=by rw[<-Nat.pow_mul];exact Nat.pow_lt_pow_right (by decide) (by exact ao 0x1e223c23a3c23073a32112a3c2310 [_] [] (mul_le_mul_left 60 h))
theorem fw{x:Int}(h:x.natAbs<2^1850):x.natAbs<big:=lt_of_lt_of_le h (pow_le_pow_right (by decide) (by decide))
theorem iN{ns:List Int}(h:∀x∈ns,x.natAbs<=2^60)(hl:ns.length<=30)(i:Nat):(cj (ns.take i)).natAbs<2^1850:=by refine lt_of_le_of_lt (sq (ns.take i) λx z=>h x (mem_of_mem_take z)) (Lj ?_);rw[length_take];exact aM 0x1e22b0ba01e22a0 [_,_] [] Bx hl
theorem mX{ns:List Int}(h:∀x∈ns,x.natAbs<=2^60)(hl:ns.length<=30):(cj ns).natAbs<2^1850:=by have:=iN h hl ns.length;rwa[take_of_length_le (le_refl _)]at this
theorem zh{x:Int}{n:Nat}{y:Int}(Y:2<=x.natAbs)(I:x.natAbs<=1000)(hn:n<=5)(h:y∈uu x n):y.natAbs<=2^60/\y≠0:=by
 refine aq (et h) λi hi D=>?_;obtain rfl:=D;have hi:=mem_range.mp hi;have J:(x^(1+i)).natAbs<=1000^5:=by rw[natAbs_pow];exact le_trans (Nat.pow_le_pow_left I _) (pow_le_pow_right (by decide) (by exact aM 0x512b0b112a10512a11210 [_,_] [] hi hn))
 have h2:2<=(x^(1+i)).natAbs:=by rw[natAbs_pow,add_comm,pow_succ];exact le_trans Y (Nat.le_mul_of_pos_left _ (Nat.pow_pos (by exact ao 0xa2120a1120210 [_] [] Y)))
 have h3:(1000:Nat)^5=1000000000000000:=by decide
 generalize x^(1+i)=y at J h2;exact⟨(Int.le_total 0 ((y)-1)).elim (λz=>cU 0x513e835b0b7a8112a6a783c2215a0 [_,_] [_] (t4 z) J7 J) λz=>cU 0x513e835b0b7a88112a68a783c2215a0 [_,_] [_] (G7 z) HM J,(Int.le_total 0 (y)).elim (λz=>oD (aM 0xa2120aa78112a61120218 [_] [_] (t4 z) h2)) λz=>Ha (ao 0x2a802112112a618 [] [_] z)⟩
theorem jJ{n:Nat}:aJ 1 ((n:Int)+1)=(range n).map λ(i:Nat)=>D.int (1+i):=by unfold aJ;rw[show((n:Int)+1-1).toNat=n from by exact dG (ao 0x112112b716a78ba0 [_,_] [] (rP (aI 301339912527912 [_] []))) (ao 0xb7112112a7168ba0 [_,_] [] uc)]
theorem uW(ar:Ar c P5 C5 P6 C6)(R:aL A 28){He v8:Value}(oK:FnAt c 21 "_law_product" He)(f8:FnAt c 8 "int_divmod" v8){L a:Addr}{cd:Value}{q base:Int}{wt:D}{n0 n1 n2 n:Nat}{cc rd:D}(hn:n<=5)(hs:n0+n1+n2=n)
 (hq:2<=q.natAbs/\q.natAbs<=1000)(hb:2<=base.natAbs/\base.natAbs<=1000):
 yn c A (tT P5 P6) (tB P5 C5 P6 C6) (tF P5 C5 P6 C6) (dZ L a cd) [("base",.int base),("width",wt),("q",.int q),("counts",.list [ax n0,ax n1,ax n2]),("size",ax n),("read",rd),("cells",cc)] (cR (gI 8))
  (.list [jE q n [n0,n1,n2],jE base n [n0,n1,n2]]):=by
 have g:=ar.gl;refine(AG (ds:=[.int q,.int base]) (g:=λd=>jE (intOf d) n [n0,n1,n2]) (λG=>ke R.handled (bb (ae (aa rfl) (ae (aa rfl) ai)))) rfl rfl (by decide) (by decide) (λ_=>rfl) (λC=> .inr (by decide)) rfl (λC d J=>?_) (by simp) (by simp));obtain⟨x,rfl,hx,IM⟩:∃x:Int,d= .int x/\2<=x.natAbs/\x.natAbs<=1000:=by
  simp only[mem_cons,not_mem_nil,or_false]at J;rcases J with rfl|rfl
  .exact⟨_,rfl,hq⟩
  .exact⟨_,rfl,hb⟩
 show yn c A _ _ _ _ _ _ (jE x n [n0,n1,n2]);have l1:(uu x n).length=n:=by simp[uu]
 have l2:([n0,n1,n2].map (uu x)).flatten.length=n:=by simp[uu];exact dG (ao 0xdcba110dcb1a10 [_,_,_,_] [] (dX hs)) (ao 0xdcb11a0dc1b1a0 [_,_,_,_] [] (ju hs))
 have b1:∀y∈uu x n,y.natAbs<=2^60/\y≠0:=λy I=>zh hx IM hn I;have b2:∀y∈([n0,n1,n2].map (uu x)).flatten,y.natAbs<=2^60/\y≠0:=λy I=>by
  refine aq (List.mem_flatten.mp I) λl hl I=>?_;refine aq (et hl) λm hm Y=>?_;obtain rfl:=Y;refine zh hx IM ?_ I;simp only[mem_cons,not_mem_nil,or_false]at hm;have h:=HN hs;rcases hm with rfl|rfl|rfl
  .exact le_trans h.1 hn
  .exact le_trans h.2.1 hn
  .exact le_trans h.2.2 hn
 have p1:=mX (λy I=>(b1 y I).1) (by exact aM 0x512b0ba01e22a0 [_,_] [] (dX l1) hn);have p2:=mX (λy I=>(b2 y I).1) (by exact aM 0x512b0ba01e22a0 [_,_] [] (dX l2) hn);have I0:∀{e:Nat},e<=5->gf .Pow (.int x) (.int (1+e))=some (.int (x^(1+e))):=λ{e}he=>by rw[en (bV (by exact aI 44846682152 [_] []) (kO IM) (by exact ao 0x512a03e832a711218 [_] [] he))];congr 2
 refine fB g.B rfl f8.g f8.f.plain (λG=>ae (d:= .int (iu x n)) ?_ (ae (d:= .int (eZ x [n0,n1,n2])) ?_ ai)) rfl (zz ar R f8 (vG _ λy I=>(b2 y I).2) (intBits_le_iff.mpr (lt_of_lt_of_le p1 (pow_le_pow_right (by decide) (by decide)))) (intBits_le_iff.mpr (lt_of_lt_of_le p2 (pow_le_pow_right (by decide) (by decide)))))
 .refine bz g.B rfl oK.g oK.f.plain (ae (d:= .list ((uu x n).map .int)) ?_ ai) rfl (gW g (R.le (by decide)) oK (λi=>fw (iN (λy I=>(b1 y I).1) (by exact aM 0x512b0ba01e22a0 [_,_] [] (dX l1) hn) i)) (λy I=>fw (lt_of_le_of_lt (b1 y I).1 (Nat.pow_lt_pow_right (by decide) (by decide)))))
  refine aB (bJ (ds:=aJ 1 ((n:Int)+1)) (p:=λ_=>true) (g:=λd=> .int (x^(intOf d).toNat-1)) (ρd:=λd=>[("k",d),("x",.int x)])
   (dw g.B R.handled rfl (g.no _ (by decide)) aj (ag (a:= .int n) (b:= .int 1) (aa rfl) aj rfl) rfl rfl (by decide) (by decide) (by exact aI 4831740466173320 [_] []) (by exact ao 0x512a03e2215112112a7118 [_] [] hn)) rfl rfl (by decide) (by decide) (λ_=>rfl) (λC H d _ _=>au (.inl rfl) rfl) (λd J x e h=>cm rfl h) (λC G d J=>aR) (λC G d J _=>?_) (by rw[jJ,length_map,length_range];exact ao 0x512a03d090062a0 [_] [] hn)) ?_
  .rw[jJ]at J;refine aq (et J) λi hi Y=>?_;obtain rfl:=Y;have hi:=mem_range.mp hi;refine ag (a:= .int (x^(1+i))) (b:= .int 1) (ag (a:= .int x) (b:= .int (1+i)) (aa rfl) (aa rfl) (I0 (by exact aM 0x512b0b112a10512a0 [_,_] [] hi hn))) aj ?_;show some _=some _;congr 3
  .rw[oS (λ_ _=>rfl),jJ,uu,map_map,map_map];congr 1
 .refine bz g.B rfl oK.g oK.f.plain (ae (d:= .list ((([n0,n1,n2].map (uu x)).flatten).map .int)) ?_ ai) rfl (gW g (R.le (by decide)) oK (λi=>fw (iN (λy I=>(b2 y I).1) (by exact aM 0x512b0ba01e22a0 [_,_] [] (dX l2) hn) i)) (λy I=>fw (lt_of_le_of_lt (b2 y I).1 (Nat.pow_lt_pow_right (by decide) (by decide)))));have Ei:(([ax n0,ax n1,ax n2]:List D).map λd=>if(λ_=>true) d=true then((aJ 1 (intOf d+1)).filter λ_=>true).map (λe=>D.int (x^(intOf e).toNat-1))else []).flatten=(([n0,n1,n2].map (uu x)).flatten).map .int:=by
   have one:∀m:Nat,((aJ 1 (intOf (ax m)+1)).filter λ_=>true).map (λe=>D.int (x^(intOf e).toNat-1))=(uu x m).map .int:=λm=>by show((aJ 1 ((m:Int)+1)).filter λ_=>true).map _=_;rw[oS (λ_ _=>rfl),jJ,uu,map_map,map_map];congr 1
   simp only[map_cons,map_nil,if_true,one,flatten_cons,flatten_nil,append_nil,map_append]
  refine aB (nZ (ds:=[ax n0,ax n1,ax n2]) (p:=λ_=>true) (ρd:=λd=>[("count",d),("x",.int x)]) (ds2:=λd=>aJ 1 (intOf d+1)) (q:=λ_ _=>true) (ρe:=λd e=>[("k",e),("count",d),("x",.int x)]) (g:=λd e=> .int (x^(intOf e).toNat-1)) ?hi ?hclos ?hkind ?hnames ?hY ?hs ?hs2 ?ha ?hback ?ht ?hi2 ?ha2 ?hback2 ?ht2 ?he ?hlen) (congrArg D.list Ei)
  case hi=>exact ba R.handled (aa rfl)
  case hclos=>rfl
  case hkind=>rfl
  case hnames=>decide
  case hY=>decide
  case hs=>exact λ_=>rfl
  case hs2=>exact λ_ _=>rfl
  case ha=>exact λC H d _ _=>au (.inl rfl) rfl
  case hback=>exact λd J x e h=>cm rfl h
  case ht=>exact λC G d J=>aR
  case hi2=>
   intro C G d J _;obtain⟨m,rfl,hm⟩:∃m:Nat,d=ax m/\m<=5:=by
    simp only[mem_cons,not_mem_nil,or_false]at J;rcases J with rfl|rfl|rfl
    .exact⟨_,rfl,by exact aM 0x512d0dcba110512a0 [_,_,_,_] [] (dX hs) hn⟩
    .exact⟨_,rfl,by exact aM 0x512d0dcab110512a0 [_,_,_,_] [] (dX hs) hn⟩
    .exact⟨_,rfl,by exact aM 0x512d0dacb110512a0 [_,_,_,_] [] (dX hs) hn⟩
   exact dw g.B R.handled rfl (g.no _ (by decide)) aj (ag (a:= .int m) (b:= .int 1) (aa rfl) aj rfl) rfl rfl (by decide) (by decide) (by simp only[intOf,ax];exact aI 4831740466173320 [_] []) (by simp only[intOf,ax];exact ao 0x512a03e2215112112a7118 [_] [] hm)
  case ha2=>exact λC H d e hY J hp he=>au (.inl rfl) rfl
  case hback2=>exact λd J hp e he x z h=>cm rfl h
  case ht2=>exact λC G d e J hp he=>aR
  case he=>
   intro C G d e J hp he Sd;obtain⟨m,rfl,hm⟩:∃m:Nat,d=ax m/\m<=5:=by
    simp only[mem_cons,not_mem_nil,or_false]at J;rcases J with rfl|rfl|rfl
    .exact⟨_,rfl,by exact aM 0x512d0dcba110512a0 [_,_,_,_] [] (dX hs) hn⟩
    .exact⟨_,rfl,by exact aM 0x512d0dcab110512a0 [_,_,_,_] [] (dX hs) hn⟩
    .exact⟨_,rfl,by exact aM 0x512d0dacb110512a0 [_,_,_,_] [] (dX hs) hn⟩
   have he:e∈aJ 1 ((m:Int)+1):=he;rw[jJ]at he;refine aq (et he) λi hi Y=>?_;obtain rfl:=Y;have hi:=mem_range.mp hi;refine ag (a:= .int (x^(1+i))) (b:= .int 1) (ag (a:= .int x) (b:= .int (1+i)) (aa rfl) (aa rfl) (I0 (by exact aM 0x512b0b112a10512a0 [_,_] [] hi hm))) aj ?_;show some _=some _;congr 3
  case hlen=>rw[Ei,length_map,l2];exact ao 0x512a03d090062a0 [_] [] hn
structure L2(c:Cx):Prop where
 B:c.B
 no:∀x∈(["len","max","min","sum","ord","chr","divmod","round","str","dict","tuple","list","range","reversed","enumerate","zip"]:List Str),c.mg x=none
 Kk:∃v,c.mg "int_divmod"=some v/\Plain c v/\∀{A:Around}{a b:Int},aL A 28->b≠0->intBits a<=1899->intBits b<=1900->Callee c A v [.int a,.int b] (.tup [.int (a.fdiv b),.int (a.fmod b)])
 IK:∃v,c.mg "_int2digits"=some v/\Plain c v/\∀{A:Around}{x n:Nat},aL A 20->0<n->n<=4000->n*((intBits x+n-1)/n)<=3900->(intBits x+n-1)/n<=4000->
  Callee c A v [.int x,.int n] (.list ((bX n ((intBits x+n-1)/n) x).map .int))
 Od:∃v,c.mg "_law_product"=some v/\Plain c v/\∀{A:Around}{ns:List Int},aL A 5->(∀i,(cj (ns.take i)).natAbs<big)->(∀n∈ns,n.natAbs<big)->Callee c A v [.list (ns.map .int)] (.int (cj ns))
 ord:∃v,c.mg "_law_orders"=some v/\Plain c v/\∀{A:Around}{n:Nat}{cs:List Int},n<=8->aL A (n+1)->cs.length=3->(∀x∈cs,0<=x)->cs.sum=n->Callee c A v [lD cs] (.list ((aT n cs).map lD))
 wz:∃v,c.mg "_law_due"=some v/\Plain c v/\∀{A:Around}{q bx c0 c1 c2 f0 f1 f2:Int},aL A 5->q.natAbs<=9->(0<=c0/\c0<=9)->(0<=c1/\c1<=9)->(0<=c2/\c2<=9)->(∀x∈[f0,f1,f2],x.natAbs<big)->
  Callee c A v [.int q,lD [c0,c1,c2],.int bx,lD [f0,f1,f2]] (lD (bx::cQ q [c0,c1,c2] [f0,f1,f2] 3))
 way:∃v,c.mg "_law_ways"=some v/\Plain c v/\∀{A:Around}{q:Int}{w:List Nat},aL A 5->w.length<=5->q.natAbs<=9->(∀x∈w,x<3)->Callee c A v [.str (wS w),.int q] (.bT (cu q w w.length).1 ((cu q w w.length).2.map .int))
 ET:∃v,c.mg "_law_told"=some v/\Plain c v/\∀{A:Around}{W:Wy}{white:Int},aL A 20->W.1.length=W.2.length->W.1.length<=4000000->(∀z∈W.1,ly z (ra z white) (rb z white) (rc z white)=true/\(ez z).natAbs<big)->
  Callee c A v [.bT W.1 (W.2.map .int),.int white] (lD ((dT W W.1).1::(dT W W.1).2))
 par:∃v,c.mg "_law_parted"=some v/\Plain c v/\∀{A:Around}{over under:List Nat}{values:List Int}{cut behind M:Nat},aL A 30->rK over under values cut behind M->
  Callee c A v [.list (over.map ax),.list (under.map ax),.list (values.map .int),ax cut,ax behind] (.int (jo (tx (aG over cut behind)) (tx (aG under cut behind)) M values))
noncomputable def rowOf:D->List Int
 | .list xs=>xs.map intOf
 |_=>[]
theorem qK{r:List Int}:rowOf (lD r)=r:=by
 show(r.map D.int).map intOf=r;rw[map_map];have:(intOf∘D.int)=id:=by funext i;rfl
 rw[this,map_id]
noncomputable def nV(r:List Int)(n:Nat):Nat:=((range n).map λj=>((range j).filter λi=>decide (r.getD j 0<r.getD i 0)).length).sum
noncomputable def eI(n:Nat)(cs:List Int):List Int:=(aT n cs).map λr=>(nV r n:Int)
noncomputable def eY(n:Nat)(cs:List Int):Nat:=((aT n cs).filter λr=>r==r.reverse).length
theorem yQ{α:Type}{f:α->Nat}{M:Nat}:∀l:List α,(∀x∈l,f x<=M)->(l.map f).sum<=l.length*M
 |[],_=>by simp
 |x::l,h=>by have I:=h x (.head _);have D:=yQ l λy z=>h y (.tail _ z);rw[map_cons,sum_cons,length_cons,Nat.succ_mul];exact aM 0xcb0da0dc1ba10 [_,_,_,_] [] I D
theorem tn{r:List Int}{n:Nat}:nV r n<=n*n:=by
 unfold nV;have:=yQ (f:=λj=>((range j).filter λi=>decide (r.getD j 0<r.getD i 0)).length) (M:=n) (range n) λj D=>by have z:=length_filter_le (λi=>decide (r.getD j 0<r.getD i 0)) (range j);rw[length_range]at z;have:=mem_range.mp D;exact aM 0xb112c10ca0ba0 [_,_,_] [] z this
 rwa[length_range]at this
theorem tj{r:List Int}{n:Nat}:(((aJ 0 (n:Int)).map λd=>if(λ_=>true) d=true then((aJ 0 (intOf d)).filter λe=>decide (r.getD (intOf d).toNat 0<r.getD (intOf e).toNat 0)).map (λ_=>D.int 1)else []).flatten).length=nV r n:=by rw[eF rfl,List.length_flatten,map_map,map_map,nV];congr 1;refine map_congr_left λj z=>?_;show(((aJ 0 (intOf (ax j))).filter λe=>decide (r.getD (intOf (ax j)).toNat 0<r.getD (intOf e).toNat 0)).map (λ_=>D.int 1)).length=_;rw[length_map,show intOf (ax j)=(j:Int)from rfl,eF rfl,filter_map,length_map,toNat_natCast];congr 1
theorem xk{xs:List D}:dn xs none none (some (-1))=xs.reverse:=by
 unfold dn sliceBounds sliceRange;simp only[getD_some];rw[if_neg (by decide:¬((-1:Int)>0)),if_neg (by decide:¬((-1:Int)>0)),if_neg (by decide:¬((-1:Int)>0))];have hc:(if((xs.length:Int)-1)> -1 then(((xs.length:Int)-1)- -1- -1-1)/(- -1)else 0)=(xs.length:Int):=by
  split
  .rw[show(- -1:Int)=1 from rfl,Int.ediv_one];exact dq (aI 0xa711211281128112a766668 [_] []) (aI 0x11211281128112a76666a78 [_] [])
  .exact Pg ‹_›
 rw[hc,toNat_natCast];have:∀n,n<=xs.length->((range n).map λ(k:Nat)=>((xs.length:Int)-1+ -1*(k:Int)).toNat).filterMap (xs[·]?)=(xs.drop (xs.length-n)).reverse:=by
  intro n;induction n with
  |zero=>intro _;simp
  |succ n I=>
   intro hn;rw[List.range_succ,map_append,List.filterMap_append,I (by exact ao 760521755552 [_,_] [] hn)];have e:((xs.length:Int)-1+ -1*(n:Int)).toNat=xs.length-(n+1):=Pf hn;have z:xs.length-(n+1)<xs.length:=by exact ao 0xb112c1a10b112a10 [_,_,_] [] (dE (ao 0xb112a10b112a10 [_,_] [] hn))
   simp only[map_cons,map_nil,e,List.filterMap_cons,List.filterMap_nil,getElem?_eq_getElem z];rw[drop_eq_getElem_cons z,List.reverse_cons,show xs.length-(n+1)+1=xs.length-n from by exact dG (aM 0xcb1d0d112c1a10b112a10 [_,_,_,_] [] (dE (ao 0xb112a10b112a10 [_,_] [] hn)) eC) (aM 0x112c1b1d0dca10112b1a0 [_,_,_,_] [] (dE (ao 760521755552 [_,_] [] hn)) eC)]
 have h:=this xs.length (le_refl _);rw[Nat.sub_self,drop_zero]at h;exact h
noncomputable abbrev yx(n0 n1 n2:Nat):D:= .list [ax n0,ax n1,ax n2]
noncomputable abbrev rO(n0 n1 n2:Nat):List Int:=[(n0:Int),(n1:Int),(n2:Int)]
def Sub(ρ₁ z:List (Str×D)):Prop:=∀x d,ρ₁.lookup x=some d->z.lookup x=some d
theorem dh{z:List (Str×D)}:Sub [] z:=λ_ _ h=>nomatch h
theorem az{ρ₁ z:List (Str×D)}{x:Str}{d:D}(h:z.lookup x=some d)(h':Sub ρ₁ z):Sub ((x,d)::ρ₁) z:=λy e I=>by
 rw[lookup_cons]at I;by_cases q:y=x
 .subst q;simp only[BEq.rfl]at I;obtain rfl:=bg I;exact h
 .rw[show(y==x)=false from by simpa using q]at I;exact h' y e I
theorem Vw.weak{ρ₁:List (Str×D)}(V:Vw c O ρ G s)(h:Sub ρ₁ ρ):Vw c O ρ₁ G s:=
 {sub:=V.sub,base:=V.base,toks:=V.toks,kind:=V.kind,glob:=V.glob,fq:=V.fq,vars:=λx d e=>V.vars x d (h x d e),apart:=V.apart,cells:=V.cells}
theorem Ev.weak{ρ₁:List (Str×D)}{e:Expr}{d:D}(he:Ev c A O ρ₁ G e d)(h:Sub ρ₁ ρ):Ev c A O ρ G e d:= .mk λE s V=>he.1 E s (V.weak h)
theorem jt.weak{ρ₁:List (Str×D)}{e:Expr}{b:Bool}(he:jt c A O ρ₁ G e b)(h:Sub ρ₁ ρ):jt c A O ρ G e b:= .mk λE s V=>he.1 E s (V.weak h)
theorem Dj(l:L2 c)(R:aL A 20){L a:Addr}{D:Value}{n0 n1 n2 n:Nat}(hn:n<=5)(hs:n0+n1+n2=n)(h:ρ.lookup ("counts":Str)=some (yx n0 n1 n2)):
 Ev c A (dZ L a D) ρ G (cR (gI 9)) (.list ((aT n (rO n0 n1 n2)).map lD)):=by
 refine jU l.ord λv f1 f2 f3=>?_;refine bz l.B rfl f1 f2 (ae (d:=lD (rO n0 n1 n2)) (aa h) ai) rfl (f3 (by exact ao 348597523104 [_] [] hn) (R.le (by exact ao 0x512a01422112a10 [_] [] hn)) rfl ?_ ?_)
 .intro x z;simp only[mem_cons,not_mem_nil,or_false]at z;rcases z with rfl|rfl|rfl<;>exact aI 684072 [_] []
 .simp[rO];exact dq (ao 0xdcba110d7c7b71a718 [_,_,_,_] [] (dX hs)) (ao 0xdcb11a0d7c71b71a78 [_,_,_,_] [] (ju hs))
theorem Gq(l:L2 c)(R:aL A 20){L a:Addr}{cd:Value}{cs:List Int}{n:Nat}(hn:n<=5):
 Ev c A (dZ L a cd) [("orders",.list ((aT n cs).map lD)),("size",ax n)] G (cR (gI 10)) (.list ((eI n cs).map .int)):=by
 have QA:(aT n cs).length<=100000:=le_trans (eR n cs) (le_trans (pow_le_pow_right (by decide) hn) (by decide))
 refine aB (bJ (ds:=(aT n cs).map lD) (p:=λ_=>true) (g:=λd=> .int (nV (rowOf d) n)) (ρd:=λd=>[("row",d),("size",ax n)])
  (ba R.handled (aa rfl)) rfl rfl (by decide) (by decide) (λ_=>rfl) (λC H d hY _=>au (.inr (by rw[hY];decide)) rfl) (λd J x e h=>cm rfl h) (λC G d J=>aR) (λC G d J _=>?_) (by rw[length_map];exact ao 0x186a052a03d090062a0 [_] [] QA)) ?_
 .refine aq (et J) λr hr I=>?_;obtain rfl:=I;have nK:=eg n cs r hr;rw[qK];refine aF l.B (x:="len") rfl (l.no _ (by decide)) boot_len (by decide) (.b _) (ae (nZ (ds:=aJ 0 (n:Int)) (p:=λ_=>true) (ρd:=λd=>[("j",d),("row",lD r)]) (ds2:=λd=>aJ 0 (intOf d)) (q:=λd e=>decide (r.getD (intOf d).toNat 0<r.getD (intOf e).toNat 0)) (ρe:=λd e=>[("i",e),("j",d),("row",lD r)]) (g:=λd e=> .int 1) ?hi ?hclos ?hkind ?hnames ?hY ?hs ?hs2 ?ha ?hback ?ht ?hi2 ?ha2 ?hback2 ?ht2 ?he ?hlen) ai) rfl (gP ?clen)
  case hi=>exact dQ l.B R.handled rfl (l.no _ (by decide)) (aa rfl) rfl (by exact aI 718301959560 [_] []) (by exact ao 0x512a03e2215112a718 [_] [] hn)
  case hclos=>rfl
  case hkind=>rfl
  case hnames=>decide
  case hY=>decide
  case hs=>exact λ_=>rfl
  case hs2=>exact λ_ _=>rfl
  case ha=>exact λC H d _ _=>au (.inl rfl) rfl
  case hback=>exact λd J x e h=>cm rfl h
  case ht=>exact λC G d J=>aR
  case hi2=>intro C G d J _;rw[eF rfl]at J;refine aq (et J) λj Y I=>?_;obtain rfl:=I;have Y:=mem_range.mp Y;exact dQ l.B R.handled rfl (l.no _ (by decide)) (aa (d:= .int j) rfl) rfl (by show -(2^62:Int)<=(j:Int);exact aI 718301959560 [_] []) (by show(j:Int)<2^62;exact aM 0x512b0b112a103e2215112a718 [_,_] [] Y hn)
  case ha2=>exact λC H d e hY J hp he=>au (.inl rfl) rfl
  case hback2=>exact λd J hp e he x z h=>cm rfl h
  case ht2=>intro C G d e J hp he;rw[eF rfl]at J;refine aq (et J) λj Y I=>?_;obtain rfl:=I;have Y:=mem_range.mp Y;have he:e∈aJ 0 (j:Int):=he;rw[eF rfl]at he;refine aq (et he) λi hi I=>?_;obtain rfl:=I;have hi:=mem_range.mp hi;exact ee (aC l.B R (a:= .int (r.getD i 0)) (b:= .int (r.getD j 0)) (aS (o:=lD r) (i:= .int i) (aa rfl) (aa rfl) (iO (by exact aI 684072 [_] []) (by exact cU 0xbd0d112c10c112a10b7112a718 [_,_,_,_] [] hi Y (ju nK)) (by exact cU 0x512c0c112b10b112a103e2215112a718 [_,_,_] [] hi Y hn))) (aS (o:=lD r) (i:= .int j) (aa rfl) (aa rfl) (iO (by exact aI 684072 [_] []) (by exact aM 0xbc0c112a10b7112a718 [_,_,_] [] Y (ju nK)) (by exact aM 0x512b0b112a103e2215112a718 [_,_] [] Y hn))) rfl)
  case he=>exact λC G d e J hp he hq=>aj
  case hlen=>rw[tj];have:=tn (r:=r) (n:=n);exact le_trans this (le_trans (mul_le_mul hn hn) (by decide))
  case clen=>show(if sizeOk _ then some (((List.flatten _).length:Nat):Int)else none)=_;have h1:=tn (r:=r) (n:=n);have h2:n*n<=5*5:=mul_le_mul hn hn;rw[tj,if_pos (aD (by exact aM 0x512513b0ba03d090062a0 [_,_] [] h1 h2))]
 .rw[oS (λ_ _=>rfl),map_map,eI,map_map];congr 1;refine map_congr_left λr _=>?_;show D.int (nV (rowOf (lD r)) n)=_;rw[qK];rfl
theorem uF:EB "list" "count" "list.count":=⟨F.plainAttrs_list,F.slot_list_count,F.type_list_count⟩
theorem ml(l:List Int):ij .NotEq (lD l) (lD l)=some false:=by unfold lD;simp only[wD,fC,jL,BEq.rfl,if_true,map_some,Bool.not_true]
theorem wo{xs ys:List Int}(h:xs.length=ys.length):ij .Eq (lD xs) (lD ys)=some (xs==ys):=by
 unfold lD;have e:=kP (xs:=xs) (ys:=ys);have hb:(xs.length==ys.length)=true:=by simpa using h
 rw[hb,Bool.and_true]at e;simp only[DE,fC,length_map,hb,if_true,e]
theorem kY:∀bs:List Int,(∀b∈bs,b.natAbs.log2<1920)->PyData.showableAll (bs.map .int)=true
 |[],_=>by simp[PyData.showableAll]
 |b::bs,h=>by simp[PyData.showableAll,PyData.showable,kY bs λx z=>h x (.tail _ z),h b (.head _)]
theorem wV(x:String):(Str.ofString x).length=x.length:=PySem.ofString_length x
theorem wG{c:Cx}{A:Around}{k:Nat}(R:aL A k){a b d e:Int}(h:∀x∈[a,b,d,e],x.natAbs.log2<1910):
 Callee c A (.type "str") [.list [.tup [.int a,.int b],.tup [.int d,.int e]]] (.str (mQ [[a,b],[d,e]])):=by
 have hl:∀x∈[a,b,d,e],(Str.ofString (toString x)).length<=1911:=λx z=>by rw[wV];exact int_text_length_le (by decide) (h x z)
 refine GI R (bs:=[[a,b],[d,e]]) ?_ ?_ ?_ ?_
 .have I:=kY [a,b] λx z=>lt_trans (h x (by simp at z⊢;rcases z with rfl|rfl<;>simp)) (by decide);have D:=kY [d,e] λx z=>lt_trans (h x (by simp at z⊢;rcases z with rfl|rfl<;>simp)) (by decide);simp only[map_cons,map_nil,PyData.showable,PyData.showableAll,Bool.and_true]at I D⊢;rw[I,D];rfl
 .simp[PyData.hasDict,PyData.hasDictAll]
 .simp[PyData.depth,PyData.depthAll]
 .have tl:∀x y:Int,x∈[a,b,d,e]->y∈[a,b,d,e]->(tupleText [Str.ofString (toString x),Str.ofString (toString y)]).length<=4000:=λx y z hy=>by
   have I:=hl x z;have D:=hl y hy;have Y:=join_length_add [Str.ofString (toString x),Str.ofString (toString y)] (by simp);have e3:piled [Str.ofString (toString x),Str.ofString (toString y)]=(Str.ofString (toString x)).length+2+((Str.ofString (toString y)).length+2):=by simp[piled]
   unfold tupleText;rw[strLen_append,strLen_append];have e1:(("(":Str)).length=1:=by decide
   have e2:((if([Str.ofString (toString x),Str.ofString (toString y)]:List Str).length==1 then ",)" else ")":String):Str).length=1:=by rw[show(([Str.ofString (toString x),Str.ofString (toString y)]:List Str).length==1)=false from rfl];decide
   rw[e3]at Y;exact NT 0x77732e077732d0112c0212e1212d11212b10112a0fa032cba110 [_,_,_,_,_] [] (dX e1) (dX Y) (dX e2) I D
  have J:=lJ (M:=4000) (ts:=[tupleText [Str.ofString (toString a),Str.ofString (toString b)],tupleText [Str.ofString (toString d),Str.ofString (toString e)]]) λt ht=>by
   simp only[mem_cons,not_mem_nil,or_false]at ht;rcases ht with rfl|rfl
   .exact tl _ _ (by simp) (by simp)
   .exact tl _ _ (by simp) (by simp)
  have e0:mQ [[a,b],[d,e]]=listText [tupleText [Str.ofString (toString a),Str.ofString (toString b)],tupleText [Str.ofString (toString d),Str.ofString (toString e)]]:=by simp only[mQ,map_cons,map_nil,PyData.shown,PyData.shownAll]
  rw[e0];refine le_trans J ?_;simp
theorem xZ(l:L2 c)(R:aL A 20){L a:Addr}{cd:Value}{cs:List Int}{n:Nat}{w0:D}{num J:Int}(hn:n<=5):
 Ev c A (dZ L a cd) [("wholes",.list [w0,.tup [.int num,.int J]]),("orders",.list ((aT n cs).map lD))] G (cR (gI 11)) (.tup [.int num,.int (eY n cs)]):=by
 have z:(aT n cs).length<=100000:=le_trans (eR n cs) (le_trans (pow_le_pow_right (by decide) hn) (by decide));refine bb (ae (aS (o:= .tup [.int num,.int J]) (i:= .int 0) (aS (o:= .list [w0,.tup [.int num,.int J]]) (i:= .int 1) (aa rfl) aj rfl) aj rfl) (ae ?_ ai));have Hv:(((aT n cs).map lD).filter λd=>rowOf d==(rowOf d).reverse).map (λ_=>D.int 1)=(replicate (eY n cs) (1:Int)).map .int:=by
  rw[filter_map,map_map,List.map_replicate,eY];have e:((λd=>rowOf d==(rowOf d).reverse)∘lD)=λr=>r==r.reverse:=by funext r;simp[qK]
  rw[e];exact List.map_const' ..
 refine aF l.B (x:="len") rfl (l.no _ (by decide)) boot_len (by decide) (.b _) (ae (aB (bJ (ds:=(aT n cs).map lD) (p:=λd=>rowOf d==(rowOf d).reverse) (g:=λ_=> .int 1) (ρd:=λd=>[("row",d)])
  (ba R.handled (aa rfl)) rfl rfl (by decide) (by decide) (λ_=>rfl) (λC H d hY _=>au (.inl rfl) rfl) (λd hd x e h=>cm rfl h) (λC G d hd=>?_) (λC G d hd _=>aj) (by rw[length_map];exact ao 0x186a052a03d090062a0 [_] [] z)) (congrArg D.list Hv)) ai) rfl (gP ?_)
 .refine aq (et hd) λr hr I=>?_;obtain rfl:=I;have Y:=eg n cs r hr;rw[qK];refine ee (aC l.B R (a:=lD r) (b:=lD r.reverse) (aa rfl) (cK (o:=lD r) (lo:=none) (hi:=none) (st:=some (-1)) (aa rfl) trivial trivial (gN (a:= .int 1) aj rfl) ?_) (wo (by simp)));show(if sizeOk (r.map D.int).length then some (D.list (dn (r.map D.int) none none (some (-1))))else none)=_;rw[xk,if_pos (aD (by rw[length_map];exact aM 0x512b0ba03d090062a0 [_,_] [] (dX Y) hn)),lD,map_reverse]
 .show(if sizeOk ((replicate (eY n cs) (1:Int)).map D.int).length then some ((((replicate (eY n cs) (1:Int)).map D.int).length:Nat):Int)else none)=_;have:eY n cs<=100000:=le_trans (length_filter_le _ _) z;rw[length_map,length_replicate,if_pos (aD (by exact ao 0x186a052a03d090062a0 [_] [] this))]
structure EC(n:Nat)(cs:List Int)(w num M:Nat):Prop where
 hM:(M:Int)∈eI n cs
 Gi:∀x∈eI n cs,x<=M
 yv:M<=1000
 dig:bX w ((intBits num+w-1)/w) num=(range (M+1)).map λ(k:Nat)=>((eI n cs).count (k:Int):Int)
 bits:intBits num<=1000
theorem ug(l:L2 c)(R:aL A 20){L a:Addr}{cd:Value}{cs:List Int}{n w num M:Nat}{w0 Y:Int}(D:0<w/\w<=100)(ok:EC n cs w num M):
 jt c A (dZ L a cd) [("number",.int num),("falls",.list ((eI n cs).map .int)),("wholes",.list [.tup [.int w0,.int 0],.tup [.int Y,.int 0]]),("width",ax w)] G (vW (gI 12)) false:=by
 refine jU l.IK λv f1 f2 f3=>?_;have hb:=ok.bits;have z:(intBits num+w-1)/w<=2000:=le_trans (div_le_self _ _) (by exact cU 0x6422c03e832b0cb1a07d032a0 [_,_,_] [] qx hb D.2);have J:w*((intBits num+w-1)/w)<=3900:=le_trans (Nat.mul_div_le _ _) (by exact cU 0x6422c03e832b0cb1a0f3c32a0 [_,_,_] [] qx hb D.2)
 refine mi (aC l.B R (a:=lD [0,0]) (b:=lD [0,0]) ?_ (bq (ae aj (ae aj ai))) (ml _)) (aC l.B R (a:=lD (bX w ((intBits num+w-1)/w) num)) (b:=lD (bX w ((intBits num+w-1)/w) num))
  (bz l.B rfl f1 f2 (ae (d:= .int num) (aa rfl) (ae (d:= .int w) (aa rfl) ai)) rfl (f3 R D.1 (by exact ao 0x6422a0fa032a0 [_] [] D.2) J (by exact ao 0x7d032a0fa032a0 [_] [] z))) ?_ (ml _))
 .exact bJ (ds:=[.tup [.int w0,.int 0],.tup [.int Y,.int 0]]) (p:=λ_=>true) (g:=λd=>match d with| .tup [_,r]=>r|_=> .none) (ρd:=λd=>match d with| .tup [x,r]=>[("rest",r),("whole",x)]|_=>[])
   (ba R.handled (aa rfl)) rfl rfl (by decide) (by decide) (λ_=>rfl) (λC H d hY z=>by
    simp only[mem_cons,not_mem_nil,or_false]at z;rcases z with rfl|rfl<;>exact bU R (aA (au (.inl rfl) rfl) (aA (au (.inl rfl) rfl) bA)) rfl rfl) (λd z x e h=>nomatch h) (λC G d z=>aR) (λC G d z _=>by
    simp only[mem_cons,not_mem_nil,or_false]at z;rcases z with rfl|rfl<;>exact aa rfl) (by simp)
 .rw[ok.dig];have e0:(M:Int)+1=((M+1:Nat):Int):=by exact dq (aI 301959572793112 [_] []) (aI 301983731982712 [_] [])
  refine aB (bJ (ds:=(range (M+1)).map ax) (p:=λ_=>true) (g:=λd=> .int ((eI n cs).count (intOf d):Nat)) (ρd:=λd=>[("k",d),("falls",.list ((eI n cs).map .int))])
   (eF e0▸dQ l.B R.handled rfl (l.no _ (by decide)) (ag (a:= .int M) (b:= .int 1) (aF l.B (x:="max") rfl (l.no _ (by decide)) boot_max (by decide) (.b _) (ae (d:= .list ((eI n cs).map .int)) (aa rfl) ai) rfl (rA R ok.hM ok.Gi)) aj rfl) rfl (by exact aI 4831740466173320 [_] []) (by have:=ok.yv;exact ao 0x3e832a03e2215112112a7118 [_] [] this))
   rfl rfl (by decide) (by decide) (λ_=>rfl) (λC H d hY _=>au (.inl rfl) rfl) (λd z x e h=>cm rfl h) (λC G d z=>aR) (λC G d z _=>?_) (by have:=ok.yv;rw[length_map,length_range];exact ao 0x3e832a03d090062112a10 [_] [] this)) ?_
  .refine aq (et z) λk hk I=>?_;obtain rfl:=I;exact dA (d0:= .list ((eI n cs).map .int)) uF rfl (aa rfl) (ae (d:= .int k) (aa rfl) ai) rfl Bi rfl rfl rfl
  .rw[oS (λ_ _=>rfl),lD,map_map,map_map];rfl
structure ED(n:Nat)(cs:List Int)(base num:Int):Prop where
 e1:(-num).fmod (base+1)=(-(eY n cs:Int)).fmod (base+1)
 e2:num.fmod (1-base)=((aT n cs).length:Int)+1-base
 z:∀x∈[(-num).fdiv (base+1),(-num).fmod (base+1),num.fdiv (1-base),num.fmod (1-base)],x.natAbs.log2<1910
 b0:2<=base
 b1:base<=1000
 bits:num.natAbs<2^1000
theorem kG{x:Int}{k m:Nat}(h:x.natAbs<2^k)(z:k<=m):intBits x<=m:=le_trans (intBits_le_iff.mpr h) z
theorem gV{x:Int}(h:x.natAbs<2^20){m:Nat}(z:20<=m):intBits x<=m:=kG h z
theorem qC(l:L2 c)(R:aL A 28){L a:Addr}{cd:Value}{cs:List Int}{n:Nat}{base num:Int}(hn:n<=5)(ok:ED n cs base num):
 jt c A (dZ L a cd) [("number",.int num),("same",.int (eY n cs)),("base",.int base),("orders",.list ((aT n cs).map lD))] G (vW (gI 13)) false:=by
 refine jU l.Kk λv f1 f2 f3=>?_;have J:(aT n cs).length<=100000:=le_trans (eR n cs) (le_trans (pow_le_pow_right (by decide) hn) (by decide));have b0:=ok.b0;have b1:=ok.b1;have I:intBits num<=1899:=kG ok.bits (by decide);have D:intBits (-num)<=1899:=kG (by rw[natAbs_neg];exact ok.bits) (by decide);have ne:∀x:Str,ij .NotEq (.str x) (.str x)=some false:=λx=>by show some (!(x==x))=some false;simp
 have hz:=ok.z;have Y:∀{y:Int},y≠0->y.natAbs<=2000->fe y=true:=λ{y}h0 h1=>dW h0 (lt_of_le_of_lt h1 (by decide+kernel));refine aC l.B R (a:= .str (mQ [[(-num).fdiv (base+1),(-num).fmod (base+1)],[num.fdiv (1-base),num.fmod (1-base)]])) (b:= .str (mQ [[(-num).fdiv (base+1),(-num).fmod (base+1)],[num.fdiv (1-base),num.fmod (1-base)]])) ?_ ?_ (ne _)
 .refine aF l.B (x:="str") rfl (l.no _ (by decide)) boot_str (by decide) (.t _) (ae (bq (ae (bz l.B rfl f1 f2 (ae (gN (a:= .int num) (aa rfl) rfl) (ae (ag (a:= .int base) (b:= .int 1) (aa rfl) aj rfl) ai)) rfl (f3 R (by exact oD (ao 0xa2128112a11120218 [] [_] b0)) D (gV (by exact aM 0x3e832a8112a1a78142215112a10 [_] [_] (t4 (ao 0xa2128112a1028 [] [_] b0)) b1) (by decide))))
   (ae (bz l.B rfl f1 f2 (ae (aa rfl) (ae (ag (a:= .int 1) (b:= .int base) aj (aa rfl) rfl) ai)) rfl (f3 R (by exact Ha (ao 0xa212802112a112618 [] [_] b0)) I (gV (by exact aM 0x3e832a8a11268a78142215112a10 [_] [_] (G7 (ao 0xa212802a11268 [] [_] b0)) b1) (by decide)))) ai))) ai) rfl (wG R hz)
 .refine aF l.B (x:="str") rfl (l.no _ (by decide)) boot_str (by decide) (.t _) (ae (bq (ae (bb (ae ?_ (ae ?_ ai))) (ae (bb (ae ?_ (ae ?_ ai))) ai))) ai) rfl (wG R hz)
  .exact ag (a:= .int (-num)) (b:= .int (base+1)) (gN (a:= .int num) (aa rfl) rfl) (ag (a:= .int base) (b:= .int 1) (aa rfl) aj rfl) (fT (Y (by exact oD (ao 0xa2128112a11120218 [] [_] b0)) (by exact aM 0x3e832a8112a1a787d032a0 [_] [_] (t4 (ao 0xa2128112a1028 [] [_] b0)) b1)))
  .rw[ok.e1];exact ag (a:= .int (-(eY n cs:Int))) (b:= .int (base+1)) (gN (a:= .int (eY n cs)) (aa rfl) rfl) (ag (a:= .int base) (b:= .int 1) (aa rfl) aj rfl) (eo (by exact oD (ao 0xa2128112a11120218 [] [_] b0)))
  .exact ag (a:= .int num) (b:= .int (1-base)) (aa rfl) (ag (a:= .int 1) (b:= .int base) aj (aa rfl) rfl) (fT (Y (by exact Ha (ao 0xa212802112a112618 [] [_] b0)) (by exact aM 0x3e832a8a11268a787d032a0 [_] [_] (G7 (ao 0xa212802a11268 [] [_] b0)) b1)))
  .rw[ok.e2];refine ag (a:= .int ((aT n cs).length+1)) (b:= .int base) (ag (a:= .int (aT n cs).length) (b:= .int 1) (aF l.B (x:="len") rfl (l.no _ (by decide)) boot_len (by decide) (.b _) (ae (d:= .list ((aT n cs).map lD)) (aa rfl) ai) rfl (gP ?_)) aj rfl) (aa rfl) rfl;show(if sizeOk ((aT n cs).map lD).length then some (((aT n cs).map lD).length:Int)else none)=_;rw[length_map,if_pos (aD (by exact ao 0x186a052a03d090062a0 [_] [] J))]
noncomputable def nT(bx q:Int)(m:Nat):Int:=bx*(q^m-1)
noncomputable def nS(q:Int)(n m:Nat):Int:=q^(1+n-m)-1
noncomputable def fP(bx q:Int)(n m:Nat):D:= .tup [.int ((nT bx q m).fdiv (nS q n m)),.int ((nT bx q m).fmod (nS q n m))]
theorem qN{q:Int}(z:q.natAbs<=9){e:Nat}(he:e<=6):(q^e).natAbs<=531441:=by rw[natAbs_pow];exact le_trans (Nat.pow_le_pow_left z e) (le_trans (pow_le_pow_right (by decide) he) (by decide))
theorem Cs{q:Int}(z:2<=q.natAbs){e:Nat}(he:1<=e):2<=(q^e).natAbs:=by rw[natAbs_pow];exact le_trans z (Nat.le_self_pow (by exact D0 (ao 0xa1120a1120210 [_] [] he)) _)
theorem B6{y:Int}(h:2<=y.natAbs):y-1≠0:=by exact(Int.le_total 0 (y)).elim (λz=>oD (aM 0xa2120aa78112a61120218 [_] [_] (t4 z) h)) λz=>Ha (ao 0x2a802112112a618 [] [_] z)
theorem qE{y:Int}(h:y.natAbs<=531441):(y-1).natAbs<=531442:=by exact(Int.le_total 0 ((y)-1)).elim (λz=>cU 0x81bf152b0b7a8112a6a7881bf252a0 [_,_] [_] (t4 z) J7 h) λz=>cU 0x81bf152b0b7a88112a68a7881bf252a0 [_,_] [_] (G7 z) HM h
theorem Fv{x y:Int}{k m:Nat}(D:x.natAbs<2^k)(z:y.natAbs<2^m):(x*y).natAbs<2^(k+m):=by rw[Int.natAbs_mul,pow_add];exact Nat.mul_lt_mul'' D z
theorem AH(l:L2 c)(R:aL A 28){q bx:Int}{n m:Nat}{w1:D}{Y:Int}{z:List (Str×D)}(hn:n<=5)(I:m<=n)(J:2<=q.natAbs/\q.natAbs<=9)(hg:bx.natAbs<2^1000){L a:Addr}{cd:Value}{C:Addr}{e:Stmt}(he:e=gI 14)
 (h1:z.lookup ("wholes":Str)=some (.list [.tup [.int bx,.int Y],w1]))(h2:z.lookup ("q":Str)=some (.int q))(h3:z.lookup ("count":Str)=some (ax m))(h4:z.lookup ("size":Str)=some (ax n)):
 Ev c A (bE (lp (gI 14)) (dZ L a cd) C) z G (DB (gI 14)) (fP bx q n m):=by
 refine jU l.Kk λv f1 f2 f3=>?_;have p1:=qN J.2 (show m<=6 by exact aM 0x512b0ba0612a0 [_,_] [] I hn);have p2:=qN J.2 (show 1+n-m<=6 by exact aM 0x512b0b1121a0612a0 [_,_] [] qx hn);have p3:=Cs J.1 (show 1<=1+n-m by exact aM 0xba1c11210cb0a1120 [_,_,_] [] I eC);have q1:=qE p1;have q2:=qE p2;have q3:=B6 p3;refine bz l.B rfl f1 f2 (ae (d:= .int (nT bx q m)) ?_ (ae (d:= .int (nS q n m)) ?_ ai)) rfl (f3 R q3 (kG (Fv hg (show(q^m-1).natAbs<2^20 by exact ao 0x81bf252a0142215112a10 [_] [] q1)) (by decide)) (gV (show(q^(1+n-m)-1).natAbs<2^20 by exact ao 0x81bf252a0142215112a10 [_] [] q2) (by decide)))
 .refine ag (a:= .int bx) (b:= .int (q^m-1)) (aS (o:= .tup [.int bx,.int Y]) (i:= .int 0) (aS (o:= .list [.tup [.int bx,.int Y],w1]) (i:= .int 0) (aa h1) aj rfl) aj rfl)
   (ag (a:= .int (q^m)) (b:= .int 1) (aB (ag (a:= .int q) (b:= .int m) (aa h2) (aa h3) (en (bV (by exact aI 684072 [_] []) (dP J.2) (by exact aM 0x512b0ba03e832a78 [_,_] [] I hn)))) (by rw[toNat_natCast])) aj rfl) (dp (bh ?_ ?_))
  .exact lt_of_lt_of_le hg (pow_le_pow_right (by decide) (by decide))
  .exact lt_of_lt_of_le (show(q^m-1).natAbs<2^20 by exact ao 0x81bf252a0142215112a10 [_] [] q1) (pow_le_pow_right (by decide) (by decide))
 .refine ag (a:= .int (q^(1+n-m))) (b:= .int 1) (aB (ag (a:= .int q) (b:= .int (1+(n:Int)-m)) (aa h2) (ag (a:= .int (1+(n:Int))) (b:= .int m) (ag (a:= .int 1) (b:= .int n) aj (aa h4) rfl) (aa h3) rfl) (en (bV (by exact ao 0xab0b7a711216028 [_,_] [] I) (dP J.2) (by exact ao 0x512a03e832b7a7112168 [_,_] [] hn)))) ?_) aj rfl;rw[show(1+(n:Int)-m).toNat=1+n-m by exact dG (aM 0xdb1c11210d7c711216a78ba0 [_,_,_,_] [] (rP (ao 0xab0b7a711216028 [_,_] [] I)) eC) (aM 0xb7c7d7112168d1121ca10ba0 [_,_,_,_] [] (dE (ao 799049589152 [_,_] [] I)) uc)]
theorem uU(l:L2 c)(R:aL A 20){L a:Addr}{cd:Value}{n0 n1 n2:Nat}{q bx f0 f1 f2 r0 r1 Y:Int}{J:D}{z:Int}(h0:n0<=9)(h1:n1<=9)(h2:n2<=9)(hq:q.natAbs<=9)(hf:∀x∈[f0,f1,f2],x.natAbs<big):
 Ev c A (dZ L a cd) [("firsts",.list [.tup [.int f0,.int r0],.tup [.int f1,.int r1],.tup [.int f2,.int Y]]),("wholes",.list [.tup [.int bx,.int z],J]),("q",.int q),("counts",yx n0 n1 n2)] G (cR (gI 15))
  (lD (bx::cQ q (rO n0 n1 n2) [f0,f1,f2] 3)):=by
 refine jU l.wz λv e1 e2 e3=>?_
 refine bz l.B rfl e1 e2 (ae (d:= .int q) (aa rfl) (ae (d:=lD (rO n0 n1 n2)) (aa rfl) (ae (d:= .int bx) (aS (o:= .tup [.int bx,.int z]) (i:= .int 0) (aS (o:= .list [.tup [.int bx,.int z],J]) (i:= .int 0) (aa rfl) aj rfl) aj rfl) (ae (d:=lD [f0,f1,f2]) ?_ ai)))) rfl
  (e3 (R.le (by decide)) hq (by exact⟨aI 684072 [_] [],ao 9975607929464 [_] [] h0⟩) (by exact⟨aI 684072 [_] [],ao 9975607929464 [_] [] h1⟩) (by exact⟨aI 684072 [_] [],ao 9975607929464 [_] [] h2⟩) hf)
 exact bJ (ds:=[.tup [.int f0,.int r0],.tup [.int f1,.int r1],.tup [.int f2,.int Y]]) (p:=λ_=>true) (g:=λd=>match d with| .tup [x,_]=>x|_=> .none) (ρd:=λd=>match d with| .tup [x,r]=>[("rest",r),("first",x)]|_=>[])
  (ba R.handled (aa rfl)) rfl rfl (by decide) (by decide) (λ_=>rfl) (λC H d hY I=>by
   simp only[mem_cons,not_mem_nil,or_false]at I;rcases I with rfl|rfl|rfl<;>exact bU R (aA (au (.inl rfl) rfl) (aA (au (.inl rfl) rfl) bA)) rfl rfl) (λd I x e h=>nomatch h) (λC G d I=>aR) (λC G d I _=>by
   simp only[mem_cons,not_mem_nil,or_false]at I;rcases I with rfl|rfl|rfl<;>exact aa rfl) (by simp)
structure Bu(q:Int)(w:List Nat)(white:Int)(wz:List Int):Prop where
 wl:w.length<=5
 w3:∀x∈w,x<3
 q9:q.natAbs<=9
 len:(cu q w w.length).1.length=(cu q w w.length).2.length
 CL:(cu q w w.length).1.length<=4000000
 Ro:∀z∈(cu q w w.length).1,ly z (ra z white) (rb z white) (rc z white)=true/\(ez z).natAbs<big
 eq:(dT (cu q w w.length) (cu q w w.length).1).1::(dT (cu q w w.length) (cu q w w.length).1).2=wz
theorem rT(l:L2 c)(R:aL A 20){L a:Addr}{cd:Value}{q f0 f1 f2:Int}{w:List Nat}{s0 c0 c1 c2 c3:Nat}{wz:List Int}(ok:Bu q w (16+(c2/64%33:Nat)) wz):
 jt c A (dZ L a cd) [("firsts",.list [.tup [.int f0,.int 0],.tup [.int f1,.int 0],.tup [.int f2,.int 0]]),("due",lD wz),("read",.str (tx (s0::w.map lt))),("q",.int q),("cells",cD c0 c1 c2 c3)] G (vW (gI 16)) false:=by
 refine jU l.way λv e1 e2 e3=>?_;refine jU l.ET λu Y J I=>?_;refine mi (aC l.B R (a:=lD [0,0,0]) (b:=lD [0,0,0]) ?_ (bq (ae aj (ae aj (ae aj ai)))) (ml _)) (aC l.B R (a:=lD wz) (b:=lD wz) ?_ (aa rfl) (ml _))
 .exact bJ (ds:=[.tup [.int f0,.int 0],.tup [.int f1,.int 0],.tup [.int f2,.int 0]]) (p:=λ_=>true) (g:=λd=>match d with| .tup [_,r]=>r|_=> .none) (ρd:=λd=>match d with| .tup [x,r]=>[("rest",r),("first",x)]|_=>[])
   (ba R.handled (aa rfl)) rfl rfl (by decide) (by decide) (λ_=>rfl) (λC H d hY z=>by
    simp only[mem_cons,not_mem_nil,or_false]at z;rcases z with rfl|rfl|rfl<;>exact bU R (aA (au (.inl rfl) rfl) (aA (au (.inl rfl) rfl) bA)) rfl rfl) (λd z x e h=>nomatch h) (λC G d z=>aR) (λC G d z _=>by
    simp only[mem_cons,not_mem_nil,or_false]at z;rcases z with rfl|rfl|rfl<;>exact aa rfl) (by simp)
 .rw[<-ok.eq];refine bz l.B rfl Y J (ae (bz l.B rfl e1 e2 (ae (d:= .str (wS w)) (cK (o:= .str (tx (s0::w.map lt))) (lo:=some 1) (hi:=none) (st:=none) (aa rfl) aj trivial trivial ?_) (ae (d:= .int q) (aa rfl) ai)) rfl (e3 (R.le (by decide)) ok.wl ok.q9 ok.w3)) (ae (d:= .int (16+(c2/64%33:Nat))) ?_ ai)) rfl (I R ok.len ok.CL ok.Ro)
  .have hp:dm (tx (s0::w.map lt)) (some 1) none none=tx (w.map lt):=nc (w:=s0::w.map lt) (m:=1);show(if sizeOk (dm (tx (s0::w.map lt)) (some 1) none none).length then some (D.str (dm (tx (s0::w.map lt)) (some 1) none none))else none)=_;have:=ok.wl;rw[hp,df,if_pos (aD (by rw[length_map];exact ao 0x512a03d090062a0 [_] [] this))];rfl
  .exact ag (a:= .int 16) (b:= .int (c2/64%33:Nat)) aj (ag (a:= .int (c2/64:Nat)) (b:= .int (33:Nat)) (ag (a:= .int c2) (b:= .int (64:Nat)) (aS (o:=cD c0 c1 c2 c3) (i:= .int 2) (aa rfl) aj rfl) aj (fU (by decide) (by decide))) aj (cB (by decide))) rfl
noncomputable def lg(vs:List (Int×Int))(s:Nat):List Int:=(((range (s-1)).map (1+ ·)).filter λd=>s%d==0).map λd=>(vs.getD d (0,0)).1
noncomputable def jX(q:Int)(vs:List (Int×Int))(s:Nat):Int×Int:=((q^s-1).fdiv (cj (lg vs s)),(q^s-1).fmod (cj (lg vs s)))
noncomputable def bQ(q:Int):Nat->List (Int×Int)
 |0=>[(1,0)]
 |j+1=>bQ q j++[jX q (bQ q j) (j+1)]
theorem BU{q:Int}{j:Nat}:bQ q (j+1)=bQ q j++[jX q (bQ q j) (j+1)]:=rfl
theorem jk{q:Int}:∀j,(bQ q j).length=j+1
 |0=>rfl
 |j+1=>by simp[BU,jk j]
noncomputable def pD(p:Int×Int):D:= .tup [.int p.1,.int p.2]
theorem gJ(n:Nat):fk (ax n)=n:=toNat_natCast n
structure wM(q:Int)(n:Nat):Prop where
 abs:∀j,j<n->∀x∈lg (bQ q j) (j+1),x.natAbs<=2^60
 ne:∀j,j<n->cj (lg (bQ q j) (j+1))≠0
theorem filter_lt{s:Nat}{l:List Nat}:(l.filter λd=>s%d==0).length<=l.length:=length_filter_le _ _
theorem AM{vs:List (Int×Int)}{s:Nat}:(lg vs s).length<=s:=by unfold lg;rw[length_map];refine le_trans filter_lt ?_;rw[length_map,length_range];exact ao 12192672 [_,_] [] qx
theorem range_one{b:Int}{s:Nat}(h:b=s):aJ 1 b=((range (s-1)).map (1+ ·)).map ax:=by subst h;unfold aJ;rw[map_map,show((s:Int)-1).toNat=s-1 from by exact(Int.le_total 0 ((((s):Nat):Int)-1)).elim (λz=>dG (aM 0x112b1c0112c76a78ba0 [_,_,_] [] (rP z) eC) (aM 0xb7112c768c112a10ba0 [_,_,_] [] (dE (ao 4831760941191456 [_] [] z)) uc)) λz=>(le_total 1 (s)).elim (λI=>dG (ao 44534688 [_,_] [] (KO z)) (aM 0x2112c768c112a10ba0 [_,_,_] [] (dE I) z)) λI=>dG (ao 44534688 [_,_] [] (KO z)) (ao 2755488 [_,_] [] (EF I))];refine map_congr_left λi _=>?_;show D.int (1+(i:Int))=D.int ((1+i:Nat):Int);congr 1
noncomputable def xb:Stmt->Expr
 | .Expr (.Call _ (e::_) _ _) _=>e
 |_=> .Constant .none 0 ⟨0,0,0,0⟩
theorem AA(l:L2 c)(R:aL A 28){L a:Addr}{cd:Value}{q:Int}{n j:Nat}(hn:n<=5)(hq:2<=q.natAbs/\q.natAbs<=9)(z:j<n)(ok:wM q n):
 Ev c A (dZ L a cd) [("values",.list ((bQ q j).map pD)),("step",ax (j+1)),("q",.int q)] G (xb (oC (ko (gI 18)) 0)) (pD (jX q (bQ q j) (j+1))):=by
 refine jU l.Kk λv f1 f2 f3=>?_;refine jU l.Od λu p1 p2 p3=>?_;have J:=ok.abs j z;have o2:=ok.ne j z;have hl:=AM (vs:=bQ q j) (s:=j+1);have pb:=mX J (by exact cU 0x512c0c112b10112b1a01e22a0 [_,_,_] [] hl z hn);have q1:=qE (qN hq.2 (show j+1<=6 by exact aM 0x512b0b112a10612112a10 [_,_] [] z hn));refine bz l.B rfl f1 f2 (ae (d:= .int (q^(j+1)-1)) ?_ (ae (d:= .int (cj (lg (bQ q j) (j+1)))) ?_ ai)) rfl (f3 R o2 (gV (show(q^(j+1)-1).natAbs<2^20 by exact ao 0x81bf252a0142215112a10 [_] [] q1) (by decide)) (intBits_le_iff.mpr (lt_of_lt_of_le pb (pow_le_pow_right (by decide) (by decide)))))
 .exact ag (a:= .int (q^(j+1))) (b:= .int 1) (aB (ag (a:= .int q) (b:= .int (j+1:Nat)) (aa rfl) (aa rfl) (en (bV (by exact aI 4607537192 [_] []) (dP hq.2) (by exact aM 0x512b0b112a103e832112a178 [_,_] [] z hn)))) (by rw[toNat_natCast])) aj rfl
 .refine bz l.B rfl p1 p2 (ae (d:= .list ((lg (bQ q j) (j+1)).map .int)) ?_ ai) rfl (p3 (R.le (by decide)) (λi=>fw (iN J (by exact cU 0x512c0c112b10112b1a01e22a0 [_,_,_] [] hl z hn) i)) (λy hy=>fw (lt_of_le_of_lt (J y hy) (Nat.pow_lt_pow_right (by decide) (by decide)))))
  refine aB (bJ (ds:=((range (j+1-1)).map (1+ ·)).map ax) (p:=λd=>(j+1)%fk d==0) (g:=λd=> .int ((bQ q j).getD (fk d) (0,0)).1) (ρd:=λd=>[("d",d),("values",.list ((bQ q j).map pD)),("step",ax (j+1))])
   (range_one (b:=((j+1:Nat):Int)) (s:=j+1) rfl▸dw l.B R.handled rfl (l.no _ (by decide)) aj (aa rfl) rfl rfl (by decide) (by decide) (by exact aI 4831353919116680 [_] []) (by exact aM 0x512b0b112a103e2215112112a1718 [_,_] [] z hn)) rfl rfl (by decide) (by decide) (λ_=>rfl) (λC H d _ _=>au (.inl rfl) rfl) (λd hd x e h=>cm rfl h) (λC G d hd=>?_) (λC G d hd _=>?_) (by simp;exact aM 0x512b0b112a103d090062a0 [_,_] [] z hn)) ?_
  all_goals try
   refine aq (et hd) λd' uO D=>?_;obtain rfl:=D;refine aq (et uO) λi hi D=>?_;obtain rfl:=D;have hi:=mem_range.mp hi
  .refine ee (aC l.B R (a:= .int ((j+1)%(1+i):Nat)) (b:= .int 0) (ag (a:= .int (j+1:Nat)) (b:= .int (1+i:Nat)) (aa rfl) (aa rfl) (cB (by exact D0 (aI 0xa11211120210 [_] [])))) aj ?_);show some _=some _;congr 1;show(((((j+1)%(1+i):Nat):Int))==0)=((j+1)%(1+i)==0);rw[Bool.eq_iff_iff];simp only[beq_iff_eq];exact⟨λI=>dG (ao 712508064 [_] [] (t7 I)) (aI 40992 [_] []),λI=>dq (ao 704653944 [_] [] (dX I)) (aI 684072 [_] [])⟩
  .have Y:1+i< (bQ q j).length:=by rw[jk];exact aM 0x112b1112c10c112a10112b1112a112110 [_,_,_] [] hi (dE (aI 4607512864 [_] []))
   have e:fk (ax (1+i))=1+i:=gJ _;rw[e];refine aS (o:=pD ((bQ q j).getD (1+i) (0,0))) (i:= .int 0) (aS (o:= .list ((bQ q j).map pD)) (i:=ax (1+i)) (aa rfl) (aa rfl) ?_) aj rfl;rw[ax,kN (by exact G4 0x512d0d112c10112c1b0b112a10186a052a11210 [_,_,_,_] [] hi qx z hn),getElem?_map,getD_eq_getElem?_getD,getElem?_eq_getElem Y];rfl
  .rw[filter_map,map_map,lg,map_map];have e1:((λd=>(j+1)%fk d==0)∘ax)=λd=>(j+1)%d==0:=by funext d;show((j+1)%fk (ax d)==0)=_;rw[gJ]
   rw[e1];congr 1
theorem um{x:Str}{a:Addr}{ds:List D}{p I z pos:Pos}{e:Expr}{d:D}{rest:List Stmt}{Q:Flow->Shared->Prop}(F:Fs c ah af H O ρ [(x,a,.lst ds)] s)
 (he:∀G,Ev c A O (l7 [(x,a,.lst ds)]++ρ) G e d)(hf:flat d=true)(hz:sizeOk ds.length=true)
 (kk:∀U,Fs c ah af H O ρ [(x,a,.lst (ds++[d]))] U->wpAny (model PW c.w) A (execs rest O) Q E U)
 (hi:interactive O=false)(hs:swapsWith (.Call (.Attribute (.Name x p) "append" I) [e] [] z) none pos.line O=pure false)
 (kj:attributeBase (.Name x p) "append" O (eval (.Name x p) O)=eval (.Name x p) O)
 (uM:((backTo z (starEach [e] O)).all (λx=> !x.1)&&(backToKw z (keywordEach [] O)).all (λx=>x.1.isSome)
  &&decide (([e]:List Expr).length+([]:List Keyword).length+(if([]:List Keyword).isEmpty then 0 else 1)<30))=true)
 (Y:(I.endLine==z.line)=true)(J:backTo z (starEach [e] O)=[(false,eval e O)])(hd:(x==("__debug__":Str))=false):
 gh (wpAny (model PW c.w) A (execs (.Expr (.Call (.Attribute (.Name x p) "append" I) [e] [] z) pos::rest) O) Q E s):=
 ⟨jm F he hf hz kk hi hs kj uM Y J hd⟩
def Kept(ρ bP:List (Str×D)):Prop:=∀x d,x≠("values":Str)->x≠("step":Str)->ρ.lookup x=some d->bP.lookup x=some d
theorem Kept.cons{x:Str}{d:D}(h:Kept ρ bP)(J:x=("values":Str)\/x=("step":Str)):Kept ρ ((x,d)::bP):=λy e I z Y=>by
 rw[lookup_cons];have:(y==x)=false:=by
  rcases J with rfl|rfl
  .simpa using I
  .simpa using z
 rw[this];exact h y e I z Y
theorem wX(l:L2 c)(R:aL A 28){L a:Addr}{cd:Value}{q:Int}{n:Nat}{Q:Flow->Shared->Prop}(hn:n<=5)(hq:2<=q.natAbs/\q.natAbs<=9)(ok:wM q n)(F:Fs c ah af H (dZ L a cd) ρ [] s)
 (hv:("values":Str)∈H.Y)(iC:("step":Str)∈H.Y)(h1:ρ.lookup ("q":Str)=some (.int q))(h2:ρ.lookup ("size":Str)=some (ax n))
 (kk:∀bP U,Kept ρ bP->bP.lookup ("values":Str)=some (.list ((bQ q n).map pD))->Fs c ah af H (dZ L a cd) bP [] U->gh (wpAny (model PW c.w) A (execs (zV 19) (dZ L a cd)) Q E U)):
 gh (wpAny (model PW c.w) A (execs (zV 17) (dZ L a cd)) Q E s):=by
 refine⟨?_⟩;have hz:=F.zx;refine iS (od:= .lst ([(1,0)].map pD)) F (λG=>je (ae (bb (ae aj (ae aj ai))) ai)) (.inr hv) rfl rfl λal U vZ F=>?_;have k0:Kept ρ ((("values":Str),.adr al)::ρ):=Kept.cons (λ_ _ _ _ h=>h) (.inl rfl)
 refine dK (λi=>[(("values":Str),al,OD.lst ((bQ q i).map pD))]) F (λG=>dw l.B R.handled rfl (l.no _ (by decide)) aj (ag (a:= .int n) (b:= .int 1) (aa (d:=ax n) (k0 _ _ (by decide) (by decide) h2)) aj rfl) rfl rfl (by decide) (by decide) (by exact aI 4831740466173320 [_] []) (by exact ao 0x512a03e2215112112a7118 [_] [] hn)) (.inr iC)
  (λi bP=>Kept ρ bP/\bP.lookup ("values":Str)=some (.adr al))
  ⟨k0,rfl⟩ (λ_=>rfl) ?_ ?_
 .intro E' i d bP s H' Q' kn kb kr hY hZ Jp hd w9;refine iF w9 λz I=>?_;clear w9;intro F;rw[jJ]at hd;have J:i<n:=by have:=(List.getElem?_eq_some_iff.mp hd).1;simpa using this
  have ed:d=ax (i+1):=by rw[getElem?_map,getElem?_range J]at hd;simp only[map_some,Option.some.injEq]at hd;rw[<-hd];show D.int (1+(i:Int))=D.int ((i+1:Nat):Int);congr 1;exact dq (aI 301959729975832 [_] []) (aI 0xa71121112a178 [_] [])
  subst ed;have xO:Sub [(("values":Str),D.list ((bQ q i).map pD)),(("step":Str),ax (i+1)),(("q":Str),D.int q)] (l7 [(("values":Str),al,OD.lst ((bQ q i).map pD))]++(("step":Str),ax (i+1))::bP):=
   az rfl (az rfl (az (z _ _ (by decide) (by decide) h1) dh))
  refine @gh.out _ (um (d:=pD (jX q (bQ q i) (i+1))) F (λG=>(AA l R hn hq J ok).weak xO) rfl (aD (by rw[length_map,jk];exact aM 0x512b0b112a103d090062112a10 [_,_] [] J hn)) (λU F=>?_) rfl rfl rfl rfl rfl rfl (by decide))
  .refine wpAny_execs_nil (kn _ _ ?_ (F.ow ?_))
   .exact⟨z.cons (.inr rfl),I⟩
   show _=[(("values":Str),al,OD.lst ((bQ q i++[jX q (bQ q i) (i+1)]).map pD))];rw[map_append];rfl
 .intro bP s w9;obtain⟨z,I⟩:=w9;intro F;have F:=F.freeze ["values"] (by simpa using I);rw[Hd.rG (λh=>vZ h) (λh=>vZ (hz _ h))]at F;have e3:(aJ 1 ((n:Int)+1)).length=n:=by rw[jJ];simp
  rw[e3]at F;have F:Fs c ah af H (dZ L a cd) (("values",D.list ((bQ q n).map pD))::bP) [] s:=F;have P4:Kept ρ (("values",D.list ((bQ q n).map pD))::bP):=z.cons (.inl rfl);exact @gh.out _ (kk _ s P4 rfl F)
noncomputable abbrev Pr:=List Nat×List Nat×Int
noncomputable def vI(p:Pr):D:= .tup [.list (p.1.map ax),.list (p.2.1.map ax),.int p.2.2]
noncomputable def ng(n:Nat)(ns:List Nat)(z:List (Nat×Int)):List Pr:=(z.filter λq=>decide (0<q.1)).map λq=>([n,q.1,n-q.1,0,0],ns++[q.1-1,n+1-q.1],q.2)
noncomputable def jN(n n0 n1 n2:Nat)(bx f0 f1 f2:Int):List Pr:=([n,0,0],[n0,n1,n2],bx)::ng n [n0,n1,n2] [(n0,f0),(n1,f1),(n2,f2)]
noncomputable def cnt(d:D):Nat×Int:=match d with
 | .tup [.int m,.tup [.int f,_]]=>(m.toNat,f)
 |_=>(0,0)
theorem AB(l:L2 c)(R:aL A 20){L a:Addr}{cd:Value}{n0 n1 n2 n:Nat}{bx f0 f1 f2 r0 r1 Y I:Int}{w1:D}(hn:n0+n1+n2=n):
 Ev c A (dZ L a cd) [("size",ax n),("counts",yx n0 n1 n2),("wholes",.list [.tup [.int bx,.int I],w1]),("firsts",.list [.tup [.int f0,.int r0],.tup [.int f1,.int r1],.tup [.int f2,.int Y]])] G (cR (gI 19))
  (.list ((jN n n0 n1 n2 bx f0 f1 f2).map vI)):=by
 refine ag (a:= .list [vI ([n,0,0],[n0,n1,n2],bx)]) (b:= .list ((ng n [n0,n1,n2] [(n0,f0),(n1,f1),(n2,f2)]).map vI)) (bq (ae (bb (ae (bq (ae (aa rfl) (ae aj (ae aj ai)))) (ae (aa rfl) (ae ?_ ai)))) ai)) ?_ (dI ?_)
 .exact aS (o:= .tup [.int bx,.int I]) (i:= .int 0) (aS (o:= .list [.tup [.int bx,.int I],w1]) (i:= .int 0) (aa rfl) aj rfl) aj rfl
 .have hz:((([ax n0,ax n1,ax n2]:List D).zip [.tup [.int f0,.int r0],.tup [.int f1,.int r1],.tup [.int f2,.int Y]]).map λq=>(.tup [q.1,q.2]:D))=[.tup [ax n0,.tup [.int f0,.int r0]],.tup [ax n1,.tup [.int f1,.int r1]],.tup [ax n2,.tup [.int f2,.int Y]]]:=rfl;have mem:∀d∈([.tup [ax n0,.tup [.int f0,.int r0]],.tup [ax n1,.tup [.int f1,.int r1]],.tup [ax n2,.tup [.int f2,.int Y]]]:List D),∃(m:Nat)(f r:Int),d= .tup [ax m,.tup [.int f,.int r]]/\m<=n:=λd J=>by
   simp only[mem_cons,not_mem_nil,or_false]at J;have h:=HN hn;rcases J with rfl|rfl|rfl
   .exact⟨_,_,_,rfl,h.1⟩
   .exact⟨_,_,_,rfl,h.2.1⟩
   .exact⟨_,_,_,rfl,h.2.2⟩
  refine aB (tv (ds:=[.tup [ax n0,.tup [.int f0,.int r0]],.tup [ax n1,.tup [.int f1,.int r1]],.tup [ax n2,.tup [.int f2,.int Y]]]) (p:=λd=>decide (0< (cnt d).1)) (g:=λd=>vI ([n,(cnt d).1,n-(cnt d).1,0,0],[n0,n1,n2]++[(cnt d).1-1,n+1-(cnt d).1],(cnt d).2))
   (ρd:=λd=>match d with| .tup [x,.tup [y,z]]=>[("rest",z),("first",y),("count",x),("size",ax n),("counts",yx n0 n1 n2)]|_=>[])
   (hz▸zY l.B R.handled rfl (l.no _ (by decide)) (aa (d:=yx n0 n1 n2) rfl) (aa rfl) rfl rfl rfl) rfl rfl (by decide) (by decide) (λ_=>rfl) (λC H d hY J=>?_) (λd J x e h=>?_) (λC G d J=>?_) (λC G d J hp=>?_) (by simp)) ?_
  all_goals try refine fR (mem d J) λm f r mh hm=>?_;obtain rfl:=mh
  .exact bU R (aA (au (.inl rfl) rfl) (aA (bU R (aA (au (.inl rfl) rfl) (aA (au (.inl rfl) rfl) bA)) rfl rfl) bA)) rfl rfl
  .exact cm rfl (cm rfl (cm rfl h))
  .refine ee (aC l.B R (a:=ax m) (b:= .int 0) (aa rfl) aj ?_);show some (decide ((0:Int)< (m:Int)))=some (decide (0< (m:Int).toNat));rw[toNat_natCast];congr 1;rw[Bool.eq_iff_iff];simp only[decide_eq_true_eq];exact⟨λq0=>ao 0xa71120218a1120210 [_] [] q0,λq0=>ao 0xa1120210a71120218 [_] [] q0⟩
  .have hp:0<m:=by have:decide (0< (m:Int).toNat)=true:=hp;rw[toNat_natCast]at this;simpa using this
   have e:cnt (.tup [ax m,.tup [.int f,.int r]])=(m,f):=by show((m:Int).toNat,f)=_;rw[toNat_natCast]
   rw[e];show Ev c A _ _ G _ (.tup [.list [ax n,ax m,ax (n-m),ax 0,ax 0],.list ([ax n0,ax n1,ax n2]++[ax (m-1),ax (n+1-m)]),.int f]);have e1:∀{x:Int}{y:Nat},x=(y:Int)->D.int x=ax y:=λ{x y}h=>by rw[h];rfl
   refine bb (ae (bq (ae (aa rfl) (ae (aa rfl) (ae (aB (ag (a:= .int n) (b:= .int m) (aa rfl) (aa rfl) rfl) (e1 (by exact dq (ao 0xbc1a0c7b7a768 [_,_,_] [] eC) (ao 0xbca10c7b76a78 [_,_,_] [] (dE (ao 12192672 [_,_] [] hm)))))) (ae aj (ae aj ai)))))) (ae (ag (a:=yx n0 n1 n2) (b:= .list [ax (m-1),ax (n+1-m)]) (aa rfl)
    (bq (ae (aB (ag (a:= .int m) (b:= .int 1) (aa rfl) aj rfl) (e1 (by exact dq (ao 0x112b1a0b7112a768 [_,_] [] eC) (ao 0xb112a10112b76a78 [_,_] [] (dE (ao 0xa1120210a1120 [_] [] hp)))))) (ae (aB (ag (a:= .int (n+1)) (b:= .int m) (ag (a:= .int n) (b:= .int 1) (aa rfl) aj rfl) (aa rfl) rfl) (e1 (by exact dq (ao 0xbc1112a10c7b7112a7168 [_,_,_] [] eC) (ao 0x112b1ca10c7112b716a78 [_,_,_] [] (dE (ao 798881919392 [_,_] [] hm)))))) ai))) (dI (by simp))) (ae (aa rfl) ai)))
  .congr 1;have e:([(n0,f0),(n1,f1),(n2,f2)]:List (Nat×Int))=map cnt [.tup [ax n0,.tup [.int f0,.int r0]],.tup [ax n1,.tup [.int f1,.int r1]],.tup [ax n2,.tup [.int f2,.int Y]]]:=rfl;unfold ng;rw[e,filter_map,map_map,map_map];rfl
 .simp[ng];have:=length_filter_le (λq:Nat×Int=>decide (0<q.1)) [(n0,f0),(n1,f1),(n2,f2)];simp at this;exact ao 0x312a0100000072a11210 [_] [] this
structure wN(ps:List Pr)(vs:List (Int×Int))(cut behind n:Nat):Prop where
 part:∀p∈ps,∃M,rK p.1 p.2.1 (vs.map (·.1)) cut behind M/\jo (tx (aG p.1 cut behind)) (tx (aG p.2.1 cut behind)) M (vs.map (·.1))=p.2.2
 len:ps.length<=10
 rest:vs.map (·.2)=replicate (n+1) 0
 n5:n<=5
theorem kc{ps:List Pr}{d:D}(h:d∈ps.map vI):∃p∈ps,d=vI p:=let⟨p,I,z⟩:=et h;⟨p,I,z.symm⟩
noncomputable def Lc(d:D):D:=match d with
 | .tup [_,_,x]=>x
 |_=> .none
theorem B9(l:L2 c)(R:aL A 30){L a:Addr}{J:Value}{ps:List Pr}{vs:List (Int×Int)}{c0 c1 c2 c3 n:Nat}{Q:Flow->Shared->Prop}(ok:wN ps vs (c3%3) (c3/3%4) n)
 (F:Fs c ah af H (dZ L a J) [("pairs",.list (ps.map vI)),("values",.list (vs.map pD)),("cells",cD c0 c1 c2 c3),("size",ax n)] [] s)
 (kk:∀U,Fs c ah af H (dZ L a J) [("told",.list (ps.map λp=> .int p.2.2)),("pairs",.list (ps.map vI)),("values",.list (vs.map pD)),("cells",cD c0 c1 c2 c3),("size",ax n)] [] U->gh (wpAny (model PW c.w) A (execs (zV 21) (dZ L a J)) Q E U)):
 gh (wpAny (model PW c.w) A (execs (zV 20) (dZ L a J)) Q E s):=by
 refine⟨?_⟩;refine jU l.par λv f1 f2 f3=>?_;have hlen:=ok.len;have Y:vs.length=n+1:=by have:=congrArg length ok.rest;simpa using this
 have n5:=ok.n5
 refine jl (ds:=ps.map vI) (p:=λ_=>true) (g:=Lc) (ρd:=λd=>match d with| .tup [x,y,z]=>[("number",z),("under",y),("over",x),("values",.list (vs.map pD)),("cells",cD c0 c1 c2 c3)]|_=>[])
  F (λG=>ba R.handled (aa rfl)) rfl rfl rfl rfl rfl (by decide) (by decide) (λ_=>rfl) (λC H d hY I=>?_) (λd I x e h=>?_) (λC G d I=>aR) (λC G d I _=>?_) (by rw[length_map];exact ao 0xa12a03d090062a0 [_] [] hlen) (λU F=>?_)
 .refine aq (kc I) λp hp D=>?_;obtain rfl:=D;exact bU R (aA (au (.inl rfl) rfl) (aA (au (.inl rfl) rfl) (aA (au (.inl rfl) rfl) bA))) rfl rfl
 .refine aq (kc I) λp hp D=>?_;obtain rfl:=D;exact cm rfl (cm rfl (cm rfl h))
 .refine aq (kc I) λp hp D=>?_;obtain rfl:=D;refine aq (ok.part p hp) λM po pe=>?_;show Ev c A _ _ G _ (.int p.2.2);rw[<-pe];refine bz l.B rfl f1 f2 (ae (d:= .list (p.1.map ax)) (aa rfl) (ae (d:= .list (p.2.1.map ax)) (aa rfl) (ae (d:= .list ((vs.map (·.1)).map .int)) ?_ (ae (d:=ax (c3%3)) ?_ (ae (d:=ax (c3/3%4)) ?_ ai))))) rfl (f3 R po)
  .refine aB (bJ (ds:=vs.map pD) (p:=λ_=>true) (g:=λd=>match d with| .tup [x,_]=>x|_=> .none) (ρd:=λd=>match d with| .tup [x,r]=>[("rest",r),("value",x)]|_=>[])
    (ba R.handled (aa rfl)) rfl rfl (by decide) (by decide) (λ_=>rfl) (λC H d hY I=>by
     refine aq (et I) λq hq D=>?_;obtain rfl:=D;exact bU R (aA (au (.inl rfl) rfl) (aA (au (.inl rfl) rfl) bA)) rfl rfl) (λd I x e h=>nomatch h) (λC G d I=>aR) (λC G d I _=>by
     refine aq (et I) λq hq D=>?_;obtain rfl:=D;exact aa rfl) (by rw[length_map];exact aM 0x512b0112b1a03d090062a0 [_,_] [] (dX Y) n5)) ?_
   rw[oS (λ_ _=>rfl),map_map,map_map];rfl
  .exact ag (a:= .int c3) (b:= .int (3:Nat)) (aS (o:=cD c0 c1 c2 c3) (i:= .int 3) (aa rfl) aj rfl) aj (cB (by decide))
  .exact ag (a:= .int (c3/3:Nat)) (b:= .int (4:Nat)) (ag (a:= .int c3) (b:= .int (3:Nat)) (aS (o:=cD c0 c1 c2 c3) (i:= .int 3) (aa rfl) aj rfl) aj (fU (by decide) (by decide))) aj (cB (by decide))
 .have e:((ps.map vI).filter λ_=>true).map Lc=ps.map λp=> .int p.2.2:=by rw[oS (λ_ _=>rfl),map_map];rfl
  rw[e]at F;exact @gh.out _ (kk U F)
noncomputable def E9:Stmt->Expr
 | .Return (some e) _=>e
 |_=> .Constant .none 0 ⟨0,0,0,0⟩
theorem ya(l:L2 c)(R:aL A 20){L a:Addr}{cd:Value}{ps:List Pr}{vs:List (Int×Int)}{n cut behind:Nat}{cc:D}(ok:wN ps vs cut behind n):
 Ev c A (dZ L a cd) [("told",.list (ps.map λp=> .int p.2.2)),("pairs",.list (ps.map vI)),("values",.list (vs.map pD)),("cells",cc),("size",ax n)] G (E9 (gI 21)) (.bool true):=by
 have hlen:=ok.len;have LK:vs.length=n+1:=by have:=congrArg length ok.rest;simpa using this
 have n5:=ok.n5;have Y:∀xs:List Int,ij .Eq (lD xs) (lD xs)=some true:=λxs=>by rw[wo rfl];simp
 refine Dl (ia l.B R (a:=lD (replicate (n+1) 0)) (b:=lD (replicate (n+1) 0)) ?_ ?_ (Y _)) (ia l.B R (a:=lD (ps.map λp=>p.2.2)) (b:=lD (ps.map λp=>p.2.2)) ?_ ?_ (Y _))
 .refine aB (bJ (ds:=vs.map pD) (p:=λ_=>true) (g:=λd=>match d with| .tup [_,r]=>r|_=> .none) (ρd:=λd=>match d with| .tup [x,r]=>[("rest",r),("value",x)]|_=>[])
   (ba R.handled (aa rfl)) rfl rfl (by decide) (by decide) (λ_=>rfl) (λC H d hY J=>by
    refine aq (et J) λq hq I=>?_;obtain rfl:=I;exact bU R (aA (au (.inl rfl) rfl) (aA (au (.inl rfl) rfl) bA)) rfl rfl) (λd J x e h=>nomatch h) (λC G d J=>aR) (λC G d J _=>by
    refine aq (et J) λq hq I=>?_;obtain rfl:=I;exact aa rfl) (by rw[length_map];exact aM 0x512b0112b1a03d090062a0 [_,_] [] (dX LK) n5)) ?_
  rw[oS (λ_ _=>rfl),map_map,<-ok.rest,lD,map_map];rfl
 .refine aB (ag (a:= .list [.int 0]) (b:= .int ((n+1:Nat):Int)) (bq (ae aj ai)) (ag (a:= .int n) (b:= .int 1) (aa rfl) aj rfl) (tU (by exact aI 4607537192 [_] []) (by exact ao 0x512a0142215112112a1718 [_] [] n5) (by simp;exact ao 0x512a010000062112112a110 [_] [] n5))) ?_;rw[toNat_natCast,lD,List.map_replicate,List.flatten_replicate_singleton]
 .refine aB (aa rfl) ?_;rw[lD,map_map];rfl
 .refine aB (bJ (ds:=ps.map vI) (p:=λ_=>true) (g:=Lc) (ρd:=λd=>match d with| .tup [x,y,z]=>[("number",z),("under",y),("over",x)]|_=>[])
   (ba R.handled (aa rfl)) rfl rfl (by decide) (by decide) (λ_=>rfl) (λC H d hY J=>by
    refine aq (kc J) λp hp I=>?_;obtain rfl:=I;exact bU R (aA (au (.inl rfl) rfl) (aA (au (.inl rfl) rfl) (aA (au (.inl rfl) rfl) bA))) rfl rfl) (λd J x e h=>nomatch h) (λC G d J=>aR) (λC G d J _=>by
    refine aq (kc J) λp hp I=>?_;obtain rfl:=I;exact aa rfl) (by rw[length_map];exact ao 0xa12a03d090062a0 [_] [] hlen)) ?_
  rw[oS (λ_ _=>rfl),map_map,lD,map_map];rfl
variable{ρ₁:List (Str×D)}{Fl:List (Str×Addr×OD)}{NM:Hd}
theorem Fs.B8(F:Fs c G (aN af T) ((H.wide T).pin bL) O ρ own U)(P:PS T b8 fs Ls G af (H.wide T) bL)(Y:Fs c' (aX G (aN af T) H.X U) (aN U H.X) NM O ρ₁ Fl cP)(J:∀t∈T,t∉H.X){b:Bool}:jy c T b8 fs G af Ls bL (.bool b) (.bool b) cP:=by
 have up:∀a o,a∉H.X->U.heap.get? a=some o->cP.heap.get? a=some o:=λa o ha e=>Y.old a o (b9 e ha);have nX:∀q∈bL,q.1∉H.X:=λq D I=>by
  rcases P.lz q D with z|z|z
  .exact J _ z I
  .have:=F.gd.sub _ _ z;rw[F.new _ (cv I)]at this;exact ns this
  .exact z.2 (cv I)
 refine⟨?_,λa o ha e=>up a o (λI=>?_) (F.old a o (b9 e ha)),λt ht=>?_,λq D=>up _ _ (nX q D) (F.inv q D),P.told,P.full,P.mono,P.done,λq D=>(P.lz q D).imp id (Or.imp id And.left),by exact rfl⟩
 .have e1:=F.rest;have e2:=Y.rest;rw[e2];show({U with heap:=cP.heap,toks:=cP.toks}:Shared)=_;rw[e1];rfl
 .have:=F.new a (cv I);rw[b9 e ha]at this;exact sn this
 .obtain⟨o,e⟩:=F.ex t (d7 ht);exact⟨o,up t o (J t ht) e⟩
structure LawC(c:Cx)(P5 C5 P6 C6:Addr):Prop where
 ar:Ar c P5 C5 P6 C6
 ws:Ws c
 Es:∃v,FnAt c 10 "rgb_to_hls" v
 Er:∃v,FnAt c 11 "rgb_to_hsv" v
 xV:∃v,FnAt c 14 "in_table_b1" v
 Ep:∃v,FnAt c 16 "map_table_b3" v
 HG:∃v,FnAt c 20 "_law_typed" v
 oK:∃v,FnAt c 21 "_law_product" v
 HF:∃v,FnAt c 22 "_law_orders" v
 HE:∃v,FnAt c 23 "_law_ways" v
 HD:∃v,FnAt c 24 "_law_told" v
 HC:∃v,FnAt c 25 "_law_due" v
 Aw:∃v,FnAt c 26 "_law_column" v
 HB:∃v,FnAt c 27 "_law_parted" v
theorem LawC.l2(D:LawC c P5 C5 P6 C6)(J:c'.w=c.w)(hC:c'.C=c.C)(Y:c'.mg=c.mg)(Kr:c'.mb=c.mb)(I:∀a o,c.h₀.get? a=some o->c'.h₀.get? a=some o)
 (hT:∀b∈tT P5 P6,∃r∈Ls,r.1=b)(hp:jM Ls c'.h₀)(hf:∀t∈tB P5 C5 P6 C6,Full Ls t)(hg:∀a o,c.h₀.get? a=some o->a∉tT P5 P6):L2 c':=by
 have g:=D.ar.gl;obtain⟨v8,f8⟩:=D.ar.f8;obtain⟨v10,Es⟩:=D.Es;obtain⟨v11,Er⟩:=D.Er;obtain⟨He,oK⟩:=D.oK;obtain⟨PI,HF⟩:=D.HF;obtain⟨PG,HE⟩:=D.HE;obtain⟨PF,HD⟩:=D.HD;obtain⟨PE,HC⟩:=D.HC;obtain⟨N2,Aw⟩:=D.Aw;obtain⟨PD,HB⟩:=D.HB;have ints2:∀{a b:Int}(G:PH)(vs:List Value),aE c.w c.C G [.int a,.int b] vs->aE c.w c.C (λ_ _=>False) [.int a,.int b] vs:=λ{a b}G vs h=>j6 (xs:=[a,b]) h;have z:∀{n:Nat}{name:Str}{v:Value},FnAt c n name v->c'.mg name=some v/\Plain c' v:=λf=>⟨by rw[Y];exact f.g,(f.more Y I).f.plain⟩
 exact{
  B:=by have B:=g.B.more I;show Base c'.w c'.C c'.h₀ c'.mg c'.mb;rw[J,hC,Y,Kr];exact B
  no:=λx hx=>by rw[Y];exact g.no x hx
  Kk:=⟨v8,(z f8).1,(z f8).2,λR hb h1 h2=>Callee.Io (zz D.ar R f8 hb h1 h2) J hC I hT hp hf hg ints2⟩
  IK:=by
   refine aq D.ar.f5 λv f _=>?_;refine⟨v,(z f).1,(z f).2,λ{A x n}R h1 h2 h3 h4=>?_⟩;refine aq (D.ar.IK R) λv' f' h'=>?_;have e:v'=v:=by have:=f'.g;rw[f.g]at this;obtain rfl:=bg this;rfl
   subst e;exact Callee.Io (h' h1 h2 h3 h4) J hC I hT hp hf hg ints2
  Od:=⟨He,(z oK).1,(z oK).2,λR h1 h2=>Callee.more (gW g R oK h1 h2) J hC I⟩
  ord:=⟨PI,(z HF).1,(z HF).2,λ{A n cs}h0 R h1 h2 h3=>Callee.more (pq g HF n h0 A cs R h1 h2 h3) J hC I⟩
  wz:=⟨PE,(z HC).1,(z HC).2,λR hq h0 h1 h2 hf=>Callee.more (Ft g R HC hq h0 h1 h2 hf) J hC I⟩
  way:=⟨PG,(z HE).1,(z HE).2,λR Ql hq hl=>Callee.more (CB g R HE Ql hq hl) J hC I⟩
  ET:=⟨PF,(z HD).1,(z HD).2,λR hl h4 hk=>Callee.more (CC g R Es Er HD hl h4 hk) J hC I⟩
  par:=⟨PD,(z HB).1,(z HB).2,λR po=>Callee.more (xp D.ws g R oK Aw HB po) J hC I⟩}
structure wO(c0 c1 c2 c3:Nat)(n n0 n1 n2 s0:Nat)(sr:List Nat)(bx f0 f1 f2:Int)(num M:Nat):Prop where
 wn:(wd c0).length=n
 ns:n0+n1+n2=n
 typed:d9 ((wd c0).map lt) c1=s0::sr
 chr:∀x∈s0::sr,x<=0x10FFFF
 tl:(s0::sr).length<=1000
 low:∀x∈s0::sr,(qU x).length<=100
 Kh:((((s0::sr).filter λx=> !mx x).map m3).map (·.length)).sum<=16777216
 fl:∀x∈s0::sr,mx x=eA.contains x
 rd:eP (s0::sr)=s0::(wd c0).map lt
 k0:kA (s0::(wd c0).map lt) 102=n0
 k1:kA (s0::(wd c0).map lt) 105=n1
 k2:kA (s0::(wd c0).map lt) 108=n2
 gr:(iu (iA c2) n).fdiv (eZ (iA c2) [n0,n1,n2])=bx
 OV:(iu (iA c2) n).fmod (eZ (iA c2) [n0,n1,n2])=0
 nm:(iu (2^widthOf c2) n).fdiv (eZ (2^widthOf c2) [n0,n1,n2])=num
 Of:(iu (2^widthOf c2) n).fmod (eZ (2^widthOf c2) [n0,n1,n2])=0
 dig:EC n (rO n0 n1 n2) (widthOf c2) num M
 O2:ED n (rO n0 n1 n2) (2^widthOf c2) num
 gb:bx.natAbs<2^1000
 e0:fP bx (iA c2) n n0= .tup [.int f0,.int 0]
 e1:fP bx (iA c2) n n1= .tup [.int f1,.int 0]
 e2:fP bx (iA c2) n n2= .tup [.int f2,.int 0]
 fb:∀x∈[f0,f1,f2],x.natAbs<big
 ET:Bu (iA c2) (wd c0) (16+(c2/64%33:Nat)) (bx::cQ (iA c2) (rO n0 n1 n2) [f0,f1,f2] 3)
 val:wM (iA c2) n
 Ll:wN (jN n n0 n1 n2 bx f0 f1 f2) (bQ (iA c2) n) (c3%3) (c3/3%4) n
theorem Fs.only(F:Fs c ah af H O ρ own s){ρ₁:List (Str×D)}(h:Sub ρ₁ ρ):Fs c ah af H O ρ₁ own s:=F.less h (λ_ h=>h)
theorem o8(c2:Nat):2<=(iA c2).natAbs/\(iA c2).natAbs<=9:=by
 unfold iA;have D:c2%8<8:=mod_lt _ (by decide);have z:c2/8%2<2:=mod_lt _ (by decide);have hb:2<=2+c2%8/\2+c2%8<=9:=⟨le_add_right _ _,add_le_add_left (Nat.le_of_lt_succ D) 2⟩;rcases Nat.lt_succ_iff_lt_or_eq.mp z with h|h
 .rw[Nat.lt_one_iff.mp h,show(1-2*((0:Nat):Int))=1 from rfl,mul_one];exact hb
 .rw[h,show(1-2*((1:Nat):Int))= -1 from rfl,Int.mul_neg,mul_one,natAbs_neg];exact hb
theorem qG{test:Expr}{body:List Stmt}{pos:Pos}{rest:List Stmt}{Q:Flow->Shared->Prop}(F:Fs c ah af H O ρ own s)(he:∀G,jt c A O ρ G test false)
 (k:∀U,Fs c ah af H O ρ own U->wpAny (model PW c.w) A (execs rest O) Q E U):gh (wpAny (model PW c.w) A (execs (.If test body [] pos::rest) O) Q E s):=
 ⟨bK (b:=false) F he λU z=>wpAny_execs_nil (k U z)⟩
theorem wY{x y:Str}{ts:List Expr}{n:Nat}{p pos:Pos}{e:Expr}{d1 d2:D}{rest:List Stmt}{Q:Flow->Shared->Prop}(R:aL A k)(F:Fs c ah af H O ρ own s)(he:∀G,Ev c A O ρ G e (.tup [d1,d2]))
 (hx:kK O H x)(Y:kK O H y)(I:own.all (λe=> !(e.1==x))=true)(z:own.all (λe=> !(e.1==y))=true)
 (hw:swappedStores [.Tuple ts n p] e O=pure (some [x,y]))(hs:swapsWithSole [.Tuple ts n p] e pos.line O=pure false)
 (J:∀U,Fs c ah af H O ((x,d1)::(y,d2)::ρ) own U->wpAny (model PW c.w) A (execs rest O) Q E U):
 gh (wpAny (model PW c.w) A (execs (.Assign [.Tuple ts n p] e pos::rest) O) Q E s):=⟨iQ R F he hx Y I z hw J hs⟩
theorem ui{e:Expr}{pos:Pos}{d:D}{rest:List Stmt}{Q:Flow->Shared->Prop}(F:Fs c ah af H O ρ own s)(he:∀G,Ev c A O ρ G e d)
 (k:∀v U,Fs c ah af H O ρ own U->Rep c.w c.C (aX ah af H.X U) d v->Q (.ret v) U):gh (wpAny (model PW c.w) A (execs (.Return (some e) pos::rest) O) Q E s):=⟨aK F he k⟩
theorem y6{y:Str}{J iter z:Expr}{ifs:List Expr}{scope:Scope}{py I pos:Pos}{ds:List D}(p:D->Bool)(g:D->D)(ρd:D->List (Str×D)){rest:List Stmt}{Q:Flow->Shared->Prop}(F:Fs c ah af H O ρ own s)
 (hi:∀G,tZ c A O ρ G iter ds)(hy:O.kindOf y=some .local)(ho:own.all (λe=> !(e.1==y))=true)
 (LP:swapsWith (.ListComp J [⟨z,iter,ifs,0⟩] scope I) (some (.Name y py)) pos.line O=pure true)
 (hclos:closureFor scope O=pure (f9 scope O))(hkind:scope.kind= .function)(hnames:∀y∈scope.names,y.2= .local->scope.names.lookup y.1=some .local)(hY:∀y∈cw scope,scope.names.lookup y=some .cell)
 (hs:∀x,foldedSetIterable iter O x=pure x)
 (ha:∀C H d,H.Y=cw scope->d∈ds->wQ c A H (bE scope O C) [] z d (bo scope O ρ) (ρd d))
 (hback:∀d∈ds,∀x e,(bo scope O ρ).lookup x=some e->(ρd d).lookup x=some e)
 (ht:∀C G d,d∈ds->tW c A (bE scope O C) (ρd d) G ifs (p d))
 (he:∀C G d,d∈ds->p d=true->Ev c A (bE scope O C) (ρd d) G J (g d))(hlen:ds.length<=4000000)
 (kk:∀U,Fs c ah af H O ((y,.list ((ds.filter p).map g))::ρ) own U->wpAny (model PW c.w) A (execs rest O) Q E U):
 gh (wpAny (model PW c.w) A (execs (.Assign [.Name y py] (.ListComp J [⟨z,iter,ifs,0⟩] scope I) pos::rest) O) Q E s):=
 ⟨jl p g ρd F hi hy ho LP hclos hkind hnames hY hs ha hback ht he hlen kk⟩
set_option maxHeartbeats 4000000 in
theorem zT(l:L2 c)(R:aL A 35){L a:Addr}{cd:Value}{Q:Flow->Shared->Prop}{c0 c1 c2 c3 n n0 n1 n2 J:Nat}{sr:List Nat}{bx f0 f1 f2:Int}{num M:Nat}(ok:wO c0 c1 c2 c3 n n0 n1 n2 J sr bx f0 f1 f2 num M)
 (hv:("values":Str)∈H.Y)(iC:("step":Str)∈H.Y)(Gb:("falls":Str)∈H.Y)
 (F:Fs c ah af H (dZ L a cd) [("wholes",.list [.tup [.int bx,.int 0],.tup [.int num,.int 0]]),("base",.int (2^widthOf c2)),("width",ax (widthOf c2)),("q",.int (iA c2)),("counts",yx n0 n1 n2),("size",ax n),("read",.str (tx (J::(wd c0).map lt))),("cells",cD c0 c1 c2 c3)] [] s)
 (kk:∀bP U,Fs c ah af H (dZ L a cd) bP [] U->Q (.ret (.bool true)) U):
 gh (wpAny (model PW c.w) A (execs (zV 9) (dZ L a cd)) Q E s):=by
 refine⟨?_⟩;have hn:n<=5:=by have:=(qy (c0:=c0)).2;rw[ok.wn]at this;exact this
 have I:=ok.ns;have hq:=o8 c2;have z:aL A 20:=R.le (by decide);have hw:6<=widthOf c2/\widthOf c2<=9:=by unfold widthOf;exact⟨aI 44579250464 [_] [],ao 0x412112a10912a61210 [_] [] DZ⟩
 refine @gh.out _ (bS (d:= .list ((aT n (rO n0 n1 n2)).map lD)) F (λG=>Dj l z hn ok.ns rfl) (.inl rfl) rfl rfl λs F=>?_);refine @gh.out _ (bS (d:= .list ((eI n (rO n0 n1 n2)).map .int)) F (λG=>(Gq l z hn).weak (az rfl (az rfl dh))) (.inr Gb) rfl rfl λs F=>?_);refine @gh.out _ (wY (d1:= .int num) (d2:= .int (eY n (rO n0 n1 n2))) R F (λG=>(xZ l z hn).weak (az rfl (az rfl dh))) (.inl rfl) (.inl rfl) rfl rfl rfl rfl λs F=>?_);refine @gh.out _ (qG F (λG=>(ug l z (by exact⟨ao 0xa6120a1120210 [_] [] hw.1,ao 9975604978336 [_] [] hw.2⟩) ok.dig).weak (az rfl (az rfl (az rfl (az rfl dh))))) λs F=>?_);refine @gh.out _ (qG F (λG=>(qC l (R.le (by decide)) hn ok.O2).weak (az rfl (az rfl (az rfl (az rfl dh))))) λs F=>?_)
 have F:=F.only (ρ₁:=[("wholes",.list [.tup [.int bx,.int 0],.tup [.int num,.int 0]]),("q",.int (iA c2)),("counts",yx n0 n1 n2),("size",ax n),("read",.str (tx (J::(wd c0).map lt))),("cells",cD c0 c1 c2 c3)])
  (az rfl (az rfl (az rfl (az rfl (az rfl (az rfl dh))))))
 refine @gh.out _ (y6 (ds:=[ax n0,ax n1,ax n2]) (p:=λ_=>true) (g:=λd=>fP bx (iA c2) n (fk d)) (ρd:=λd=>[("count",d),("wholes",.list [.tup [.int bx,.int 0],.tup [.int num,.int 0]]),("q",.int (iA c2)),("size",ax n)]) F
  ?hi rfl rfl rfl rfl rfl ?hn ?hY ?hs ?ha ?hback ?ht (λC G d hd _=>?_) ?hl (λs F=>?_))
 case hi=>exact λG=>ba R.handled (aa rfl)
 case hn=>decide
 case hY=>decide
 case hs=>exact λ_=>rfl
 case ha=>exact λC H d hY hd=>au (.inl rfl) rfl
 case hback=>exact λd hd x e h=>cm rfl h
 case ht=>exact λC G d hd=>aR
 case hl=>simp
 .obtain⟨m,rfl,hm⟩:∃m:Nat,d=ax m/\m<=n:=by
   simp only[mem_cons,not_mem_nil,or_false]at hd;rcases hd with rfl|rfl|rfl
   .exact⟨_,rfl,by exact ao 815138933664 [_,_,_,_] [] (dX I)⟩
   .exact⟨_,rfl,by exact ao 814635617184 [_,_,_,_] [] (dX I)⟩
   .exact⟨_,rfl,by exact ao 802556021664 [_,_,_,_] [] (dX I)⟩
  rw[gJ];exact AH l (R.le (by decide)) hn hm hq ok.gb rfl rfl rfl rfl rfl
 have ef:(([ax n0,ax n1,ax n2]:List D).filter λ_=>true).map (λd=>fP bx (iA c2) n (fk d))=[.tup [.int f0,.int 0],.tup [.int f1,.int 0],.tup [.int f2,.int 0]]:=by show [fP bx (iA c2) n (fk (ax n0)),fP bx (iA c2) n (fk (ax n1)),fP bx (iA c2) n (fk (ax n2))]=_;rw[gJ,gJ,gJ,ok.e0,ok.e1,ok.e2]
 rw[ef]at F;refine @gh.out _ (bS (d:=lD (bx::cQ (iA c2) (rO n0 n1 n2) [f0,f1,f2] 3)) F (λG=>(uU l z (by exact aM 0x512d0dcba110912a0 [_,_,_,_] [] (dX I) hn) (by exact aM 0x512d0dcab110912a0 [_,_,_,_] [] (dX I) hn) (by exact aM 0x512d0dacb110912a0 [_,_,_,_] [] (dX I) hn) hq.2 ok.fb).weak (az rfl (az rfl (az rfl (az rfl dh))))) (.inl rfl) rfl rfl λs F=>?_);refine @gh.out _ (qG F (λG=>(rT l z ok.ET).weak (az rfl (az rfl (az rfl (az rfl (az rfl dh)))))) λs F=>?_)
 have F:=F.only (ρ₁:=[("wholes",.list [.tup [.int bx,.int 0],.tup [.int num,.int 0]]),("firsts",.list [.tup [.int f0,.int 0],.tup [.int f1,.int 0],.tup [.int f2,.int 0]]),("q",.int (iA c2)),("counts",yx n0 n1 n2),("size",ax n),("cells",cD c0 c1 c2 c3)])
  (az rfl (az rfl (az rfl (az rfl (az rfl (az rfl dh))))))
 refine @gh.out _ (wX l (R.le (by decide)) hn hq ok.val F hv iC rfl rfl λbP s kp Qm F=>⟨?_⟩)
 have F:=F.only (ρ₁:=[("wholes",.list [.tup [.int bx,.int 0],.tup [.int num,.int 0]]),("firsts",.list [.tup [.int f0,.int 0],.tup [.int f1,.int 0],.tup [.int f2,.int 0]]),("counts",yx n0 n1 n2),("size",ax n),("cells",cD c0 c1 c2 c3),("values",.list ((bQ (iA c2) n).map pD))])
  (az (kp _ _ (by decide) (by decide) rfl) (az (kp _ _ (by decide) (by decide) rfl) (az (kp _ _ (by decide) (by decide) rfl) (az (kp _ _ (by decide) (by decide) rfl) (az (kp _ _ (by decide) (by decide) rfl) (az Qm dh))))))
 refine @gh.out _ (bS (d:= .list ((jN n n0 n1 n2 bx f0 f1 f2).map vI)) F (λG=>(AB l z ok.ns).weak (az rfl (az rfl (az rfl (az rfl dh))))) (.inl rfl) rfl rfl λs F=>?_);have F:=F.only (ρ₁:=[("pairs",.list ((jN n n0 n1 n2 bx f0 f1 f2).map vI)),("values",.list ((bQ (iA c2) n).map pD)),("cells",cD c0 c1 c2 c3),("size",ax n)]) (az rfl (az rfl (az rfl (az rfl dh))));refine @gh.out _ (B9 l (R.le (by decide)) ok.Ll F λs F=>⟨?_⟩);refine @gh.out _ (ui (d:= .bool true) F (λG=>ya l z ok.Ll) λv s F r=>?_);have r:v= .bool true:=r;subst r;exact kk _ s F
theorem jG{ts:List Expr}{n:Nat}{p pos:Pos}{e:Expr}{d:D}{rest:List Stmt}{Q:Flow->Shared->Prop}(F:Fs c ah af H O ρ own s)(he:∀G,Ev c A O ρ G e d)(ha:wQ c A H O own (.Tuple ts n p) d ρ bP)
 (k:∀U,Fs c ah af H O bP own U->wpAny (model PW c.w) A (execs rest O) Q E U)
 (hs:swapsWithSole [.Tuple ts n p] e pos.line O=pure false)(z:swappedStores [.Tuple ts n p] e O=pure none):
 gh (wpAny (model PW c.w) A (execs (.Assign [.Tuple ts n p] e pos::rest) O) Q E s):=⟨fv F he ha k hs z⟩
theorem sf{x:Str}{p pos:Pos}{e:Expr}{d:D}{rest:List Stmt}{Q:Flow->Shared->Prop}(F:Fs c ah (aN af T) (H.pin Ls) O ρ own s)(P:PS T b8 eT ct ah af H Ls)(he:yn c A T b8 fs O ρ e d)(hb:kK O H x)(ho:own.all (λe=> !(e.1==x))=true)
 (hs:swapsWith e (some (.Name x p)) pos.line O=pure false)(k:∀U bL,Fs c ah (aN af T) (H.pin bL) O ((x,d)::ρ) own U->PS T b8 (fs++eT) ct ah af H bL->wpAny (model PW c.w) A (execs rest O) Q E U):
 gh (wpAny (model PW c.w) A (execs (.Assign [.Name x p] e pos::rest) O) Q E s):=⟨jH F P he hb ho hs k⟩
theorem Bb{script:List Int}:(rz script).map D.int=[ax (ej script 0 17).toNat,ax (ej script 1 2567090).toNat,ax (ej script 2 529).toNat,ax (ej script 3 7).toNat]:=by
 have h:∀{x:Int},0<=x->D.int x=ax x.toNat:=λ{x}z=>by show D.int x=D.int ((x.toNat:Nat):Int);rw[toNat_of_nonneg z]
 show [D.int (ej script 0 17),D.int (ej script 1 2567090),D.int (ej script 2 529),D.int (ej script 3 7)]=_;rw[h (gw (by decide)),h (gw (by decide)),h (gw (by decide)),h (gw (by decide))]
set_option maxHeartbeats 4000000 in
theorem Fo(lc:LawC c P5 C5 P6 C6)(R:aL A 41){v:Value}(f:FnAt c 28 "law" v){script:List Int}(Qr:script.length<=1000)
 {c0 c1 c2 c3 n n0 n1 n2 Hh:Nat}{sr:List Nat}{bx f0 f1 f2:Int}{num M:Nat}(hc:(rz script).map D.int=[ax c0,ax c1,ax c2,ax c3])(ok:wO c0 c1 c2 c3 n n0 n1 n2 Hh sr bx f0 f1 f2 num M):
 cJ c (tT P5 P6) (tB P5 C5 P6 C6) (tF P5 C5 P6 C6) A v [.list (script.map .int)] (.bool true):=by
 have g:=lc.ar.gl;obtain⟨v8,f8⟩:=lc.ar.f8;obtain⟨N4,xV⟩:=lc.xV;obtain⟨N3,Ep⟩:=lc.Ep;obtain⟨v20,HG⟩:=lc.HG;obtain⟨He,oK⟩:=lc.oK;refine tO g.B R f.f rfl rfl rfl rfl (by decide) (by decide) (by decide) λA' L ad cd G E af s Ls Q kq I hT hex nJ s7 cA F=>?_;have tY:PS (tT P5 P6) (tB P5 C5 P6 C6) [] Ls G af ((iG (ak (aw 28)) L).wide (tT P5 P6)) Ls:=PS.start cA hT nJ s7;have hY:∀x,x∈cw (ak (aw 28))->x∈((iG (ak (aw 28)) L).wide (tT P5 P6)).Y:=λx h=>h;have BB:=qy (c0:=c0);refine @gh.out _ (bS (d:=cD c0 c1 c2 c3) F (λG=>aB (AF g I Qr) (congrArg D.list hc)) (.inr (show _∈cw (ak (aw 28)) by decide)) rfl rfl λs F=>?_);have F:=F.only (ρ₁:=[("cells",cD c0 c1 c2 c3)]) (az rfl dh);refine @gh.out _ (bS (d:= .str (tx ((wd c0).map lt))) F (λG=>Dh g I) (.inl rfl) rfl rfl λs F=>?_);refine @gh.out _ (jG (d:= .tup [Ke (Hh::sr),MC (Hh::sr)]) F (λG=>?_) (bU I (aA (au (.inl rfl) rfl) (aA (au (.inl rfl) rfl) bA)) rfl rfl) (λs F=>?_) rfl rfl)
 .rw[<-ok.typed];refine bz g.B rfl HG.g HG.f.plain (ae (d:= .str (tx ((wd c0).map lt))) (aa rfl) (ae (d:= .int c1) (aS (o:=cD c0 c1 c2 c3) (i:= .int 1) (aa rfl) aj rfl) ai)) rfl (zy g (I.le (by decide)) HG (by rw[length_map];exact ao 5577558467232 [_] [] BB.2) (λx hx=>?_) (by rw[ok.typed];exact ok.chr) (by rw[ok.typed];exact ok.tl));refine aq (et hx) λi hi J=>?_;obtain rfl:=J;have:=D1 hi;have:i=0\/i=1\/i=2:=EE this;rcases this with rfl|rfl|rfl
  .exact .inl rfl
  .exact .inr (.inl rfl)
  .exact .inr (.inr rfl)
 refine @gh.out _ (bS (d:= .str (tx (eP (Hh::sr)))) F (λG=>Di g (I.le (by decide)) xV Ep ok.tl ok.low ok.Kh) (.inr (show _∈cw (ak (aw 28)) by decide)) rfl rfl λs F=>?_);refine @gh.out _ (qG F (λG=>yL g (I.le (by decide)) xV ok.tl (by rw[length_map];exact ao 89240896025248 [_] [] BB.2) ok.fl ok.rd) λs F=>?_);rw[ok.rd]at F;refine @gh.out _ (jG (d:= .tup [ax ((wd c0).map lt).length,yx n0 n1 n2]) F (λG=>Dk g (I.le (by decide)) (by rw[length_map];exact ao 89240896025248 [_] [] BB.2) ok.k0 ok.k1 ok.k2) (bU I (aA (au (.inr (show("size":Str)∈cw (ak (aw 28)) by decide)) rfl) (aA (au (.inr (show("counts":Str)∈cw (ak (aw 28)) by decide)) rfl) bA)) rfl rfl) (λs F=>?_) rfl rfl);rw[length_map,ok.wn]at F;refine @gh.out _ (jG (d:= .tup [.int (iA c2),ax (widthOf c2)]) F (λG=>Gr g (I.le (by decide)) rfl) (bU I (aA (au (.inr (show("q":Str)∈cw (ak (aw 28)) by decide)) rfl) (aA (au (.inl rfl) rfl) bA)) rfl rfl) (λs F=>?_) rfl rfl);refine @gh.out _ (bS (d:= .int (2^widthOf c2)) F (λG=>aB (ag (a:= .int 2) (b:= .int (widthOf c2)) aj (aa rfl) (en (bV (by exact aI 684072 [_] []) (dP (by decide)) (by unfold widthOf;exact ao 0x412112a103e832a612178 [_] [] DZ)))) (by rw[toNat_natCast])) (.inl rfl) rfl rfl λs F=>?_)
 have F:=F.only (ρ₁:=[("base",.int (2^widthOf c2)),("width",ax (widthOf c2)),("q",.int (iA c2)),("counts",yx n0 n1 n2),("size",ax n),("read",.str (tx (Hh::(wd c0).map lt))),("cells",cD c0 c1 c2 c3)])
  (az rfl (az rfl (az rfl (az rfl (az rfl (az rfl (az rfl dh)))))))
 have hn:n<=5:=by have:=BB.2;rw[ok.wn]at this;exact this
 have hq:=o8 c2;have kj:2<=((2:Int)^widthOf c2).natAbs/\((2:Int)^widthOf c2).natAbs<=1000:=by
  have h:widthOf c2=6\/widthOf c2=7\/widthOf c2=8\/widthOf c2=9:=by unfold widthOf;exact KN (le_add_right 6 _) (add_le_add_left (Nat.le_of_lt_succ (mod_lt _ (by decide))) 6)
  rcases h with h|h|h|h<;>rw[h]<;>decide
 refine @gh.out _ (sf F tY (uW lc.ar (I.le (by decide)) oK f8 hn ok.ns ⟨hq.1,by exact ao 0x912a03e832a0 [_] [] hq.2⟩ kj) (.inr (show _∈cw (ak (aw 28)) by decide)) rfl rfl λs bL F P=>?_);have ew: [jE (iA c2) n [n0,n1,n2],jE (2^widthOf c2) n [n0,n1,n2]]=[.tup [.int bx,.int 0],.tup [.int num,.int 0]]:=by unfold jE;rw[ok.gr,ok.OV,ok.nm,ok.Of]
 rw[ew]at F;have Hx:∀t∈tT P5 P6,t∉(iG (ak (aw 28)) L).X:=λt ht hm=>by obtain⟨o,e⟩:=hT t ht;rw[cA t hm]at e;exact ns e
 have Eg:∀t∈tB P5 C5 P6 C6,Full bL t:=λt ht=>by
  refine(P.done t ?_).2;simp only[mem_cons,not_mem_nil,or_false]at ht;rcases ht with rfl|rfl
  .exact .tail _ (.head _)
  .exact .head _
 have ho:=F.view.old;have hg:∀a o,c.h₀.get? a=some o->a∉tT P5 P6:=λa o e hm=>by have:=F.gd.sub _ _ (F.gd.base _ _ e);rw[show(aN af (tT P5 P6)).heap.get? a=none from hideAll_none _ hm]at this;exact ns this
 have Gf:∀a o,(c.ext s.heap (bL.map Prod.fst)).h₀.get? a=some o->aX G (aN af (tT P5 P6)) (iG (ak (aw 28)) L).X s a o:=λa o e=>by
  rcases Cx.uC ho e with e|⟨hm,e⟩
  .exact .inl (F.gd.base _ _ e)
  .refine aq (et hm) λq hq J=>?_;obtain rfl:=J;have e2:=F.inv q hq;rw[e]at e2;obtain rfl:=bg e2;rcases P.lz q hq with z|z|z
   .exact .inr ⟨e,hideAll_none _ z,Hx _ z⟩
   .exact .inl z
   .exact .inr ⟨e,dy z.1,λhm=>z.2 (cv hm)⟩
 have l2:L2 (c.ext s.heap (bL.map Prod.fst)):=lc.l2 (Ls:=bL) rfl rfl rfl rfl (Cx.rk ho) (λb hb=>by refine aq (yP (C5:=C5) (C6:=C6) b hb) λt ht J=>?_;obtain rfl:=J;refine fR (Eg t ht) λps _ _ h1 _=>?_;exact⟨_,h1,rfl⟩) (λq hq=>Cx.rn (mem_map_of_mem hq) (F.inv q hq)) Eg hg
 have F1:=F.Cn (c':=c.ext s.heap (bL.map Prod.fst)) (X':=(iG (ak (aw 28)) L).X) rfl rfl (λa ha=>cv ha) (λa ha=>by
  rcases de (F.zx a ha)with h|h
  .exact absurd ha (P.hZ a h)
  .exact h) Gf
 refine @gh.out _ (zT l2 (I.le (by decide)) ok (by exact hY _ (by decide)) (by exact hY _ (by decide)) (by exact hY _ (by decide)) F1 λbP U F2=>kq _ _ bL ?_);exact Fs.B8 (H:=iG (ak (aw 28)) L) F P F2 Hx
open PySem.Sem (wp)
def Go(w:World)(s:Shared)(t:Thread)(U:Shared)(z:Thread):Prop:=∃n,schedN (denote table) PW w n (.single s t)= .running (.single U z)
theorem jI{z:Code->Sem Fin}{p:Program}{w:World}{m:Nat}:∀{n:Nat}{c c':Config},schedN z p w n c= .running c'->schedN z p w (n+m) c=schedN z p w m c'
 |0,c,c',h=>by have e:SRun.running c= .running c':=h;cases e;rw[zero_add]
 |n+1,c,c',h=>by
  rw[show n+1+m=n+m+1 by exact dG (aI 77328728766718224 [_,_] []) (aI 0xb112a11112ba110 [_,_] [])];simp only[schedN]at h⊢;cases hs:sstep z p w c with
  |go D=>rw[hs]at h;exact jI h
  |halt o s=>rw[hs]at h;cases h
theorem Go.trans{w:World}{s s₁ U:Shared}{t z D:Thread}(h:Go w s t s₁ z)(h':Go w s₁ z U D):Go w s t U D:=by obtain⟨n,hn⟩:=h;obtain⟨m,I⟩:=h';exact⟨n+m,by rw[jI hn];exact I⟩
theorem mJ{w:World}{nj:Nat}{ann:Option Value}:∀(n:Nat)(s:Shared)(t:Thread)(s₁:Shared)(z:Thread),s.asleep->topGo table PW w nj ann n s t=some (s₁,z)->
 Go w s t s₁ z/\s₁.heap.life=s.heap.life/\s₁.os=s.os/\∀b o,b<nj->b≠mainNs->b≠cStatics->ann≠some (.ref b)->s.heap.get? b=some o->s₁.heap.get? b=some o
 |0,s,t,s₁,z,_,h=>by
  obtain⟨rfl,rfl⟩:s=s₁/\t=z:=by simpa[topGo]using h
  exact⟨⟨0,rfl⟩,rfl,rfl,λ_ _ _ _ _ _ e=>e⟩
 |n+1,s,t,s₁,z,hr,h=>by
  unfold topGo at h;cases ht:through t with
  |true=>rw[ht]at h;exact ns h
  |false=>
   rw[ht]at h;cases D:stepOk nj ann t with
   |false=>rw[D]at h;exact ns h
   |true=>
    rw[D]at h;cases hs:step (denote table) PW w s t with
    |halt o U=>rw[hs]at h;exact ns h
    |go U I=>
     rw[hs]at h;obtain⟨hc,D⟩:=Bool.and_eq_true_iff.mp D;have hl:=step_life (denote table) PW w s U t I hs;refine gO (mJ n U I s₁ z (Shared.asleep_of_life hl hr) h) λJ l os fr=>?_;obtain⟨m,hm⟩:=J;have e:sstep (denote table) PW w (.single s t)= .go (.single U I):=by
      rcases sstep_single (denote table) PW w s t hc hr with e|e
      .rw[e,hs];rfl
      .rw[hs]at e;cases e
     refine⟨⟨m+1,by simp only[schedN,e];exact hm⟩,l.trans hl,os.trans (step_os_same hs (by revert D;cases t.cur<;>simp)),λb o h1 h2 h3 h4 Y=>fr b o h1 h2 h3 h4 ?_⟩;rw[step_heap (denote table) PW w s U t I hs];revert D;cases t.cur<;>intro D<;>try exact Y
     case update a _ f _=>
      have:b≠a:=by
       rintro rfl;simp only[or_eq_true,Nat.ble_eq,beq_iff_eq]at D;rcases D with((q|q)|q)|q
       .exact absurd h1 (Nat.not_lt.mpr q)
       .exact h2 q
       .exact h3 q
       .exact h4 q
      exact(Heap.get?_update_ne _ _ _ _ this).trans Y
     case alloc x _=>exact get?_push_of_some x Y
section
variable{tb:String->Option Builtin}{p:Program}{nj:Nat}{ann:Option Value}{B:List Frame}{K':α->Sem Fin}{H':Value->Sem Fin}{gd:Bool->Bool}{lv:List Value->List Value}{res:α->Flow}
theorem Dp{y:Sem Fin}{code:Code}{pos:Pos}{st:List Frame}:endAt st.length ⟨y,code,pos,st⟩=endAt 0 ⟨y,code,pos,[]⟩:=by unfold endAt;dsimp only;rw[(BEq.rfl:(st.length==st.length)=true)];rfl
theorem oY(hB:splitAtGen B=none):∀(n:Nat)(s:Shared)(t t':Thread)(f:Flow)(U:Shared)(c':Code)(p':Pos),Rel2 (λa=> .pure (.done (res a))) K' deadEnd H' gd lv B t t'->
 segRun tb p w nj ann B.length n s t=some (f,U,c',p')->∃a,res a=f/\∃m,topGo tb p w nj ann m s t'=some (U,⟨K' a,c',p',B⟩)
 |0,_,_,_,_,_,_,_,_,h=>by simp[segRun]at h
 |n+1,s,⟨Y,code,pos,st⟩,⟨D,OZ,pos',J⟩,f,U,c',p',R,h=>by
  refine eJ R ?_;clear R;intro e1 e2 R;dsimp only at e1 e2 R;subst e1 e2;unfold segRun at h;cases he:endAt B.length ⟨Y,code,pos,st⟩with
  |some g=>
   rw[he]at h;obtain⟨rfl,rfl,rfl,rfl⟩:g=f/\s=U/\code=c'/\pos=p':=by simpa using h
   rcases R with⟨rfl,rfl,x,rfl,rfl⟩|⟨rfl,F⟩
   .have he:=Dp.symm.trans he;cases x with
    |pure a=>exact⟨a,bg he,0,rfl⟩
    |_=>exact ns he
   .have l:=F.longer.1;have:((st.length==B.length)=false):=beq_eq_false_iff_ne.mpr (ne_of_gt l);simp only[endAt,this]at he;exact ns he
  |none=>
   rw[he]at h;cases hk:stepOk nj ann ⟨Y,code,pos,st⟩with
   |false=>rw[hk]at h;exact ns h
   |true=>
    rw[hk]at h;cases hs:step (denote tb) p w s ⟨Y,code,pos,st⟩with
    |halt o ay=>rw[hs]at h;exact ns h
    |go ay I=>
     rw[hs]at h;have key:stepOk nj ann ⟨D,code,pos,J⟩=true/\through ⟨D,code,pos,J⟩=false/\∃z,step (denote tb) p w s ⟨D,code,pos,J⟩= .go ay z/\Rel2 (λa=> .pure (.done (res a))) K' deadEnd H' gd lv B I z:=by
      rcases R with⟨rfl,rfl,x,rfl,rfl⟩|⟨rfl,F⟩
      .have hp:∀a,x≠ .pure a:=by rintro a rfl;simp[endAt,Sem.wrap]at he
       have hr:∀e,x≠ .raise e:=by rintro e rfl;obtain⟨heap,gens,drawn,toks,os⟩:=s;simp only[Sem.wrap,step]at hs;cases hs
       obtain⟨k1,k2⟩:=okOuter (K':=K') (H':=H') hp hr hk;exact⟨k1,k2,step_outer hB hp hs⟩
      .obtain⟨k1,k2⟩:=okInner hB F hk;exact⟨k1,k2,step_inner hB F hs⟩
     obtain⟨k1,k2,z,k3,R'⟩:=key;obtain⟨a,ha,m,hm⟩:=oY hB n ay I z f U c' p' R' h;exact⟨a,ha,m+1,by unfold topGo;rw[k2,k1,k3];exact hm⟩
end
theorem By{M:Model}{α:Type}{code:Code}{st:List Frame}{K:α->Sem Fin}{Q:α->Pos->Shared->Prop}{s s₁:Shared}{t z:Thread}(e:M.step s t= .go s₁ z)(h:∃U D a,Comes M s₁ z U ⟨K a,code,D,st⟩/\Q a D U):
 ∃U D a,Comes M s t U ⟨K a,code,D,st⟩/\Q a D U:=fR h λU D a hc hl=>⟨U,D,a,.step e hc,hl⟩
theorem ud{M:Model}{α:Type}{J:Ctx}{st:List Frame}(hf:J.Fits st){K:α->Sem Fin}{H:Value->Sem Fin}{gd:Bool->Bool}{lv:List Value->List Value}(t:Sem α):∀(Q:α->Pos->Shared->Prop)(p:Pos)(s:Shared),
 wp M J t Q (λ_ _ _=>False) p s->∃U D a,Comes M s ⟨t.wrap K H gd lv,J.code,p,st⟩ U ⟨K a,J.code,D,st⟩/\Q a D U:=by
 induction t with
 |pure a=>intro Q p s h;exact⟨s,p,a,.refl _ _,h⟩
 |raise e=>intro Q p s h;exact h.elim
 |unsupported _=>intro Q p s h;exact h.elim
 |finish _=>intro Q p s h;exact h.elim
 |register a k _=>intro Q p s h;exact h.elim
 |yield v g l k _=>intro Q p s h;exact h.elim
 |fork c k _=>intro Q p s h;exact h.elim
 |await a f d l k _=>intro Q p s h;exact h.elim
 |rule tag k z=>intro Q p s h;refine fR (z () Q p s h) λU D a hc hl=>?_;exact⟨U,D,a,.step (step_rule ..) hc,hl⟩
 | «at» Y k z=>intro Q p s h;refine fR (z () Q Y s h) λU D a hc hl=>?_;exact⟨U,D,a,.step (step_at ..) hc,hl⟩
 |load b part k z=>intro Q p s h;refine aq h ?_;clear h;intro o ho h;exact By (step_load _ _ _ _ _ _ _ ho) (z o Q p s h)
 |update b part f k z=>intro Q p s h;obtain⟨hb,h⟩:=h;refine fR (z () Q p _ h) λU D a hc hl=>?_;exact⟨U,D,a,.step (step_update _ _ _ _ _ _ _ _ hb) hc,hl⟩
 |loadIfAlive b k z=>intro Q p s h;exact By (step_loadIfAlive ..) (z _ Q p s h)
 |point l k z=>intro Q p s h;refine fR (z () Q p s h) λU D a hc hl=>?_;exact⟨U,D,a,.step (step_point ..) hc,hl⟩
 |alloc o k z=>intro Q p s h;exact By (step_alloc ..) (z _ Q p _ h)
 |fresh k z=>intro Q p s h;exact By (step_fresh ..) (z _ Q p _ h)
 |ask k z=>intro Q p s h;exact By (step_ask ..) (z _ Q p s h)
 |choose src n k z=>intro Q p s h;obtain⟨hn,h⟩:=h;exact By (step_choose _ _ _ _ _ _ _ hn) (z _ Q p _ h)
 |os q l k z=>intro Q p s h;exact By (step_os ..) (z _ Q p _ h)
 |call c h₀ g l k z=>intro Q p s h;refine cC h ?_;clear h;intro r s₁ hr h;refine JD (runs_reach hr _ (hf.enter c (λr=>(k r).wrap K H gd lv) h₀ (gd g) (lv l) p [])).comes λt' c' D PU I hx=>?_;obtain⟨rfl,rfl⟩:=hx;refine fR (z r Q p s₁ h) λU PV a hc hl=>?_;exact⟨U,PV,a,.step (step_call ..) (.trans I (.step (step_leaf_ret ..) hc)),hl⟩
 |handled own k z=>
  intro Q p s h;refine fR (z _ Q p s h) λU D a hc hl=>?_;refine⟨U,D,a,.step ?_ hc,hl⟩;show M.step s ⟨.handled own _,J.code,p,st⟩=_;rw[step_handled];cases own
  .rw[hf.handled];rfl
  .rw[hf.own];rfl
 |genState g k z=>intro Q p s h;refine aq h ?_;clear h;intro x hg h;exact By (step_genState _ _ _ _ _ _ hg) (z _ Q p s h)
 |newGen c k z=>intro Q p s h;exact By (step_newGen ..) (z _ Q p _ h)
 |resume g r l k z=>intro Q p s h;refine cC h ?_;clear h;intro res s₁ hw h;refine fR (z res Q p s₁ h) λU D a hc hl=>?_;exact⟨U,D,a,.trans (wakes_comes hf _ _ hw) hc,hl⟩
 |stack k z=>intro Q p s h;refine fR (z _ Q p s h) λU D a hc hl=>?_;refine⟨U,D,a,.step ?_ hc,hl⟩;show M.step s ⟨.stack _,J.code,p,st⟩=_;rw[hf.below];exact step_stack ..
 |thread k z=>intro Q p s h;exact By (step_thread ..) (z _ Q p s h)
theorem sk{D:Code->Sem Fin}{p:Program}{w:World}:∀(n:Nat){s U:Shared}{t t':Thread}{σ:Shared}{Y:Thread},σ.forget=s.forget->Y.forget=t.forget->σ.asleep->runNI D p w n s t= .running U t'->
 ∃BR G5,schedN D p w n (.single σ Y)= .running (.single BR G5)/\BR.forget=U.forget/\G5.forget=t'.forget/\BR.heap.life=σ.heap.life
 |0,s,U,t,t',σ,Y,hs,ht,hz,h=>by have e:Run.running s t= .running U t':=h;cases e;exact⟨σ,Y,rfl,hs,ht,rfl⟩
 |n+1,s,U,t,t',σ,Y,hs,ht,hz,h=>by
  simp only[runNI]at h;cases hi:stepI D p w s t with
  |halt o s₁=>simp only[hi]at h;cases h
  |go s₁ PM=>
   simp only[hi]at h;have hl:t.loud=false:=by
    cases q:t.loud with
    |false=>rfl
    |true=>rw[stepI_loud D p w q]at hi;cases hi
   rw[stepI_quiet D p w hl]at hi;have Qu:t.refused=false:=by
    cases q:t.refused with
    |false=>rfl
    |true=>obtain⟨PB,e⟩:=stepK_refused D p w (s:=s) q;rw[e]at hi;cases hi
   have hc:Y.calm=true:=by rw[<-Thread.calm_forget Y,ht,Thread.calm_forget,Thread.calm_eq,hl,Qu];rfl
   have z:=(stepK_forget D p w s t).trans (step_same D p w hs.symm ht.symm);rw[hi]at z;cases h2:step D p w σ Y with
   |halt o I=>rw[h2]at z;cases z
   |go I J=>
    rw[h2]at z;simp only[Step.forget,Step.go.injEq]at z;have e:sstep D p w (.single σ Y)= .go (.single I J):=by
     rcases sstep_single D p w σ Y hc hz with e|e
     .rw[e,h2];rfl
     .rw[h2]at e;cases e
    have OH:=step_life D p w σ I Y J h2;refine mf (sk n z.1.symm z.2.symm (Shared.asleep_of_life OH hz) h) λBR G5 h3 h4 h5 h6=>?_;exact⟨BR,G5,by simp only[schedN,e];exact h3,h4,h5,h6.trans OH⟩
theorem Pz{M:Model}{A:Around}{α:Type}{c:Prop} [Decidable c] {x y:Sem α}{Q:α->Shared->Prop}{E:Value->Shared->Prop}{s:Shared}(h:c)(k:wpAny M A x Q E s):wpAny M A (if c then x else y) Q E s:=by rw[if_pos h];exact k
theorem EJ{M:Model}{A:Around}{α:Type}{c:Prop} [Decidable c] {x y:Sem α}{Q:α->Shared->Prop}{E:Value->Shared->Prop}{s:Shared}(h:¬c)(k:wpAny M A y Q E s):wpAny M A (if c then x else y) Q E s:=by rw[if_neg h];exact k
noncomputable abbrev ir:=Int×Str×Nat×Nat×Pos×Pos
noncomputable def bY(O:Env)(pos:Pos)(x:ir):Sem Value×Sem Value:=
 (eval (.Constant (.int x.1) x.2.2.1 x.2.2.2.2.1) O,do let v<-eval (.Constant (.str x.2.1) x.2.2.2.1 x.2.2.2.2.2) O;standAt pos;pure v)
variable{pos:Pos}
noncomputable def kvsOf(l:List ir)(ts:List Tok):List (Int×Value):=zipWith (λx t=>(x.1,(.str x.2.1 t:Value))) l ts
theorem kV{l:List ir}{ts:List Tok}(h:ts.length=l.length):(kvsOf l ts).length=l.length:=by simp[kvsOf,h]
theorem g7:∀{l:List ir}{ts:List Tok},ts.length=l.length->(kvsOf l ts).map (·.1)=l.map (·.1)
 |[],ts,h=>by simp[kvsOf]
 |x::l,[],h=>by cases h
 |x::l,t::ts,h=>by have z:=g7 (l:=l) (ts:=ts) (by simpa using h);simp only[kvsOf,List.zipWith_cons_cons,map_cons]at z⊢;rw[z]
theorem pH{l D:List ir}{ts z:List Tok}(h:ts.length=l.length):kvsOf (l++D) (ts++z)=kvsOf l ts++kvsOf D z:=by unfold kvsOf;exact List.zipWith_append h.symm
theorem sF{x:ir}{Q:Value->Value->Shared->Prop}(h:∀a b,Q (.int x.1 a) (.str x.2.1 b) {s with toks:=s.toks+2}):
 wpAny (model PW w) A (bY O pos x).1 (λD s₁=>wpAny (model PW w) A (bY O pos x).2 (λz ay=>Q D z ay) E s₁) E s:=
 wpAny_Constant_int (env:=O) (i:=x.1) (k:=x.2.2.1) (pos:=x.2.2.2.2.1) (wpAny_bind (wpAny_Constant_str (wpAny_bind (wpAny_standAt (wpAny_pure (h _ _))))))
structure G1(w:World)(s:Shared)(l:List ir)(d:Addr)(U:Shared):Prop where
 d:d=s.heap.objs.size
 rest:U={s with heap:=U.heap,toks:=s.toks+3*l.length}
 size:U.heap.objs.size=s.heap.objs.size+1
 old:∀b o,s.heap.get? b=some o->U.heap.get? b=some o
 kvs:∃ts:List Tok,ts.length=l.length/\U.heap.DictOf (intKind PW w) s.heap.objs.size (kvsOf l ts)
theorem yS{l:List ir}(hl:15<l.length)(Ks:l.length<=100)(hn:(l.map (·.1)).Nodup){Q:Addr->Shared->Prop}(h:∀U,G1 w s l s.heap.objs.size U->Q s.heap.objs.size U):
 wpAny (model PW w) A (subDict (l.map (bY O pos))) Q E s:=by
 unfold subDict;refine wpAny_bind (wpAny_alloc ?_);refine wpAny_bind (wpAny_holding ?_);refine EJ (by rw[length_map];exact Pe (ao 0xa112f1210a112f1210 [_] [] hl)) ?_;refine wpAny_bind (wpAny_rule ?_)
 refine wpAny_bind (wpAny_forIn_list _
  (λrest _ U=>∃done:List ir,∃z:List ir,rest=z.map (bY O pos)/\l=done++z/\U={s with heap:=U.heap,toks:=s.toks+3*done.length}/\U.heap.objs.size=s.heap.objs.size+1/\
   (∀b o,s.heap.get? b=some o->U.heap.get? b=some o)/\∃ts:List Tok,ts.length=done.length/\U.heap.DictOf (intKind PW w) s.heap.objs.size (kvsOf done ts))
  _ ?_ ?_ _ _ ⟨[],l,rfl,rfl,rfl,by simp,λb o e=>get?_push_of_some _ e,[],rfl,Heap.DictOf.new _⟩)
 .intro x rest b U w9;obtain⟨done,z,hr,I,hs,hz,ho,ts,ht,hD⟩:=w9;cases z with
  |nil=>cases hr
  |cons y z=>
   simp only[map_cons,List.cons.injEq]at hr;obtain⟨rfl,rfl⟩:=hr;have hlen:done.length<=100:=by have:=congrArg length I;simp at this;exact aM 0x6422c0c112b1a106422a0 [_,_,_] [] (ju this) Ks
   refine wpAny_bind (wpAny_mono (sF (Q:=λkv vv ay=>wpAny (model PW w) A (dictSet s.heap.objs.size kv vv) (λ_ D=>∃done:List ir,∃td:List ir,z.map (bY O pos)=td.map (bY O pos)/\l=done++td/\D={s with heap:=D.heap,toks:=s.toks+3*done.length}/\D.heap.objs.size=s.heap.objs.size+1/\
    (∀b o,s.heap.get? b=some o->D.heap.get? b=some o)/\∃ts:List Tok,ts.length=done.length/\D.heap.DictOf (intKind PW w) s.heap.objs.size (kvsOf done ts)) E ay) λa b=>?_)
    (λkv s₁ nI=>wpAny_bind (wpAny_holding (wpAny_mono nI (λvv ay Y=>wpAny_bind (wpAny_holding (wpAny_mono Y (λ_ D J=>wpAny_pure J) λ_ _ e=>e))) λ_ _ e=>e))) λ_ _ e=>e)
   refine wpAny_dictSet_pairs (knd:=intKind PW w) (kvs:=kvsOf done ts) (k:=y.1) (hsz:=by rw[kV ht,sizeLine_eq];exact ao 0x6422a0100000072a0 [_] [] hlen) (intKind_is _ _ _ _) hD λh' OS sb=>?_;refine⟨done++[y],z,rfl,by rw[I];simp,?_,sb.1.trans hz,λb o e=>(sb.2 b (ne_of_lt (lt_size e))).trans (ho b o e),ts++[b],by simp[ht],?_⟩
   .rw[hs];simp only[length_append,length_cons,length_nil,mul_add,add_assoc]
   .have cA:y.1∉(kvsOf done ts).map (·.1):=by rw[g7 ht];intro hm;rw[I,map_append,nodup_append]at hn;exact hn.2.2 _ hm _ (by simp) rfl
    have e:stored (kvsOf done ts) y.1 (.str y.2.1 b)=kvsOf (done++[y]) (ts++[b]):=by
     rw[pH ht];unfold stored;rw[if_neg]
     .rfl
     .simp only[any_eq_true,decide_eq_true_eq,not_exists,not_and];exact λq hq e=>cA (e▸mem_map_of_mem hq)
    rw[e]at OS;exact OS
 .intro b U w9;obtain⟨done,z,hr,I,hs,hz,ho,ts,ht,hD⟩:=w9;cases z with
  |cons y z=>cases hr
  |nil=>rw[append_nil]at I;subst I;exact wpAny_pure (wpAny_pure (h U ⟨rfl,hs,hz,ho,ts,ht,hD⟩))
theorem pQ:∀(l:List ir){s:Shared}(Q:List (Value×Value)->Shared->Prop),
 (∀z:List (Tok×Tok),z.length=l.length->Q (zipWith (λx t=>((.int x.1 t.1,.str x.2.1 t.2):Value×Value)) l z) {s with toks:=s.toks+2*l.length})->wpAny (model PW w) A (evalPairs (l.map (bY O pos))) Q E s
 |[],s,Q,h=>evalPairs_nil (h [] rfl)
 |x::l,s,Q,h=>by rw[map_cons];refine evalPairs_cons (sF λa b=>?_);refine pQ l _ λz hl=>?_;have:=h ((a,b)::z) (by simp[hl]);simp only[length_cons,mul_add]at this;show Q _ {s with toks:=s.toks+2+2*l.length};rw[add_assoc,add_comm 2];exact this
theorem kD:∀(l:List ir)(z:List (Tok×Tok)),z.length=l.length->Carries (intKind PW w) (zipWith (λx t=>((.int x.1 t.1,.str x.2.1 t.2):Value×Value)) l z) (kvsOf l (z.map (·.2)))
 |[],_,_=>trivial
 |x::l,[],h=>by cases h
 |x::l,t::z,h=>⟨intKind_is _ _ _ _,rfl,kD l z (by simpa using h)⟩
theorem sO{acc:List (Int×Value)}:∀{kvs:List (Int×Value)},((acc++kvs).map (·.1)).Nodup->merged acc kvs=acc++kvs:=λ{kvs}h=>merged_append_of_fresh acc kvs h
theorem sub_short{l:List ir}(hl:l.length<=15)(hn:(l.map (·.1)).Nodup){Q:Addr->Shared->Prop}(h:∀U,G1 w s l s.heap.objs.size U->Q s.heap.objs.size U):
 wpAny (model PW w) A (subDict (l.map (bY O pos))) Q E s:=by
 refine wpAny_subDict (knd:=intKind PW w) (by rw[length_map];exact hl) (pQ l _ λD ht=>?_);refine⟨_,kD l D ht,Heap.DictOf.new _,λh' J I=>?_⟩;have z:(D.map (·.2)).length=l.length:=by simp[ht]
 rw[sO (acc:=[]) (by rw[nil_append,g7 z];exact hn),nil_append]at J;refine h _ ⟨rfl,?_,I.1.trans (size_push ..),λb o e=>(I.2 b (ne_of_lt (lt_size e))).trans (get?_push_of_some _ e),D.map (·.2),z,J⟩;simp only[List.length_zipWith,ht,min_self];rw[show s.toks+3*l.length=s.toks+2*l.length+l.length by exact dG (aI 0xbb213a11b313a10 [_,_] []) (aI 0xb313a1bb213a110 [_,_] [])]
theorem xf{d:Addr}{kvs:List (Int×Value)}{k:Int}{I v:Value}{Q:Unit->Shared->Prop}(z:(intKind PW w).is k I=true)(hm:s.heap.DictOf (intKind PW w) d kvs)(cA:k∉kvs.map (·.1))
 (hQ:∀h',h'.DictOf (intKind PW w) d (kvs++[(k,v)])->Heap.SameBut d s.heap h'->Q () {s with heap:=h'})(hsz:kvs.length<=100000):
 wpAny (model PW w) A (dictPut d ((intKind PW w).hash k) I v) Q E s:=by
 refine jT hm λo es ep ho hc Y hk hp hn=>?_;clear hm
 have QT:es.size<=sizeLine:=by have e1:=hp.length;have e2:es.toList.length=es.size:=by simp
                               rw[sizeLine_eq];exact cU 0x186a052c0cb0ba0100000072a0 [_,_,_] [] (ju e2) (dX e1) hsz
 unfold dictPut;refine wpAny_bind (wpAny_dictFind_of z ho Y hk ?_);have J:(es.findIdx? λe=>(intKind PW w).is k e.key)=kvs.findIdx? λkv=>decide (kv.1=k):=by rw[<-hp.findIdx k];obtain⟨l⟩:=es;simp
 have D:(es.findIdx? λe=>(intKind PW w).is k e.key)=none:=by rw[J,List.findIdx?_eq_none_iff];intro kv F7;rw[decide_eq_false_iff_not];exact λe=>cA (e▸mem_map_of_mem F7)
 rw[D];refine wpAny_updateDictKeys (hz:=QT) ho Y (hQ _ ⟨_,_,ep+1,Heap.get?_update_self _ ho (Obj.isFreed_of_dict (Obj.data_mapDictKeys Y _)),hc.mapDictKeys _,Obj.data_mapDictKeys Y _,hk.push z _,?_,?_⟩ (Heap.SameBut.update ..))
 .have:=hp.append z ((intKind PW w).hash k) v;obtain⟨l⟩:=es;simpa using this
 .rw[map_append,nodup_append];refine⟨hn,by simp,?_⟩;intro a ha b hb;simp only[map_cons,map_nil,mem_singleton]at hb;subst hb;exact λe=>cA (e▸ha)
theorem uG{d m:Addr}{acc more:List (Int×Value)}{Q:Unit->Shared->Prop}(Ge:d≠m)(L9:(m==sysModules)=false)(hd:s.heap.DictOf (intKind PW w) d acc)(ho:s.heap.DictOf (intKind PW w) m more)(h0:acc≠[])
 (hn:((acc++more).map (·.1)).Nodup)(hsz:(acc++more).length<=100000)
 (hQ:∀h',h'.DictOf (intKind PW w) d (acc++more)->Heap.SameBut d s.heap h'->Q () {s with heap:=h'}):
 wpAny (model PW w) A (mergeMapping d (.ref m) false) Q E s:=by
 refine jT (id hd) λod MF Sq Hr s6 Mo Kt Kp rM=>?_;refine jT (id ho) λoo z Sp FX pK I QM OC CV=>?_;have hlen:more.length=z.size:=by rw[<-OC.length];simp
 have jQ:MF.isEmpty=false:=by
  have:=Kp.length;have h1:0<acc.length:=List.length_pos_iff.mpr h0;cases q:MF.isEmpty with
  |false=>rfl
  |true=>have:MF= #[]:=Array.isEmpty_iff.mp q;subst this;simp at this;rw[<-Kp.length]at h1;simp at h1
 unfold mergeMapping;refine wpAny_bind (wpAny_isInstance (T:="dict") (U:="dict") (b:=true) ho.typeIs isSubtype_dict_dict ?_);refine Pz rfl ?_;refine wpAny_bind (wpAny_specialOf ho.typeIs F.slot_dict_iter.lookup (wpAny_bind (wpAny_pure ?_)));rw[show(some (Value.builtin "dict.__iter__")==some (Value.builtin "dict.__iter__"))=true from by decide+kernel];dsimp only;refine EJ (by rw[L9];exact Bool.false_ne_true) ?_;refine wpAny_bind (wpAny_dictEntries Hr Mo ?_);refine EJ (by rw[jQ];exact Bool.false_ne_true) ?_;refine wpAny_bind (wpAny_dictEntries FX I ?_);refine wpAny_bind (wpAny_dictEpoch FX I ?_)
 refine wpAny_bind (wpAny_forIn_list _
  (λrest _ U=>∃h' i,U={s with heap:=h'}/\rest=range' i (z.size-i)/\i<=z.size/\h'.DictOf (intKind PW w) d (acc++more.take i)/\h'.get? m=some oo/\Heap.SameBut d s.heap h')
  _ ?_ ?_ _ _ ⟨s.heap,0,rfl,by rw[Nat.sub_zero,List.range_eq_range'],zero_le _,by simpa using hd,FX,Heap.SameBut.refl _ _⟩)
 .intro x rest b U w9;refine Dt w9 λh' i gD hr hi uO Y yq=>?_;clear w9;obtain rfl:=gD;have D:i<z.size:=by
   rcases lt_or_ge i z.size with h|h
   .exact h
   .rw[Nat.sub_eq_zero_of_le h]at hr;simp at hr
  obtain⟨rfl,IX⟩:x=i/\rest=range' (i+1) (z.size-(i+1)):=by
   have e:z.size-i=(z.size-(i+1))+1:=by exact dG (aM 0x112c1b1d0dca10112b1a0 [_,_,_,_] [] (dE (ao 760521755552 [_,_] [] D)) eC) (aM 0xcb1d0d112c1a10b112a10 [_,_,_,_] [] (dE (ao 0xb112a10b112a10 [_,_] [] D)) eC)
   rw[e,List.range'_succ]at hr;injection hr with h1 h2
   exact⟨h1,h2⟩
  refine wpAny_bind (wpAny_dictEntries Y I ?_);rw[Array.getElem?_eq_getElem D];have Qh:x<more.length:=by rw[hlen];exact D
  obtain⟨k,v⟩:Int×Value:=more[x];have F7:more[x]? =some more[x]:=getElem?_eq_getElem Qh;generalize more[x]=kv at F7;obtain⟨k,v⟩:=kv;obtain⟨CX,LL⟩:=OC.get? (e:=z[x]) (by simp[D]) F7;refine aq (QM z[x] (Array.getElem_mem D)) λk' Ef Jf=>?_;obtain rfl:k'=k:=(intKind PW w).inj _ _ _ Ef CX;have Hp:more.take (x+1)=more.take x++[(k',v)]:=by rw[take_add_one,F7];rfl
  have cA:k'∉(acc++more.take x).map (·.1):=by
   have h2:((acc++more.take (x+1)).map (·.1)).Nodup:=by have:(acc++more.take (x+1)).Sublist (acc++more):=(List.Sublist.refl acc).append (List.take_sublist _ _);exact(this.map _).nodup hn
   rw[Hp,<-append_assoc,map_append,nodup_append]at h2;exact λhm=>h2.2.2 _ hm _ (by simp) rfl
  dsimp only;rw[Jf,LL];refine wpAny_bind (wpAny_holding ?_);refine EJ Bool.false_ne_true ?_;refine xf Ef uO cA (λKH Ms IV=>?_) (by
   have:(acc++more.take x).length<=(acc++more).length:=by simp only[length_append,length_take];exact ao 872090286608 [_,_,_] [] Bx
   exact aM 0x186a052b0ba0186a052a0 [_,_] [] this hsz)
  have J:KH.get? m=some oo:=(IV.2 m (Ne.symm Ge)).trans Y;refine wpAny_bind (wpAny_dictEpoch J I ?_);refine EJ (by simp) ?_;exact wpAny_pure ⟨KH,x+1,rfl,IX,D,by rw[Hp,<-append_assoc];exact Ms,J,yq.trans IV⟩
 .intro b U w9;refine Dt w9 λh' i gD hr hi uO Y yq=>?_;clear w9;obtain rfl:=gD;have Je:i=z.size:=by
   rcases lt_or_ge i z.size with h|h
   .have e:z.size-i=(z.size-(i+1))+1:=by exact dG (aM 0x112c1b1d0dca10112b1a0 [_,_,_,_] [] (dE (ao 760521755552 [_,_] [] h)) eC) (aM 0xcb1d0d112c1a10b112a10 [_,_,_,_] [] (dE (ao 0xb112a10b112a10 [_,_] [] h)) eC)
    rw[e,List.range'_succ]at hr;exact nomatch hr
   .exact Nat.le_antisymm hi h
  refine wpAny_pure (hQ h' ?_ yq);rw[Je,<-hlen,List.take_length]at uO;exact uO
noncomputable abbrev eB:=Sem Value×Sem Value
noncomputable def fO(run:List eB)(main:Option Addr):Sem (Option Addr):=do
 if run.isEmpty then return main
 match main with
 |none=>return some (<-subDict run)
 |some d=>
  let sub<-holding [.ref d] (subDict run)
  (holding [.ref d,.ref sub] (mergeMapping d (.ref sub) false)).onRaise λx=>do let _<-holding [.ref d,x] (runValue (.builtin "proto.let_go" {}))
  return some d
noncomputable abbrev tX:=Option Addr×List eB
theorem nN(f:(Option (Sem Value)×Sem Value)->tX->Sem (ForInStep tX))
 (D:∀(p:eB)(main:Option Addr)(run:List eB),run.length+1<17->f (some p.1,p.2) (main,run)=pure (.yield (main,run++[p])))
 (z:∀(p:eB)(main:Option Addr)(run:List eB),run.length+1=17->f (some p.1,p.2) (main,run)=(do let m<-fO (run++[p]) main;pure (.yield (m,[])))):
 ∀(items run:List eB)(main:Option Addr)(rest:List (Option (Sem Value)×Sem Value)),run.length+items.length=17->items≠[]->
  forIn (items.map (λp=>(some p.1,p.2))++rest) ((main,run):tX) f=(do let m<-fO (run++items) main;forIn rest ((m,[]):tX) f)
 |[],_,_,_,_,h=>absurd rfl h
 |[p],run,main,rest,hl,_=>by rw[map_cons,map_nil,cons_append,nil_append,forIn_cons,z p main run (by simpa using hl),bind_assoc];simp only[pure_bind]
 |p::q::items,run,main,rest,hl,_=>by rw[map_cons,cons_append,forIn_cons,D p main run (by simp at hl;exact ao 0x1122112112b11a101122112112a110 [_,_] [] (dX hl)),pure_bind];have:=nN f D z (q::items) (run++[p]) main rest (by simp at hl⊢;exact dG (ao 0x1122112112b11a101122112b1112a110 [_,_] [] (dX hl)) (ao 0x112112b11a111220112b1112a1111220 [_,_] [] (ju hl))) (by simp);rw[append_assoc]at this;exact this
theorem wh(f:(Option (Sem Value)×Sem Value)->tX->Sem (ForInStep tX))
 (z:∀(p:eB)(main:Option Addr)(run:List eB),run.length+1<17->f (some p.1,p.2) (main,run)=pure (.yield (main,run++[p]))):
 ∀(items run:List eB)(main:Option Addr),run.length+items.length<17->forIn (items.map λp=>(some p.1,p.2)) ((main,run):tX) f=pure (main,run++items)
 |[],run,main,_=>by simp
 |p::rest,run,main,h=>by rw[map_cons,forIn_cons,z p main run (by simp at h;exact ao 0x1122112112b1a1101122112112a110 [_,_] [] h),pure_bind];have:=wh f z rest (run++[p]) main (by simp at h⊢;exact ao 0x1122112112b1a1101122112b112a1110 [_,_] [] h);simpa using this
structure jh(w:World)(af:Shared)(l:List ir)(m:Nat)(s:Shared):Prop where
 rest:s={af with heap:=s.heap,toks:=af.toks+3*l.length}
 size:s.heap.objs.size=af.heap.objs.size+m
 old:∀b o,af.heap.get? b=some o->s.heap.get? b=some o
 kvs:∃ts:List Tok,ts.length=l.length/\s.heap.DictOf (intKind PW w) af.heap.objs.size (kvsOf l ts)
theorem vy{l:List ir}(hl:l.length=17\/l.length<=15)(hn:(l.map (·.1)).Nodup){Q:Addr->Shared->Prop}(h:∀U,G1 w s l s.heap.objs.size U->Q s.heap.objs.size U):
 wpAny (model PW w) A (subDict (l.map (bY O pos))) Q E s:=by
 rcases hl with hl|hl
 .exact yS (by exact ao 0xa11220a112f1210 [_] [] (ju hl)) (by exact ao 18840417477280 [_] [] (dX hl)) hn h
 .exact sub_short hl hn h
theorem xS{l:List ir}(hl:l.length=17\/l.length<=15)(z:l≠[])(hn:(l.map (·.1)).Nodup){Q:Option Addr->Shared->Prop}(h:∀U,jh w s l 1 U->Q (some s.heap.objs.size) U):
 wpAny (model PW w) A (fO (l.map (bY O pos)) none) Q E s:=by
 unfold fO;refine EJ (by simpa using z) ?_;refine wpAny_bind (vy hl hn λU D=>wpAny_pure (h U ⟨D.rest,D.size,D.old,D.kvs⟩))
theorem nP{done l:List ir}{m:Nat}(hl:l.length=17\/l.length<=15)(h0:l≠[])(Mr:done≠[])(hn:((done++l).map (·.1)).Nodup)(hsz:(done++l).length<=100000)(Y:1<af.heap.objs.size)(D:jh w af done m s)
 {Q:Option Addr->Shared->Prop}(hm:0<m)(h:∀U,jh w af (done++l) (m+1) U->Q (some af.heap.objs.size) U):
 wpAny (model PW w) A (fO (l.map (bY O pos)) (some af.heap.objs.size)) Q E s:=by
 unfold fO;refine EJ (by simpa using h0) ?_;have z:=hn;rw[map_append,nodup_append]at z;refine wpAny_bind (wpAny_holding (vy hl z.2.1 λs₁ S=>?_));refine aq D.kvs λts ht hD=>?_;refine aq S.kvs λI J hS=>?_;have jQ:af.heap.objs.size≠s.heap.objs.size:=by rw[D.size];exact N0 (ao 0xb1120210ba1112a10 [_,_] [] hm)
 have Rc:s₁.heap.DictOf (intKind PW w) af.heap.objs.size (kvsOf done ts):=by refine fR hD λo es ep h1 r=>?_;clear hD;exact⟨o,es,ep,S.old _ _ h1,r⟩
 have hk:(kvsOf done ts++kvsOf l I)=kvsOf (done++l) (ts++I):=(pH ht).symm;refine wpAny_bind (wpAny_onRaise (wpAny_holding (uG (acc:=kvsOf done ts) (more:=kvsOf l I) jQ ?_ Rc hS ?_ ?_ ?_ λh' hM sb=>wpAny_pure (h _ ⟨?_,?_,λb o e=>?_,ts++I,by simp[ht,J],?_⟩))))
 .rw[D.size];have:sysModules=1:=rfl;rw[this];exact beq_eq_false_iff_ne.mpr (ne_of_gt (by have:=D.size;show 1<af.heap.objs.size+m;exact ao 0xa11211210ba111211210 [_,_] [] Y))
 .intro e;have:=kV ht;rw[e]at this;exact Mr (List.length_eq_zero_iff.mp this.symm)
 .rw[hk,g7 (by simp[ht,J])];exact hn
 .rw[hk,kV (by simp[ht,J])];exact hsz
 .have e1:=D.rest;have e2:=S.rest;rw[e2];show({s with heap:=h',toks:=s.toks+3*l.length}:Shared)=_;rw[e1];simp only[length_append,mul_add,add_assoc]
 .show h'.objs.size=_;rw[sb.1,S.size,D.size];exact dG (aI 77319448954642704 [_,_] []) (aI 77328726083967504 [_,_] [])
 .exact(sb.2 b (ne_of_lt (lt_size e))).trans (S.old _ _ (D.old _ _ e))
 .rw[<-hk];exact hM
theorem wA{f:(Option (Sem Value)×Sem Value)->tX->Sem (ForInStep tX)}
 (h1:∀(p:eB)(main:Option Addr)(run:List eB),run.length+1<17->f (some p.1,p.2) (main,run)=pure (.yield (main,run++[p])))
 (h2:∀(p:eB)(main:Option Addr)(run:List eB),run.length+1=17->f (some p.1,p.2) (main,run)=(do let m<-fO (run++[p]) main;pure (.yield (m,[]))))
 {last:List ir}(I:last.length<=15)(Y:1<af.heap.objs.size):∀(z:List (List ir))(done:List ir)(m:Nat)(s:Shared),(∀ch∈z,ch.length=17)->done≠[]->0<m->((done++z.flatten++last).map (·.1)).Nodup->(done++z.flatten++last).length<=100000->
 jh w af done m s->∀{Q:tX->Shared->Prop},(∀U,jh w af (done++z.flatten) (m+z.length) U->Q (some af.heap.objs.size,last.map (bY O pos)) U)->
 wpAny (model PW w) A (forIn ((z.flatten++last).map λx=>(some (bY O pos x).1,(bY O pos x).2)) ((some af.heap.objs.size,[]):tX) f) Q E s
 |[],done,m,s,_,J,hm,hn,hsz,D,Q,h=>by
  have e:(([]:List (List ir)).flatten++last).map (λx=>((some (bY O pos x).1,(bY O pos x).2):Option (Sem Value)×Sem Value))=(last.map (bY O pos)).map λp=>(some p.1,p.2):=by rw[flatten_nil,nil_append,map_map];rfl
  rw[e,wh f h1 _ [] _ (by simp;exact ao 0xf12a01122112a10 [_] [] I),nil_append];exact wpAny_pure (h s (by simpa using D))
 |ch::z,done,m,s,yu,J,hm,hn,hsz,D,Q,h=>by
  have hc:=yu ch (.head _)
  have e:((ch::z).flatten++last).map (λx=>((some (bY O pos x).1,(bY O pos x).2):Option (Sem Value)×Sem Value))=
   (ch.map (bY O pos)).map (λp=>(some p.1,p.2))++(z.flatten++last).map (λx=>(some (bY O pos x).1,(bY O pos x).2)):=by
   rw[flatten_cons,append_assoc,map_append,map_map];rfl
  have jQ:ch≠[]:=by intro q;rw[q]at hc;cases hc
  rw[e,nN f h1 h2 _ [] _ _ (by simp[hc]) (by simpa using jQ),nil_append];have ea:done++(ch::z).flatten++last=done++ch++z.flatten++last:=by simp
  rw[ea]at hn hsz;refine wpAny_bind (nP (.inl hc) jQ J ?_ ?_ Y D hm λU D'=>?_)
  .rw[append_assoc,map_append,nodup_append]at hn;exact hn.1
  .simp only[length_append]at hsz⊢;exact ao 0x186a052dcba1110186a052ba10 [_,_,_,_] [] hsz
  .refine wA h1 h2 I Y z (done++ch) (m+1) U (λc hc=>yu c (.tail _ hc)) (by simp[J]) (by exact aI 18872372691472 [_] []) hn hsz D' λcP RO=>h cP ?_;have ec:done++(ch::z).flatten=done++ch++z.flatten:=by simp
   rw[ec,length_cons,show m+(z.length+1)=m+1+z.length by exact dG (aI 0xb112a11112b1a10 [_,_] []) (aI 77319451637358864 [_,_] [])];exact RO
noncomputable def O1:Option Expr->Option (Int×Nat×Pos)
 |some (.Constant (.int i) k p)=>some (i,k,p)
 |_=>none
noncomputable def O0:Expr->Option (Str×Nat×Pos)
 | .Constant (.str t) k p=>some (t,k,p)
 |_=>none
theorem GP{k:Option Expr}{a:Int×Nat×Pos}:O1 k=some a->k=some (.Constant (.int a.1) a.2.1 a.2.2):=by
 cases k with
 |none=>intro h;exact ns h
 |some e=>
  cases e<;>first|exact ns|skip
  rename_i c _ _;cases c<;>first|exact ns|(intro h;obtain rfl:=bg h;rfl)
theorem GO{e:Expr}{b:Str×Nat×Pos}:O0 e=some b->e= .Constant (.str b.1) b.2.1 b.2.2:=by
 cases e<;>first|exact ns|skip
 rename_i c _ _;cases c<;>first|exact ns|(intro h;obtain rfl:=bg h;rfl)
noncomputable def oF:List (Option Expr)->List Expr->Option (List ir)
 |[],_=>some []
 |k::ks,vs=>(O1 k).bind λa=>vs.head?.bind λv=>(O0 v).bind λb=>(oF ks vs.tail).map ((a.1,b.1,a.2.1,b.2.1,a.2.2,b.2.2):: ·)
theorem pg{k:Option Expr}{ks:List (Option Expr)}{vs:List Expr}{l:List ir}(h:oF (k::ks) vs=some l):∃x r t,k=some (.Constant (.int x.1) x.2.2.1 x.2.2.2.2.1)/\vs= .Constant (.str x.2.1) x.2.2.2.1 x.2.2.2.2.2::r/\oF ks r=some t/\l=x::t:=by
 refine aq (bind_eq_some_iff.mp h) λa ha h=>?_;refine aq (bind_eq_some_iff.mp h) λv D h=>?_;refine aq (bind_eq_some_iff.mp h) λb hb h=>?_;refine aq (mA h) λt ht z=>?_;obtain rfl:=z;cases vs with
 |nil=>exact ns D
 |cons u r=>obtain rfl:=bg D;exact⟨(a.1,b.1,a.2.1,b.2.1,a.2.2,b.2.2),r,t,GP ha,by rw[GO hb],ht,rfl⟩
theorem su{O:Env}{pos:Pos}:∀{ks:List (Option Expr)}{vs:List Expr}{l:List ir},oF ks vs=some l->
 (evalEachOpt ks O).zip ((evalEach vs O).map λv=>do let x<-v;standAt pos;pure x)=l.map λx=>(some (bY O pos x).1,(bY O pos x).2)
 |[],vs,l,h=>by obtain rfl:=bg h;rfl
 |k::ks,vs,l,h=>by refine k8 (pg h) λx r t I D ht z=>?_;obtain rfl:=I;obtain rfl:=D;obtain rfl:=z;have:=su (O:=O) (pos:=pos) ht;exact congrArg (List.cons _) this
noncomputable def ry:Nat->List ir->List (List ir)
 |0,_=>[]
 |n+1,l=>l.take 17::ry n (l.drop 17)
theorem AV{n:Nat}{l:List ir}:ry (n+1) l=l.take 17::ry n (l.drop 17):=rfl
theorem GB{l:List ir}:ry 0 l=[]:=rfl
theorem qf:∀(n:Nat)(l:List ir),(ry n l).flatten++l.drop (17*n)=l
 |0,l=>by simp[GB]
 |n+1,l=>by have:=qf n (l.drop 17);rw[drop_drop,show 17+17*n=17*(n+1) by exact dG (aI 0x112a11123a1123112210 [_] []) (aI 0xa112311221112a111230 [_] [])]at this;rw[AV,flatten_cons,append_assoc,this,take_append_drop]
theorem tM:∀(n:Nat)(l:List ir),17*n<=l.length->∀z∈ry n l,z.length=17
 |0,l,_,z,h=>by cases h
 |n+1,l,hl,z,h=>by
  rcases dg h with rfl|h
  .rw[length_take];exact dG (ao 18840412037792 [_] [] yo) (ao 0xa11220a11220 [_] [] (G6 (ao 0xa112b111230a11220 [_,_] [] hl)))
  .exact tM n (l.drop 17) (by rw[length_drop];exact aM 0x1122b1c0c112a111230ba11230 [_,_,_] [] hl eC) z h
theorem qe:∀(n:Nat)(l:List ir),(ry n l).length=n
 |0,_=>rfl
 |n+1,l=>by rw[AV,length_cons,qe]
theorem display{l:List ir}{n:Nat}(h1:17*(n+1)<l.length)(h2:l.length<=17*(n+1)+15)(hsz:l.length<=100000)(hn:(l.map (·.1)).Nodup)(OA:1<s.heap.objs.size){Q:Value->Shared->Prop}
 (h:∀U,jh w s l (n+2) U->Q (.ref s.heap.objs.size) U):
 wpAny (model PW w) A (dictDisplay (l.map λx=>(some (bY O pos x).1,(bY O pos x).2))) Q E s:=by
 have el:=take_append_drop 17 l;have ec:=qf n (l.drop 17);rw[drop_drop,show 17+17*n=17*(n+1) by exact dG (aI 0x112a11123a1123112210 [_] []) (aI 0xa112311221112a111230 [_] [])]at ec;have hf:(l.take 17).length=17:=by rw[length_take];exact dG (ao 18840412037792 [_] [] yo) (ao 0xa11220a11220 [_] [] (G6 (ao 0xa112112b1112310a11220 [_,_] [] h1)))
 have J:(l.drop (17*(n+1))).length<=15:=by rw[length_drop];exact aM 0xf12112b111231c0c112b11123a10f12a0 [_,_,_] [] (dE (ao 0xb112112a1112310b112a111230 [_,_] [] h1)) h2
 have Y:l.drop (17*(n+1))≠[]:=by intro q;have:=congrArg length q;rw[length_drop,length_nil]at this;exact Hb (cU 0x112b11123a1c0c112112b111231002a0021120 [_,_,_] [] (dX this) h1 eC)
 have I:l.take 17≠[]:=by intro q;rw[q]at hf;cases hf
 have ea:l.take 17++(ry n (l.drop 17)).flatten++l.drop (17*(n+1))=l:=by rw[append_assoc,ec,el]
 have yu:=tM n (l.drop 17) (by rw[length_drop];exact aM 0x1122b1c0c112112a1112310ba11230 [_,_,_] [] h1 eC);have yr:=qe n (l.drop 17);generalize l.take 17=a at*;generalize ry n (l.drop 17)=cs at*;generalize l.drop (17*(n+1))=z at*;subst yr;unfold dictDisplay;dsimp only;change wpAny (model PW w) A (forIn _ ((none,[]):tX) _>>=λ(r:tX)=>fO r.2 r.1>>=λo=>_) Q E s
 have e:l.map (λx=>((some (bY O pos x).1,(bY O pos x).2):Option (Sem Value)×Sem Value))=
  (a.map (bY O pos)).map (λp=>(some p.1,p.2))++(cs.flatten++z).map (λx=>(some (bY O pos x).1,(bY O pos x).2)):=by
  rw[<-ea,append_assoc,map_append,map_map];rfl
 rw[e]
 have k1:∀(f:(Option (Sem Value)×Sem Value)->tX->Sem (ForInStep tX))(h1:∀(p:eB)(main:Option Addr)(run:List eB),run.length+1<17->f (some p.1,p.2) (main,run)=pure (.yield (main,run++[p])))
  (h2:∀(p:eB)(main:Option Addr)(run:List eB),run.length+1=17->f (some p.1,p.2) (main,run)=(do let m<-fO (run++[p]) main;pure (.yield (m,[]))))(k:tX->Sem Value),
  (∀U:Shared,jh w s l (cs.length+2) U->wpAny (model PW w) A (k (some s.heap.objs.size,[])) Q E U)->(∀r,k r=fO r.2 r.1>>=λo=>k (o,[]))->
  wpAny (model PW w) A (forIn ((a.map (bY O pos)).map (λp=>(some p.1,p.2))++(cs.flatten++z).map (λx=>(some (bY O pos x).1,(bY O pos x).2))) ((none,[]):tX) f>>=k) Q E s:=by
  intro f g1 g2 k hk BG;rw[nN f g1 g2 _ [] none _ (by simp[hf]) (by simpa using I),nil_append,bind_assoc];have ua:=hn;rw[<-ea,append_assoc,map_append,nodup_append]at ua;refine wpAny_bind (xS (.inl hf) I ua.1 λs₁ NS=>wpAny_bind ?_);refine wA g1 g2 J OA cs a 1 s₁ yu I (by exact aI 73569272336 [] []) (by rw[ea];exact hn) (by rw[ea];exact hsz) NS λay NR=>?_;rw[BG];refine wpAny_bind (nP (.inr J) Y (by simp[I]) (by rw[ea];exact hn) (by rw[ea];exact hsz) OA NR (by exact aI 0xa11211120210 [_] []) λbB J5=>hk bB ?_);rw[ea,show 1+cs.length+1=cs.length+2 by exact dG (aI 0x212a1112a112110 [_] []) (aI 77301242587589136 [_] [])]at J5;exact J5
 refine k1 _ (λp main run hr=>?_) (λp main run hr=>?_) _ (λU D=>?_) (λr=>?_)
 .have I:((run++[(p.1,p.2)]).length==17)=false:=by simp;exact N0 (ao 0x1122112112a1101022112a10 [_] [] hr)
  simp only[I,false_eq_true,if_false]
 .have I:((run++[(p.1,p.2)]).length==17)=true:=by simp;exact dG (ao 0x1122112a101022a0 [_] [] (dX hr)) (ao 0x112a111220a10220 [_] [] (ju hr))
  simp only[I,if_true];rfl
 .exact wpAny_pure (h U D)
 .obtain⟨m,r⟩:=r;simp[fO]
theorem uV{z:List (Option Expr)}{values:List Expr}{l:List ir}(I:oF z values=some l){n:Nat}(Y:17*(n+1)<l.length)(J:l.length<=17*(n+1)+15)(hsz:l.length<=100000)(hn:(l.map (·.1)).Nodup)(D:1<s.heap.objs.size){Q:Value->Shared->Prop}
 (h:∀U,jh w s l (n+2) U->Q (.ref s.heap.objs.size) U):wpAny (model PW w) A (eval (.Dict z values pos) O) Q E s:=by
 rw[arm_eval_Dict,su I];exact wpAny_bind (wpAny_standAt (display Y J hsz hn D h))
noncomputable abbrev ww(w:World)(b:Bool):World:=w.withFollow "special-get-raises" b
noncomputable def S0(w:World)(os:OsState):Shared:=⟨boot_heap w.params,#[],boot_drawn,boot_toks,os⟩
noncomputable def E0:Env:={scope:=PW.main.scope,locals:=3,globals:=3,cells:=[],code:= .ref 13,frame:=some 14}
noncomputable def c0:Code:= .body PW.main.body E0
noncomputable def p0:Pos:=⟨0,0,0,0⟩
noncomputable def p1:Pos:=⟨124,0,125,30⟩
noncomputable abbrev ann:Option Value:=some (.ref 6)
noncomputable def F0(l:List Value):Frame:= .ret topAfter none false [] (.builtin "claim.caller" {}) p0 l
noncomputable def xd(w:World)(os:OsState):Shared:=(topGo treeTable PW w 11 ann 12 (S0 w os) (topStub PW)).elim (S0 w os) (·.1)
noncomputable def sA(w:World)(os:OsState):Shared:=(segRun treeTable PW w 11 ann 1 1400 (xd w os) ⟨(execs (PW.main.body.take 15) E0).wrap doneF deadEnd id id,c0,p0,[F0 []]⟩).elim (S0 w os) (·.2.1)
noncomputable def sB(w:World)(os:OsState)(o:Nat->Obj):Shared:={sA w os with heap:=⟨(sA w os).heap.objs++((range 39).map o).toArray,(sA w os).heap.life⟩,toks:=2334}
noncomputable def zg:Pos:=match aw 15 with
 | .Assign [.Name _ p] _ _=>p
 |_=>p0
noncomputable def Ia:Pos:=match aw 15 with
 | .Assign _ _ p=>p
 |_=>p0
noncomputable def pW:List (Option Expr)×List Expr×Pos:=match aw 15 with
 | .Assign _ (.Dict ks vs p) _=>(ks,vs,p)
 |_=>([],[],p0)
noncomputable def kB(v:Value):Sem Fin:=(do standAt zg;bindName E0 "b3_exceptions" v;pure .next:Sem Flow).wrap (λf=>match f with
 | .next=>(execs (PW.main.body.drop 16) E0).wrap doneF (leaveH E0) id id
 |f=>doneF f) (leaveH E0) id id
noncomputable def qV:Program:=view PW [0,28]
noncomputable def lV:List Str:=["b1_set","b3_exceptions","Whitespace","_div2n1n","_div3n2n","_int2digits","_digits2int","_divmod_pos","int_divmod","rgb_to_hls","rgb_to_hsv","in_table_b1","map_table_b3","_law_typed","_law_product","_law_orders","_law_ways","_law_told","_law_due","_law_column","_law_parted","_DIV_LIMIT","_wall","__name__"]
noncomputable def ku:Stmt->Option (Str×Arguments×List Stmt×Scope)
 | .FunctionDef n a b _ _ _ s _ _ _=>some (n,a,b,s)
 |_=>none
noncomputable def iz(st:Stmt)(qn:Str):Option FnShape:=(ku st).map λp=>⟨p.1,qn,p.2.1,.stmts p.2.2.1,p.2.2.2,mainGlobals,[],.none,.none,none,.none,builtinsNs,true⟩
noncomputable def iL:List Nat:=[3,5,6,7,8,10,11,14,16,20,21,22,23,24,25,26,27,28]
noncomputable def nr:List (Nat×Str):=[(1,"Whitespace.__init__"),(2,"Whitespace.longest_run_of_spaces"),(3,"Whitespace.indent_level"),(4,"Whitespace.equal"),(5,"Whitespace.not_equal_witness"),(6,"Whitespace.less")]
noncomputable def BW:Value->Option Addr
 | .ref a=>some a
 |_=>none
noncomputable def vInt:Value->Option (Int×Tok)
 | .int i t=>some (i,t)
 |_=>none
noncomputable def vStr:Value->Option (Str×Tok)
 | .str y t=>some (y,t)
 |_=>none
noncomputable def FK(v:Value)(n:String):Bool:=match v with
 | .type m=>m==n
 |_=>false
noncomputable def JU:CFound->Option Value
 | .val v=>some v
 |_=>none
noncomputable def JI:Data->Option ClassData
 | .cls c=>some c
 |_=>none
noncomputable def Nb:Data->Option (Array (Int×Value)×Nat×SetTable)
 | .set es z t=>some (es,z,t)
 |_=>none
noncomputable def kC(h:Heap)(C:Addr):Option Addr:=(h.get? C).bind λo=>(JI o.data).bind λz=>if(FK o.cls "type"&&(z.mro==[.ref C,.type "object"]&&z.hasDict&& !z.abstract&& !z.hasDel&&o.slots.size==6&&o.slots[4]? ==some (some (.builtin "object.__new__"))))=true then some z.ns else none
noncomputable def qH(h:Heap)(a:Addr):Bool:=(h.get? a).any λo=>FK o.cls "set"&&o.dict.isNone&&o.slots.isEmpty&&(Nb o.data).any λd=>(d.1.toList.all λe=>(vInt e.2).any λi=>e.1==hashInt i.1&&Ey.contains i.1)&&(Ey.all λi=>d.1.toList.any λe=>(vInt e.2).any λj=>i==j.1)&&decide (d.1.size<scanBound)&&d.2.2.fits d.1.size
noncomputable def fragOf(h:Heap)(z:List Addr):Frag:=z.filterMap λa=>(h.get? a).map (a,·)
noncomputable def fV(K:Frag)(C:Addr)(name x:Str):Bool:=readsIn K C (.type "type")&&(((findCls K (.ref C) (.type "type") name).bind JU).bind vStr).any λp=>p.1==x
noncomputable def tabAt(h:Heap)(name:Str):Option (Addr×Addr):=(h.fnAt mainGlobals name).bind λp=>(BW p.2.2.code).bind λc=>(h.tab0At c).map (c,·)
noncomputable def tabLook(h:Heap):Bool:=(tabAt h "_int2digits").any λx=>(tabAt h "_digits2int").any λy=>x.2 !=y.2
noncomputable def CK(h:Heap):Bool:=((h.nsMap mainGlobals "_DIV_LIMIT").bind vInt).any λp=>p.1==4000
noncomputable def Eb(h₀:Heap)(s:Shared):Bool:=((s.heap.nsMap mainGlobals "b1_set").bind BW).any λa=>((s.heap.nsMap mainGlobals "Whitespace").bind BW).any λC=>
 qH s.heap a&&(kC s.heap C).any (λN=>s.heap.isNs N&&((["__getattribute__","__getattr__","__setattr__","raw","n","nt","norm","is_simple"]:List Str).all λx=>(s.heap.nsMap N x).isNone)&&fV (fragOf s.heap [C,N,cStatics]) C "S" " "&&fV (fragOf s.heap [C,N,cStatics]) C "T" "\t"&&
  nr.all λx=>match s.heap.fnAt N (fnName (bO x.1))with
   |some (_,o,_)=>o.cls== .type "function"
   |none=>false)&&tabLook s.heap&&CK s.heap&&(s.heap.nsMap cStatics sharingNotToldKey).isNone&&
  staticsOk (importedModules PW.main.body) h₀ s.heap&&namesBound PW s.heap&&gensDone s&&laidKept h₀ s.heap&&ble 1 s.toks
noncomputable def zM(h:Heap):Option (List (Option FnShape)):=match h.nsMap mainGlobals "Whitespace" with
 |some (.ref C)=>(kC h C).map λN=>nr.map λx=>h.shapeAt N (fnName (bO x.1))
 |_=>none
noncomputable def look(h₀:Heap)(s:Shared):=(openSeen qV lV (importedModules PW.main.body) (λ_=>true) true s,iL.map (λi=>s.heap.shapeAt mainGlobals (fnName (aw i))),zM s.heap,Eb h₀ s,s.heap.objs[96]?,s.heap.nsMap mainGlobals "b3_exceptions")
noncomputable def i8(o:Obj):=(openGood qV lV,iL.map (λi=>iz (aw i) (fnName (aw i))),some (nr.map λx=>iz (bO x.1) x.2),true,some o,some (Value.ref 96))
theorem MG(w:World)(os:OsState):topGo treeTable PW w 11 ann 12 (S0 w os) (topStub PW)=some (xd w os,⟨denote treeTable c0,c0,p0,[F0 []]⟩):=by unfold xd;kernel_rfl
def Hz(w:World)(os:OsState):Prop:=((segRun treeTable PW w 11 ann 1 1400 (xd w os) ⟨(execs (PW.main.body.take 15) E0).wrap doneF deadEnd id id,c0,p0,[F0 []]⟩).map λx=>(x.1,x.2.2,x.2.1.toks,x.2.1.heap.objs.size,x.2.1.gens,x.2.1.heap.objs.toList.all λo=> !o.isFreed))=some (.next,(c0,p1),384,96,#[],true)
def Hy(w:World)(os:OsState)(o:Nat->Obj)(p:Pos)(l:List Value):Prop:=((topRun treeTable PW w 11 ann 1000 (sB w os o) ⟨kB (.ref 96),c0,p,[F0 l]⟩).map λs=>look (S0 w os).heap s)=some (i8 (o 0))
theorem Jx(w:World)(os:OsState):Hz (ww w true) os/\∀o p l,Hy (ww w true) os o p l:=by unfold Hz Hy sB sA xd kB look;rw[PySem.W.Fast.te15667345088766844465,PySem.W.Fast.te14364793385576792824,PySem.W.Fast.te14374325043358763698,PySem.W.Fast.te12563942051412417395,PySem.W.Fast.te14082659384304107361,PySem.W.Fast.te4187177175401517315];exact⟨by kernel_rfl,λo p l=>by kernel_rfl⟩
theorem Jy(w:World)(os:OsState):Hz (ww w false) os/\∀o p l,Hy (ww w false) os o p l:=by unfold Hz Hy sB sA xd kB look;rw[PySem.W.Fast.te15667345088766844465,PySem.W.Fast.te14364793385576792824,PySem.W.Fast.te14374325043358763698,PySem.W.Fast.te12563942051412417395,PySem.W.Fast.te14082659384304107361,PySem.W.Fast.te4187177175401517315];exact⟨by kernel_rfl,λo p l=>by kernel_rfl⟩
theorem Rh(w:World)(os:OsState):∀b,Hz (ww w b) os/\∀o p l,Hy (ww w b) os o p l
 |true=>Jx w os
 |false=>Jy w os
noncomputable def yl:List ir:=(oF pW.1 pW.2.1).getD []
theorem uv:oF pW.1 pW.2.1=some yl:=by
 have h:(oF pW.1 pW.2.1).isSome=true:=by kernel_rfl
 obtain⟨l,hl⟩:=Option.isSome_iff_exists.mp h;unfold yl;rw[hl];rfl
noncomputable def DR:List Int->Bool
 |x::y::r=>decide (x<y)&&DR (y::r)
 |_=>true
theorem GZ{x y:Int}{r:List Int}:DR (x::y::r)=(decide (x<y)&&DR (y::r)):=rfl
theorem qu:∀(l:List Int),DR l=true->l.Nodup/\∀x r,l=x::r->∀y∈r,x<y
 |[],_=>⟨List.nodup_nil,λ_ _ e=>nomatch e⟩
 |[x],_=>⟨by simp,λ_ _ e y J=>by cases e;cases J⟩
 |x::y::r,h=>by
  simp only[GZ,and_eq_true,decide_eq_true_eq]at h;obtain⟨I,D⟩:=qu (y::r) h.2;have hl:∀z∈y::r,x<z:=λz hz=>by
   rcases dg hz with rfl|hz
   .exact h.1
   .exact Int.lt_trans h.1 (D y r rfl z hz)
  refine⟨nodup_cons.mpr ⟨λY=>absurd (hl x Y) (Int.lt_irrefl _),I⟩,λx' r' e=>?_⟩;cases e;exact hl
theorem vN:yl.length=650:=by kernel_rfl
theorem CH:(yl.map (·.1)).Nodup:=(qu _ (by kernel_rfl)).1
theorem kR:∀{ks:List (Option Expr)}{vs:List Expr}{l:List ir},oF ks vs=some l->vs.length=ks.length->(ks.filterMap λk=>k.bind AR)=l.map (·.1)/\vs.filterMap AQ=l.map (·.2.1)
 |[],[],l,h,_=>by obtain rfl:=bg h;exact⟨rfl,rfl⟩
 |k::ks,vs,l,h,hl=>by refine k8 (pg h) λx r t I D ht z=>?_;obtain rfl:=I;obtain rfl:=D;obtain rfl:=z;obtain⟨e1,e2⟩:=kR ht (Nat.succ.inj hl);exact⟨congrArg (x.1:: ·) e1,congrArg (x.2.1:: ·) e2⟩
theorem wB:pW.2.1.length=pW.1.length:=by kernel_rfl
theorem yM:aw 15= .Assign [.Name "b3_exceptions" zg] (.Dict pW.1 pW.2.1 pW.2.2) Ia:=by kernel_rfl
theorem GY:Bt=yl.map (·.1):=by rw[<-(kR uv wB).1];unfold Bt;rw[yM]
theorem GX:BP=yl.map (·.2.1):=by rw[<-(kR uv wB).2];unfold BP;rw[yM]
theorem Bn:denote table c0=(execs PW.main.body E0).wrap doneF (leaveH E0) id id:=by
 unfold c0;rw[body_wrap];have:blockStart PW.main.body E0=pure ():=by kernel_rfl
 rw[this];rfl
theorem Gz:PW.main.body.drop 15=aw 15::PW.main.body.drop 16:=by kernel_rfl
theorem r9:(execs (PW.main.body.drop 15) E0).wrap doneF (leaveH E0) id id=
 ((do standAt Ia;eval (.Dict pW.1 pW.2.1 pW.2.2) E0:Sem Value)).wrap kB (leaveH E0) id id:=by
 rw[Gz,execs_cons_wrap,yM,exec_Assign_Name (env:=E0) "b3_exceptions" zg _ Ia rfl]
 have e:(do standAt Ia
            let v<-eval (.Dict pW.1 pW.2.1 pW.2.2) E0
            standAt zg
            bindName E0 "b3_exceptions" v
            pure .next:Sem Flow)=(do standAt Ia;eval (.Dict pW.1 pW.2.1 pW.2.2) E0:Sem Value)>>=λv=>(do standAt zg;bindName E0 "b3_exceptions" v;pure .next:Sem Flow):=by
  simp only[bind_assoc]
 rw[e,Sem.bind_eq_wrap',Sem.wrap_wrap];rfl
theorem GA(c:Code)(st:List Frame):∃z:Ctx,z.Fits st/\z.code=c:=⟨Ctx.of c st,Ctx.fits_of c st,rfl⟩
theorem AN{w:World}{s:Shared}{p q pos:Pos}{O:Env}{code:Code}{ks:List (Option Expr)}{vs:List Expr}{L:List ir}{j:Nat}{K:Value->Sem Fin}{H:Value->Sem Fin}(hp:oF ks vs=some L)(h2:17*(j+1)<L.length)(h3:L.length<=17*(j+1)+15)(h4:L.length<=100000)(hn:(L.map (·.1)).Nodup)(hz:s.asleep)(hg:s.gens= #[])(h1:1<s.heap.objs.size):
 ∃U p' l,Go w s ⟨((do standAt q;eval (.Dict ks vs pos) O:Sem Value)).wrap K H id id,code,p,[F0 []]⟩ U ⟨K (.ref s.heap.objs.size),code,p',[F0 l]⟩/\jh w s L (j+2) U/\U.heap.life=s.heap.life:=by
 refine aq (GA code [F0 []]) λΓ hf iy=>?_
 have hw:wpAny (model PW w) {handled:=Γ.handled,depth:=frameCount Γ.below+Γ.code.weight,frames:=none,guards:=none,units:=Γ.units} ((do standAt q;eval (.Dict ks vs pos) O:Sem Value))
  (λv U=>v= .ref s.heap.objs.size/\jh w s L (j+2) U) (λ_ _=>False) s:=
  wpAny_bind (wpAny_standAt (uV hp h2 h3 h4 hn h1 λU D=>⟨rfl,D⟩))
 have hw:=hw Γ p ⟨rfl,le_refl _,(λ_ h=>nomatch h),(λ_ h=>nomatch h),le_refl _⟩;refine dR (ud hf (K:=K) (H:=H) (gd:=id) (lv:=id) _ _ _ _ hw) λU p' a I z D=>?_;obtain⟨n,hn⟩:=I;obtain rfl:=z;rw[iy]at hn;refine mf (sk n rfl rfl hz hn) λBR G5 r1 r2 r3 r4=>?_;have e1:BR=U:=by
  have g':U.gens= #[]:=by rw[D.rest];exact hg
  obtain⟨q1,q2,q3,q4,q5⟩:=BR;obtain⟨Oc,R3,R2,R1,R0⟩:=U;simp only[Shared.forget,Shared.mk.injEq]at r2;refine ib r2 λY g2 J I z=>?_;clear r2;obtain rfl:=Y;obtain rfl:=J;obtain rfl:=I;obtain rfl:=z;simp only at g';subst g';have:q2= #[]:=by have:=congrArg Array.size g2;rw[Array.size_map,Array.size_map]at this;exact Array.eq_empty_of_size_eq_zero this
  rw[this]
 subst e1;obtain⟨tc,N9,tp,N7⟩:=G5;simp only[Thread.forget,Thread.mk.injEq]at r3;refine gO r3 ?_;clear r3;intro Y rS J r3;obtain rfl:=Y;obtain rfl:=rS;obtain rfl:=J;obtain⟨l,rfl⟩:∃l,N7=[F0 l]:=by
  match N7,r3 with
  |[],h=>cases h
  |[.ret k hh g lv cc pp kept],h=>simp only[forgetAll,map_cons,map_nil,Frame.forget,F0,List.cons.injEq,Frame.ret.injEq,and_true]at h;refine Du h λY rS J I z oB=>?_;clear h;obtain rfl:=Y;obtain rfl:=rS;obtain rfl:=J;obtain rfl:=I;obtain rfl:=z;obtain rfl:=oB;exact⟨kept,rfl⟩
  |[.gen _ _ _ _ _],h=>unfold forgetAll at h;simp only[map_cons,map_nil,Frame.forget,F0,List.cons.injEq,reduceCtorEq,false_and]at h
  |_::_::_,h=>have:=congrArg length h;unfold forgetAll at this;simp only[length_map,length_cons,length_nil]at this;lia
 exact⟨BR,tp,l,⟨n,r1⟩,D,r4⟩
theorem Dw{w:World}{s:Shared}{p:Pos}(hz:s.asleep)(hg:s.gens= #[])(D:1<s.heap.objs.size):
 ∃U z l,Go w s ⟨(execs (PW.main.body.drop 15) E0).wrap doneF (leaveH E0) id id,c0,p,[F0 []]⟩ U ⟨kB (.ref s.heap.objs.size),c0,z,[F0 l]⟩/\jh w s yl 39 U/\U.heap.life=s.heap.life:=by
 rw[r9];exact AN uv (j:=37) (by rw[vN];decide) (by rw[vN];decide) (by rw[vN];decide) CH hz hg D
theorem s9{h:Heap}{a:Addr}{o:Obj}(e:h.get? a=some o):h.objs[a]? =some o:=by
 cases ho:h.objs[a]? with
 |none=>rw[Heap.get?,ho]at e;exact ns e
 |some o'=>
  obtain⟨c,d,z,D⟩:=o';have I:h.get? a=(match some (⟨c,d,z,D⟩:Obj)with|some ⟨_,_,.freed,_⟩=>none|o=>o):=by rw[<-ho];rfl
  rw[I]at e;cases z<;>first|exact e|exact ns e
theorem sJ{h:Heap}{a:Addr}{o:Obj}(e:h.objs[a]? =some o)(z:o.isFreed=false):h.get? a=some o:=by unfold Heap.get?;rw[e];obtain⟨cl,J,D,I⟩:=o;cases D<;>first|rfl|exact tf z
theorem zE{h h':Heap}{n:Nat}(hs:h'.objs.size=h.objs.size+n)(hl:(h.objs.toList.all λo=> !o.isFreed)=true)(old:∀b o,h.get? b=some o->h'.get? b=some o)(d:Obj):
 h'.objs=h.objs++((range n).map λi=>(h'.objs[h.objs.size+i]?).getD d).toArray:=by
 refine Array.ext (by simp[hs]) λi D J=>?_;rw[Array.getElem_append];split
 .rename_i hi;have e:h.objs[i]? =some h.objs[i]:=Array.getElem?_eq_getElem hi;have I:(h.objs[i]).isFreed=false:=by have:=gB hl h.objs[i] (Array.mem_toList_iff.mpr (Array.getElem_mem hi));simpa using this
  have:=s9 (old _ _ (sJ e I));rw[Array.getElem?_eq_getElem D]at this;exact bg this
 .rename_i hi;have z:h.objs.size+(i-h.objs.size)=i:=by exact dG (ao 870553795088 [_,_,_] [] (dE (ao 12192672 [_,_] [] (NY hi)))) (ao 807890891168 [_,_,_] [] eC)
  simp only[List.getElem_toArray,List.getElem_map,List.getElem_range,z,Array.getElem?_eq_getElem D,getD_some]
theorem xj{tb:String->Option Builtin}{p:Program}{w:World}{nj n:Nat}{D:Option Value}{l rest:List Stmt}{O:Env}{c c':Code}{pos z:Pos}{s U:Shared}(h:segRun tb p w nj D 1 n s ⟨(execs l O).wrap doneF deadEnd id id,c,pos,[F0 []]⟩=some (.next,U,c',z)):
 ∃m,topGo tb p w nj D m s ⟨(execs (l++rest) O).wrap doneF (leaveH O) id id,c,pos,[F0 []]⟩=some (U,⟨(execs rest O).wrap doneF (leaveH O) id id,c',z,[F0 []]⟩):=by
 obtain⟨a,ha,m,I⟩:=oY (res:=id) (K':=λf=>match f with| .next=>(execs rest O).wrap doneF (leaveH O) id id|f=>doneF f) (H':=leaveH O) (B:=[F0 []]) rfl n s ⟨(execs l O).wrap doneF deadEnd id id,c,pos,[F0 []]⟩
  ⟨(execs l O).wrap (λf=>match f with| .next=>(execs rest O).wrap doneF (leaveH O) id id|f=>doneF f) (leaveH O) id id,c,pos,[F0 []]⟩ _ _ _ _ ⟨rfl,rfl,.inl ⟨rfl,rfl,_,rfl,rfl⟩⟩ h
 obtain rfl:a= .next:=ha;refine⟨m,?_⟩;rw[execs_app_wrap];exact I
theorem B1(w:World)(os:OsState)(hz:(S0 w os).asleep):∃s₁ z m o ts,schedN (denote table) PW w m (.single (S0 w os) (topStub PW))= .running (.single s₁ z)/\through z=true/\s₁.heap.life=(S0 w os).heap.life/\s₁.os=os/\
 (∀b Y,b<11->b≠mainNs->b≠cStatics->ann≠some (.ref b)->(S0 w os).heap.get? b=some Y->s₁.heap.get? b=some Y)/\look (S0 w os).heap s₁=i8 o/\
 oR (intKind PW w) o (kvsOf yl ts)/\ts.length=yl.length:=by
 have hw:ww w (w.params.followText "special-get-raises")=w:=World.withFollow_self w _;obtain⟨hA,hB⟩:=Rh w os (w.params.followText "special-get-raises");rw[hw]at hA hB;unfold Hz at hA;unfold Hy at hB;have hP:=MG w os;rw[<-table_eq_tree]at hP hA hB;refine aq (mA hA) λI hs hx=>?_;obtain⟨f,sa,ca,pa⟩:=I;have Qs:sA w os=sa:=by unfold sA;rw[<-table_eq_tree,hs];rfl
 simp only[Prod.mk.injEq]at hx;refine Du hx λI rS xt xs xg xa=>?_;clear hx;obtain rfl:=I;obtain⟨rfl,rfl⟩:=rS;refine gO (mJ _ _ _ _ _ hz hP) λg1 l1 o1 f1=>?_;have z1:=Shared.asleep_of_life l1 hz;obtain⟨m,hm⟩:=xj (rest:=PW.main.body.drop 15) hs;rw[take_append_drop]at hm;refine gO (mJ _ _ _ _ _ z1 hm) λg2 l2 o2 f2=>?_;have z2:=Shared.asleep_of_life l2 z1;refine dR (Dw (w:=w) (s:=sa) (p:=p1) z2 xg (by rw[xs];decide)) λU p' l g3 D l3=>?_;have z3:=Shared.asleep_of_life l3 z2;obtain⟨ts,ht,od,es,ep,Hr,s6,Mo,Kt,Kp,rM⟩:=D.kvs;have hsz:U.heap.objs.size=sa.heap.objs.size+39:=D.size;have J:=zE hsz xa D.old default;have Qt:U=sB w os λi=>(U.heap.objs[sa.heap.objs.size+i]?).getD default:=by have e1:=D.rest;rw[vN,xt]at e1;unfold sB;rw[Qs];obtain⟨⟨Y,lf⟩,r2,r3,r4,r5⟩:=U;simp only at J l3 e1⊢;rw[<-J,<-l3];exact e1
 rw[Bn]at g1;have hB:=hB (λi=>(U.heap.objs[sa.heap.objs.size+i]?).getD default) p' l;rw[<-Qt]at hB;refine aq (mA hB) λs₁ hr hl=>?_;have MK:(U.heap.objs[sa.heap.objs.size+0]?).getD default=od:=by rw[Nat.add_zero,s9 Hr];rfl
 simp only[MK]at hl;rw[xs]at g3;refine gO (topRun_spec _ _ _ _ z3 hr) λI l4 o4 f4=>?_;refine cC I λn z hn Qp=>?_;clear I;obtain⟨k,hk⟩:=(g1.trans g2).trans g3;refine⟨s₁,z,k+n,od,ts,by rw[jI hk];exact hn,Qp,l4.trans (l3.trans (l2.trans l1)),?_,?_,hl,⟨s6,es,ep,Mo,Kt,Kp,rM⟩,ht⟩
 .rw[o4,D.rest];exact o2.trans o1
 .intro b Y h1 h2 h3 h4 h5;exact f4 b Y h1 h2 h3 h4 (D.old _ _ (f2 b Y h1 h2 h3 h4 (f1 b Y h1 h2 h3 h4 h5)))
noncomputable def Dg(st:Stmt)(qn:Str)(doc z code:Value):FuncData:=match ku st with
 |some p=>{name:=p.1,qualname:=qn,params:=p.2.1,body:= .stmts p.2.2.1,scope:=p.2.2.2,globals:=mainGlobals,closure:=[],defaults:= .none,kwdefaults:= .none,doc:=doc,pyModule:=z,annotations:=none,code:=code,closureTuple:= .none,builtins:=builtinsNs}
 |none=>default
noncomputable def Rf(s:FnShape)(doc z code:Value):FuncData:={name:=s.name,qualname:=s.qualname,params:=s.params,body:=s.body,scope:=s.scope,globals:=s.globals,closure:=s.closure,defaults:=s.defaults,kwdefaults:=s.kwdefaults,doc:=doc,pyModule:=z,annotations:=s.annotations,code:=code,closureTuple:=s.closureTuple,builtins:=s.builtins}
def Binds(st:Stmt)(qn:Str):Prop:=∀doc z code vals,vals.length=(fZ st).length->bindArgs (Dg st qn doc z code) ⟨vals,[]⟩=pure ((fZ st).zip vals)
theorem zm{st:Stmt}{p:Str×Arguments×List Stmt×Scope}:ku st=some p->bp st=p.2.2.1/\ak st=p.2.2.2:=by
 intro h;cases st with
 |FunctionDef=>obtain rfl:=bg h;exact⟨rfl,rfl⟩
 |_=>exact ns h
theorem ti{h:Heap}{ns:Addr}{st:Stmt}{qn name:Str}(e:h.shapeAt ns name=iz st qn)(hs:(iz st qn).isSome=true):
 ∃a D fd doc I p,h.nsMap ns name=some (.ref a)/\h.get? a=some D/\D.data= .func fd/\ku st=some p/\fd=Dg st qn doc I fd.code/\h.CodeRec fd.code qn:=by
 cases z:ku st with
 |none=>rw[iz,z]at hs;exact ft hs
 |some p=>rw[iz,z]at e;refine aq (mA e) λy J w=>?_;refine eJ (fnAt_spec J) λhn ho Y=>?_;refine⟨y.1,y.2.1,y.2.2,y.2.2.doc,y.2.2.pyModule,p,hn,ho,Y,rfl,?_,.of_ok ((show y.2.2.qualname=qn from congrArg FnShape.qualname w)▸(show h.codeRecOk y.2.2.code y.2.2.qualname=true from congrArg FnShape.codeOk w))⟩;rw[Dg,z];exact congrArg (λs=>Rf s y.2.2.doc y.2.2.pyModule y.2.2.code) w
def jw(H:Heap)(c:Cx):Prop:=∀b o,H.get? b=some o->o≠tabObj #[]->c.h₀.get? b=some o
theorem jw.data{H:Heap}{c:Cx}(S:jw H c){b:Addr}{o:Obj}(e:H.get? b=some o)(h:o.data≠ .fields #[]):c.h₀.get? b=some o:=S b o e λq=>h (by rw[q])
theorem jw.ns{H:Heap}{c:Cx}(S:jw H c){a:Addr}{m:Str->Option Value}(n:H.Ns a m):c.h₀.Ns a m:=by refine dR n λo es D e d r=>?_;clear n;exact⟨o,es,D,S.data e (by rw[d];exact λz=>by cases z),d,r⟩
theorem jw.DD{H:Heap}{c:Cx}(S:jw H c){D:Value}{q:Str}(x:H.CodeRec D q):c.h₀.CodeRec D q:=by refine Dr x λk o vs t e g d r=>?_;clear x;refine⟨k,o,vs,t,e,S.data g ?_,d,r⟩;rw[d];intro z;cases z;simp at r
theorem vU{H:Heap}{c:Cx}(S:jw H c){ns:Addr}{st:Stmt}{qn name:Str}(e:H.shapeAt ns name=iz st qn)(hs:(iz st qn).isSome=true)(B:Binds st qn):
 ∃a I fd,H.nsMap ns name=some (.ref a)/\H.get? a=some I/\I.data= .func fd/\gi c (.ref a) (fZ st) (ak st) (bp st) qn:=by
 refine Gu (ti e hs) λa I fd doc pm p h1 h2 J Y h4 h5=>?_;refine⟨a,I,fd,h1,h2,J,⟨a,I,fd,rfl,S.data h2 (by rw[J];exact λz=>by cases z),J,?_⟩⟩;obtain⟨e1,e2⟩:=zm Y;have hB:=λvals hv=>B doc pm fd.code vals hv;rw[<-h4]at hB;have D:=h4;unfold Dg at D;rw[Y]at D;rw[e1,e2];exact⟨congrArg FuncData.body D,congrArg _ D,congrArg _ D,congrArg _ D,congrArg _ D,(show qn=fd.qualname from(congrArg FuncData.qualname D).symm)▸S.DD h5,congrArg _ D,hB⟩
theorem Ly{α:Type}:∀{l:List α},l.length=1->∃a,l=[a]
 |[a],_=>⟨a,rfl⟩
theorem CL{α:Type}{l:List α}(h:l.length=4):∃a b c d,l=[a,b,c,d]:=lO (P:=λl=>∃a b c d,l=[a,b,c,d]) h λz r h=>AI (CM h) λa b c h=>⟨z,a,b,c,congrArg _ h⟩
theorem Iw{α:Type}{l:List α}(h:l.length=5):∃a b c d e,l=[a,b,c,d,e]:=lO (P:=λl=>∃a b c d e,l=[a,b,c,d,e]) h λz r h=>Ds (CL h) λa b c d h=>⟨z,a,b,c,d,congrArg _ h⟩
theorem lA{st:Stmt}{qn:Str}(D:(fZ st).length=1)(h:∀doc z code a,bindArgs (Dg st qn doc z code) ⟨[a],[]⟩=pure ((fZ st).zip [a])):Binds st qn:=λdoc z code vals hl=>by rw[D]at hl;obtain⟨a,rfl⟩:=Ly hl;exact h doc z code a
theorem eL{st:Stmt}{qn:Str}(I:(fZ st).length=2)(h:∀doc D code a b,bindArgs (Dg st qn doc D code) ⟨[a,b],[]⟩=pure ((fZ st).zip [a,b])):Binds st qn:=λdoc D code vals hl=>by rw[I]at hl;refine oM (FA hl) λa b z=>?_;obtain rfl:=z;exact h doc D code a b
theorem vk{st:Stmt}{qn:Str}(I:(fZ st).length=3)(h:∀doc D code a b c,bindArgs (Dg st qn doc D code) ⟨[a,b,c],[]⟩=pure ((fZ st).zip [a,b,c])):Binds st qn:=λdoc D code vals hl=>by rw[I]at hl;refine AI (CM hl) λa b c z=>?_;obtain rfl:=z;exact h doc D code a b c
theorem GR{st:Stmt}{qn:Str}(I:(fZ st).length=4)(h:∀doc D code a b c d,bindArgs (Dg st qn doc D code) ⟨[a,b,c,d],[]⟩=pure ((fZ st).zip [a,b,c,d])):Binds st qn:=λdoc D code vals hl=>by rw[I]at hl;refine Ds (CL hl) λa b c d z=>?_;obtain rfl:=z;exact h doc D code a b c d
theorem GQ{st:Stmt}{qn:Str}(I:(fZ st).length=5)(h:∀doc D code a b c d f,bindArgs (Dg st qn doc D code) ⟨[a,b,c,d,f],[]⟩=pure ((fZ st).zip [a,b,c,d,f])):Binds st qn:=λdoc D code vals hl=>by rw[I]at hl;refine uY (Iw hl) λa b c d f z=>?_;obtain rfl:=z;exact h doc D code a b c d f
theorem RI:Binds (aw 3) "_div2n1n":=vk (by kernel_rfl) λ_ _ _ _ _ _=>by kernel_rfl
theorem RH:Binds (aw 5) "_int2digits":=eL (by kernel_rfl) λ_ _ _ _ _=>by kernel_rfl
theorem RG:Binds (aw 6) "_digits2int":=eL (by kernel_rfl) λ_ _ _ _ _=>by kernel_rfl
theorem RF:Binds (aw 7) "_divmod_pos":=eL (by kernel_rfl) λ_ _ _ _ _=>by kernel_rfl
theorem RE:Binds (aw 8) "int_divmod":=eL (by kernel_rfl) λ_ _ _ _ _=>by kernel_rfl
theorem Nv:Binds (aw 10) "rgb_to_hls":=vk (by kernel_rfl) λ_ _ _ _ _ _=>by kernel_rfl
theorem Nu:Binds (aw 11) "rgb_to_hsv":=vk (by kernel_rfl) λ_ _ _ _ _ _=>by kernel_rfl
theorem Nt:Binds (aw 14) "in_table_b1":=lA (by kernel_rfl) λ_ _ _ _=>by kernel_rfl
theorem Nr:Binds (aw 16) "map_table_b3":=lA (by kernel_rfl) λ_ _ _ _=>by kernel_rfl
theorem Nq:Binds (aw 20) "_law_typed":=eL (by kernel_rfl) λ_ _ _ _ _=>by kernel_rfl
theorem Np:Binds (aw 21) "_law_product":=lA (by kernel_rfl) λ_ _ _ _=>by kernel_rfl
theorem Nn:Binds (aw 22) "_law_orders":=lA (by kernel_rfl) λ_ _ _ _=>by kernel_rfl
theorem Nm:Binds (aw 23) "_law_ways":=eL (by kernel_rfl) λ_ _ _ _ _=>by kernel_rfl
theorem Nl:Binds (aw 24) "_law_told":=eL (by kernel_rfl) λ_ _ _ _ _=>by kernel_rfl
theorem Nk:Binds (aw 25) "_law_due":=GR (by kernel_rfl) λ_ _ _ _ _ _ _=>by kernel_rfl
theorem Nj:Binds (aw 26) "_law_column":=eL (by kernel_rfl) λ_ _ _ _ _=>by kernel_rfl
theorem Ni:Binds (aw 27) "_law_parted":=GQ (by kernel_rfl) λ_ _ _ _ _ _ _ _=>by kernel_rfl
theorem Nh:Binds (aw 28) "law":=lA (by kernel_rfl) λ_ _ _ _=>by kernel_rfl
theorem RD:Binds (bO 1) "Whitespace.__init__":=eL (by kernel_rfl) λ_ _ _ _ _=>by kernel_rfl
theorem RC:Binds (bO 2) "Whitespace.longest_run_of_spaces":=lA (by kernel_rfl) λ_ _ _ _=>by kernel_rfl
theorem RB:Binds (bO 3) "Whitespace.indent_level":=eL (by kernel_rfl) λ_ _ _ _ _=>by kernel_rfl
theorem RA:Binds (bO 4) "Whitespace.equal":=eL (by kernel_rfl) λ_ _ _ _ _=>by kernel_rfl
theorem Rz:Binds (bO 5) "Whitespace.not_equal_witness":=eL (by kernel_rfl) λ_ _ _ _ _=>by kernel_rfl
theorem Ry:Binds (bO 6) "Whitespace.less":=eL (by kernel_rfl) λ_ _ _ _ _=>by kernel_rfl
theorem any_some{α:Type}{o:Option α}{p:α->Bool}(h:o.any p=true):∃x,o=some x/\p x=true:=by
 cases o with
 |some x=>exact⟨x,rfl,h⟩
 |none=>exact ft h
theorem bind_some{α z:Type}{o:Option α}{f:α->Option z}{y:z}(h:o.bind f=some y):∃x,o=some x/\f x=some y:=bind_eq_some_iff.mp h
theorem vT{v:Value}{n:String}(h:FK v n=true):v= .type n:=by
 cases v with
 |type m=>exact congrArg _ (eq_of_beq h)
 |_=>exact ft h
theorem qA{v:Value}{a:Addr}(h:BW v=some a):v= .ref a:=by
 cases v with
 |ref b=>exact congrArg _ (bg h)
 |_=>exact ns h
theorem qB{v:Value}{p:Int×Tok}(h:vInt v=some p):v= .int p.1 p.2:=by
 cases v with
 |int i t=>exact bg h▸rfl
 |_=>exact ns h
theorem BV{v:Value}{p:Str×Tok}(h:vStr v=some p):v= .str p.1 p.2:=by
 cases v with
 |str i t=>exact bg h▸rfl
 |_=>exact ns h
theorem DK{f:CFound}{v:Value}(h:JU f=some v):f= .val v:=by
 cases f with
 |val b=>exact congrArg _ (bg h)
 |_=>exact ns h
theorem si{w:World}{H:Heap}{a:Addr}(e:qH H a=true):∃o,H.get? a=some o/\J1 w o Ey/\o.data≠ .fields #[]:=by
 refine aq (any_some e) λo ho e=>?_;refine Nw e λc1 c2 c3 c4=>?_;clear e;refine aq (any_some c4) λd hd e=>?_;clear c4;refine Nw e λe2 e3 e4 e5=>?_;clear e;obtain⟨cl,di,da,sl⟩:=o;cases da with
 |set es ep t=>
  obtain rfl:=bg hd;obtain rfl:=vT c1;obtain rfl:=Option.isNone_iff_eq_none.mp c2;have hi:∀x∈es.toList,∃i tk,x.2= .int i tk/\x.1=hashInt i/\Ey.contains i=true:=λx D=>by refine aq (any_some (gB e2 x D)) λi J e=>?_;exact⟨i.1,i.2,qB J,eq_of_beq (Hc e).1,(Hc e).2⟩
  refine⟨_,ho,⟨⟨rfl,rfl,Array.isEmpty_iff.mp c3⟩,es,ep,t,rfl,λx D=>?_,λk=>⟨λI=>?_,λ⟨x,D,I⟩=>?_⟩,of_decide_eq_true e4,e5⟩,λz=>by cases z⟩
  .refine bD (hi x D) λi tk Y h2 _=>?_;rw[Y];exact⟨⟨i,by show(i==i)=true;simp,h2⟩,rfl⟩
  .refine aq (any_eq_true.mp (gB e3 k (List.contains_iff_mem.mp I))) λx D h=>?_;refine aq (any_some h) λj J h=>?_;refine⟨x,D,?_⟩;rw[qB J,<-eq_of_beq h];show(k==k)=true;exact beq_self_eq_true k
  .refine bD (hi x D) λi tk Y h2 h3=>?_;rw[Y]at I;have:i=k:=eq_of_beq I;rw[<-this];exact h3
 |_=>exact ns hd
theorem Lx{α:Type}{l:List α}(h:l.length=6):∃a b c d e f,l=[a,b,c,d,e,f]:=lO (P:=λl=>∃a b c d e f,l=[a,b,c,d,e,f]) h λz r h=>uY (Iw h) λa b c d e h=>⟨z,a,b,c,d,e,congrArg _ h⟩
theorem Dz{d:Data}{c:ClassData}(h:JI d=some c):d= .cls c:=by
 cases d with
 |cls b=>exact congrArg _ (bg h)
 |_=>exact ns h
theorem JR{z:ClassData}{m:List Value}(h1:(z.mro==m)=true)(h2:z.hasDict=true)(h3:(!z.abstract)=true)(h4:(!z.hasDel)=true):
 z=⟨z.name,z.bases,m,z.ns,z.qualname,true,z.slotNames,z.subclasses,false,z.collection,false⟩:=by
 obtain⟨nm,bs,J,ns,qn,Y,sn,sub,ab,I,D⟩:=z;cases Y<;>cases ab<;>cases D<;>first|exact ft h2|exact ft h3|exact ft h4|exact congrArg (λm=>ClassData.mk nm bs m ns qn true sn sub false I false) (beq_iff_eq.mp h1)
theorem H7{z:Array (Option Value)}{v:Option Value}(h:(z.size==6)=true)(h':(z[4]? ==some v)=true):∃k0 k1 k2 I D,z= #[k0,k1,k2,I,v,D]:=by obtain⟨z⟩:=z;refine Gv (Lx (l:=z) (eq_of_beq h)) λk0 k1 k2 I J D w=>?_;subst w;exact⟨k0,k1,k2,I,D,congrArg (λx=> #[k0,k1,k2,I,x,D]) (bg (beq_iff_eq.mp h':some J=some v))⟩
theorem tK{H:Heap}{C N:Addr}(e:kC H C=some N):∃nm q bs sn sub J Y k0 k1 k2 I D,H.get? C=some (excClassObj nm q C N bs [.type "object"] true sn sub false J Y k0 k1 k2 I D "object.__new__"):=by refine aq (bind_some e) λo ho e=>?_;refine aq (bind_some e) λz hd e=>?_;refine iF (bw e) λhc w=>?_;subst w;clear e;refine HK hc λc0 hc=>?_;refine O3 hc λc1 c2 c3 c4 c5 c6=>?_;clear hc;refine uY (H7 c5 c6) λk0 k1 k2 I D hs=>?_;refine⟨z.name,z.qualname,z.bases,z.slotNames,z.subclasses,z.collection,o.dict,k0,k1,k2,I,D,ho.trans (congrArg some ?_)⟩;obtain⟨cl,Y,da,sl⟩:=o;rw[show cl= .type "type" from vT c0,show da= .cls z from Dz hd,show sl=_ from hs,JR c1 c2 c3 c4]
theorem mem_lookup{α:Type}:∀{l:List (Addr×α)}{a:Addr}{o:α},l.lookup a=some o->(a,o)∈l
 |(b,x)::l,a,o,h=>by
  simp only[List.lookup]at h;split at h
  .rename_i z;obtain rfl:=eq_of_beq z;obtain rfl:=bg h;exact .head _
  .exact .tail _ (mem_lookup h)
theorem Dc{H:Heap}{c:Cx}(S:jw H c){z:List Addr}(D:∀a∈z,∀o,H.get? a=some o->o.data≠ .fields #[]):(fragOf H z).In c.h₀:=λa o e=>by refine aq (mem_filterMap.mp (mem_lookup e)) λb hb h=>?_;refine aq (mA h) λo' ho I=>?_;cases I;exact S.data ho (D _ hb _ ho)
theorem kH{c:Cx}{K:Frag}{C:Addr}{name x:Str}(Y:K.In c.h₀)(e:fV K C name x=true):
 ∃t,∀(A:Around)(E:Value->Shared->Prop)(Q:Value->Shared->Prop)(s:Shared),(∀a o,c.h₀.get? a=some o->s.heap.get? a=some o)->Q (.str x t) {s with toks:=s.toks+1}->wpAny (model PW c.w) A (getAttr (.ref C) name true) Q E s:=by
 refine iF (Bool.and_eq_true_iff.mp e) λe1 e2=>?_;refine aq (any_some e2) λp D e=>?_;refine aq (bind_some D) λv z D=>?_;refine aq (bind_some z) λf I z=>?_;rw[DK z,BV D,eq_of_beq e]at I;exact⟨p.2,λA E Q s hs J=>cls_value (Y.keeps hs) e1 I rfl J⟩
theorem tab_of_look{H:Heap}{name:Str}{x:Addr×Addr}(e:tabAt H name=some x):∃a o fd,H.nsMap mainGlobals name=some (.ref a)/\H.get? a=some o/\o.data= .func fd/\fd.code= .ref x.1/\H.IsCode x.1 x.2 #[]/\H.TableAt x.1 x.2 #[]:=by refine aq (bind_some e) λp D e=>?_;refine aq (bind_some e) λc hc e=>?_;refine aq (mA e) λP hP z=>?_;subst z;refine eJ (fnAt_spec D) λY J I=>?_;exact⟨p.1,p.2.1,p.2.2,Y,J,I,qA hc,(Heap.tab0At_spec hP).1,(Heap.tab0At_spec hP).2⟩
theorem vP:∀{l:List ir}{ts:List Tok},ts.length=l.length->kvsOf l ts=(l.map (·.1)).zip (zipWith (λx t=>(.str x.2.1 t:Value)) l ts)/\∀w C G,aE w C G ((l.map (·.2.1)).map .str) (zipWith (λx t=>(.str x.2.1 t:Value)) l ts)
 |[],ts,h=>⟨by simp[kvsOf],λw C G=>by simp[aE]⟩
 |x::l,[],h=>by cases h
 |x::l,t::ts,h=>by
  obtain⟨z,D⟩:=vP (l:=l) (ts:=ts) (by simpa using h);refine⟨?_,λw C G=>?_⟩
  .simp only[kvsOf,List.zipWith_cons_cons,map_cons,zip_cons_cons]at z⊢;rw[z]
  .simp only[map_cons,List.zipWith_cons_cons,aE];exact⟨_,_,rfl,⟨t,rfl⟩,D w C G⟩
theorem GW{w:World}{C:Addr}{G:PH}{o:Obj}{ts:List Tok}(ht:ts.length=yl.length)(D:oR (intKind PW w) o (kvsOf yl ts))(g:G 96 o):Rep w C G (.bT Bt (BP.map .str)) (.ref 96):=by obtain⟨e1,e2⟩:=vP ht;rw[e1]at D;rw[GY,GX];show ∃_,_;exact⟨96,o,_,rfl,by decide,g,D,by simp[ht],e2 _ _ _⟩
theorem Dd{H:Heap}{c:Cx}(S:jw H c)(J:c.mg=H.nsMap mainGlobals)(D:∀i∈iL,H.shapeAt mainGlobals (fnName (aw i))=iz (aw i) (fnName (aw i))){n:Nat}{name:Str}(hn:n∈iL)(z:fnName (aw n)=name)
 (hs:(iz (aw n) name).isSome=true)(B:Binds (aw n) name):∃a I fd,H.nsMap mainGlobals name=some (.ref a)/\H.get? a=some I/\I.data= .func fd/\FnAt c n name (.ref a):=by
 have e:=D n hn;rw[z]at e;refine k8 (vU S e hs B) λa I fd Y h2 h3 h4=>?_;exact⟨a,I,fd,Y,h2,h3,by rw[J];exact Y,h4⟩
theorem De{H:Heap}{c:Cx}(S:jw H c)(I:c.mg=H.nsMap mainGlobals)(D:∀i∈iL,H.shapeAt mainGlobals (fnName (aw i))=iz (aw i) (fnName (aw i))){n:Nat}{name:Str}(hn:n∈iL)(z:fnName (aw n)=name)
 (hs:(iz (aw n) name).isSome=true)(B:Binds (aw n) name):∃v,FnAt c n name v:=by
 refine k8 (Dd S I D hn z hs B) λa _ _ _ _ _ h=>?_;exact⟨_,h⟩
theorem fy{H:Heap}{c:Cx}(S:jw H c){N:Addr}{mN:Str->Option Value}(hN:mN=H.nsMap N){i:Nat}{name qn:Str}(e:H.shapeAt N (fnName (bO i))=iz (bO i) qn)(D:fnName (bO i)=name)(hs:(iz (bO i) qn).isSome=true)(B:Binds (bO i) qn)
 (I:(match H.fnAt N (fnName (bO i))with
    |some (_,o,_)=>o.cls== .type "function"
    |none=>false)=true):er c mN i name qn:=by
 rw[D]at e I;refine k8 (vU S e hs B) λa ob fd h1 h2 h3 h4=>?_;refine⟨a,ob,by rw[hN];exact h1,S.data h2 (by rw[h3];exact λz=>by cases z),?_,h4⟩;split at I
 .rename_i a' o' Rg hq;refine eJ (fnAt_spec hq) λY J q3=>?_;rw[h1]at Y;cases Y;rw[h2]at J;obtain rfl:=bg J;exact eq_of_beq I
 .exact ft I
theorem HS{H:Heap}{c:Cx}{C N:Addr}(S:jw H c)(hC:c.C=C)(QG:c.mg=H.nsMap mainGlobals)(h1:H.nsMap mainGlobals "Whitespace"=some (.ref C))(hc:kC H C=some N)(hN:H.isNs N=true)(iC:∃m,H.Ns cStatics m)
 (CV:(["__getattribute__","__getattr__","__setattr__","raw","n","nt","norm","is_simple"]:List Str).all (λx=>(H.nsMap N x).isNone)=true)(hS:fV (fragOf H [C,N,cStatics]) C "S" " "=true)(hT:fV (fragOf H [C,N,cStatics]) C "T" "\t"=true)
 (I:(nr.all λx=>match H.fnAt N (fnName (bO x.1))with
    |some (_,o,_)=>o.cls== .type "function"
    |none=>false)=true)
 (Y:∀x∈nr,H.shapeAt N (fnName (bO x.1))=iz (bO x.1) x.2):Ws c:=by
 have D:=tK hc;have J:=Heap.Ns.of_isNs hN;have hK:(fragOf H [C,N,cStatics]).In c.h₀:=Dc S λa ha o ho=>by
  simp only[mem_cons,not_mem_nil,or_false]at ha;rcases ha with rfl|rfl|rfl
  .refine kz D λnm q bs sn sub col dd k0 k1 k2 k3 k5 e=>?_;clear D;rw[e]at ho;obtain rfl:=bg ho;exact λz=>by cases z
  .refine dR J λo' es ep e d _=>?_;clear J;rw[e]at ho;obtain rfl:=bg ho;rw[d];exact λz=>by cases z
  .refine Gx iC λm o' es ep e d _=>?_;clear iC;rw[e]at ho;obtain rfl:=bg ho;rw[d];exact λz=>by cases z
 have I:=gB I;refine⟨by rw[QG,hC];exact h1,⟨N,H.nsMap N,⟨?_,S.ns J⟩,λx hx=>?_,?_,?_,?_,?_,?_,?_⟩,?_,?_⟩
 .rw[hC];refine kz D λnm q bs sn sub col dd k0 k1 k2 k3 k5 e=>?_;clear D;exact⟨nm,q,bs,sn,sub,col,dd,k0,k1,k2,k3,k5,S.data e (λz=>by cases z)⟩
 .exact Option.isNone_iff_eq_none.mp (gB CV x hx)
 .exact fy S rfl (Y (1,"Whitespace.__init__") (by decide)) (by kernel_rfl) (by kernel_rfl) RD (I (1,"Whitespace.__init__") (by decide))
 .exact fy S rfl (Y (2,"Whitespace.longest_run_of_spaces") (by decide)) (by kernel_rfl) (by kernel_rfl) RC (I (2,"Whitespace.longest_run_of_spaces") (by decide))
 .exact fy S rfl (Y (3,"Whitespace.indent_level") (by decide)) (by kernel_rfl) (by kernel_rfl) RB (I (3,"Whitespace.indent_level") (by decide))
 .exact fy S rfl (Y (4,"Whitespace.equal") (by decide)) (by kernel_rfl) (by kernel_rfl) RA (I (4,"Whitespace.equal") (by decide))
 .exact fy S rfl (Y (5,"Whitespace.not_equal_witness") (by decide)) (by kernel_rfl) (by kernel_rfl) Rz (I (5,"Whitespace.not_equal_witness") (by decide))
 .exact fy S rfl (Y (6,"Whitespace.less") (by decide)) (by kernel_rfl) (by kernel_rfl) Ry (I (6,"Whitespace.less") (by decide))
 .rw[hC];exact kH hK hS
 .rw[hC];exact kH hK hT
structure J2(h₀:Heap)(s:Shared)(a C N:Addr)(x5 x6:Addr×Addr):Prop where
 b1:s.heap.nsMap mainGlobals "b1_set"=some (.ref a)
 wc:s.heap.nsMap mainGlobals "Whitespace"=some (.ref C)
 set:qH s.heap a=true
 cls:kC s.heap C=some N
 ns:s.heap.isNs N=true
 no:(["__getattribute__","__getattr__","__setattr__","raw","n","nt","norm","is_simple"]:List Str).all (λx=>(s.heap.nsMap N x).isNone)=true
 S:fV (fragOf s.heap [C,N,cStatics]) C "S" " "=true
 T:fV (fragOf s.heap [C,N,cStatics]) C "T" "\t"=true
 fn:(nr.all λx=>match s.heap.fnAt N (fnName (bO x.1))with
      |some (_,o,_)=>o.cls== .type "function"
      |none=>false)=true
 t5:tabAt s.heap "_int2digits"=some x5
 t6:tabAt s.heap "_digits2int"=some x6
 ne:x5.2≠x6.2
 lim:∃t,s.heap.nsMap mainGlobals "_DIV_LIMIT"=some (.int 4000 t)
 bk:s.heap.nsMap cStatics sharingNotToldKey=none
 st:staticsOk (importedModules PW.main.body) h₀ s.heap=true
 nb:namesBound PW s.heap=true
 gd:gensDone s=true
 lk:laidKept h₀ s.heap=true
 tk:0<s.toks
theorem sQ{h₀:Heap}{s:Shared}(e:Eb h₀ s=true):∃a C N x5 x6,J2 h₀ s a C N x5 x6:=by refine aq (any_some e) λa J e=>?_;refine aq (any_some e) λC I e=>?_;refine aq (bind_some J) λv J z=>?_;rw[qA z]at J;refine aq (bind_some I) λv I z=>?_;rw[qA z]at I;refine Bs e λe1 e2 D Y e5 e6 e7 e8 e9 ea=>?_;clear e;refine aq (any_some e2) λN hN e2=>?_;refine GV e2 λd1 d2 d3 d4 d5=>?_;refine aq (any_some D) λx hx D=>?_;refine aq (any_some D) λy hy D=>?_;refine aq (any_some Y) λp hp Y=>?_;refine aq (bind_some hp) λv hi z=>?_;rw[qB z,eq_of_beq Y]at hi;exact⟨a,C,N,x,y,J,I,e1,hN,d1,d2,d3,d4,d5,hx,hy,bne_iff_ne.mp D,⟨p.2,hi⟩,Option.isNone_iff_eq_none.mp e5,e6,e7,e8,e9,le_of_ble_eq_true ea⟩
theorem uR:∀x∈(["len","max","min","sum","ord","chr","divmod","round","str","dict","tuple","list","range","reversed","enumerate","zip"]:List Str),
 x∉startupNames/\x∉looseW qV lV/\x∉(recsOf qV).map (·.name)/\x∉(litsOf qV).map (·.1)/\x∉(clssOf qV (looseW qV lV)).map (·.name):=by decide+kernel
theorem qh:chainsOk qV=true:=by kernel_rfl
theorem sU{w:World}{h₀:Heap}{s:Shared}{o:Obj}{ts:List Tok}(hl:look h₀ s=i8 o)(ht:ts.length=yl.length)(D:oR (intKind PW w) o (kvsOf yl ts)):∃C P5 C5 P6 C6,s.heap.get? P5=some (tabObj #[])/\s.heap.get? P6=some (tabObj #[])/\P5≠P6/\
 ∀c:Cx,c.w=w->c.C=C->c.mg=s.heap.nsMap mainGlobals->c.mb=s.heap.nsMap builtinsNs->jw s.heap c->LawC c P5 C5 P6 C6/\∃v,FnAt c 28 "law" v:=by
 unfold look i8 at hl;obtain⟨e1,hl⟩:=Prod.mk.inj hl;obtain⟨e2,hl⟩:=Prod.mk.inj hl;obtain⟨e3,hl⟩:=Prod.mk.inj hl;obtain⟨e4,hl⟩:=Prod.mk.inj hl;obtain⟨e5,e6⟩:=Prod.mk.inj hl;refine uY (sQ e4) λa C N mh Bz L=>?_;obtain⟨C5,P5⟩:=mh;obtain⟨C6,P6⟩:=Bz;refine AJ (ground_of_open (w:=w) (XP:=λ_ _=>True) (λ_ _=>trivial) qh e1) λG _ hg _ _ _ _=>?_;have C4:∀i∈iL,s.heap.shapeAt mainGlobals (fnName (aw i))=iz (aw i) (fnName (aw i)):=List.map_inj_left.mp e2;have QE:∀x∈nr,s.heap.shapeAt N (fnName (bO x.1))=iz (bO x.1) x.2:=by unfold zM at e3;rw[L.wc]at e3;simp only[L.cls,map_some]at e3;exact List.map_inj_left.mp (bg e3)
 refine jT (tab_of_look L.t5) λa5 o5 Sl m5 g5 d5 c5 Qb Oa=>?_;refine jT (tab_of_look L.t6) λa6 o6 Sk m6 g6 d6 c6 Qa N'=>?_;refine⟨C,P5,C5,P6,C6,Oa.2,N'.2,L.ne,λc hw hC I Kr S=>?_⟩;have T:=G.T;have Y:∀{P K:Addr},s.heap.IsCode K P #[]->s.heap.TableAt K P #[]->∀p q,yk c ⟨P,K,p,q⟩:=λ{P K}ic ta p q=>by
  have hd:=CodeHd.of ic ta;refine Jz hd λo vs file tf flags tg Ot text tt h1 h2 h3 h4=>?_;clear hd;refine⟨⟨o,vs,file,tf,flags,tg,Ot,text,tt,S.data h1 ?_,h2,h3,h4⟩,?_⟩
  .rw[h3];intro z;cases z;simp at h4
  .refine Dt T.bmain λbm ob b1 b2 b3 b4 b5 b6=>?_;refine⟨bm,ob,by rw[I];exact b1,b2,?_,S.data b3 (by rw[b6];exact λz=>by cases z),b4,b5,b6⟩;rintro rfl;refine dR T.g λo' es ep x1 x2 _=>?_;rw[b3]at x1;obtain rfl:=bg x1;rw[b6]at x2;cases x2
 have base:Base c.w c.C c.h₀ c.mg c.mb:=by
  refine⟨?_,?_,by rw[I];exact S.ns T.g,by rw[Kr];exact S.ns T.b,λx hx=>by rw[Kr];exact T.builtins x hx⟩
  .refine aq T.nolimit λmc n _=>?_;have hc:s.heap.isNs cStatics=true:=by have:=L.st;unfold staticsOk at this;simp only[and_eq_true]at this;exact this.1.2
   exact⟨_,S.ns (.of_isNs hc),L.bk⟩
  .refine aq T.nolimit λmc n e=>?_;exact⟨mc,S.ns n,e⟩
 have MK:s.heap.get? 96=some o:=by obtain⟨_,es,ep,hd,_⟩:=D;exact sJ e5 (Obj.isFreed_of_dict hd)
 have gl:Gl c:=by
  refine⟨base,λx hx=>?_,?_,?_,?_⟩
  .rw[I];refine ib (uR x hx) λf1 f2 f3 f4 f5=>?_;exact T.free x f1 f2 f3 f4 f5
  .rw[I];exact L.lim
  .refine jU (si (w:=w) L.set) λos h1 h2 h3=>?_;refine⟨_,by rw[I];exact L.b1,?_⟩;rw[hw];show ∃_,_;exact⟨a,os,rfl,S.data h1 h3,h2⟩
  .refine⟨_,by rw[I];exact e6,?_⟩;rw[hw];refine GW ht D (S.data MK ?_);obtain⟨_,es,ep,hd,_⟩:=D;rw[hd];exact λz=>by cases z
 have OX:∀{n:Nat}{name:Str}{A:Addr}{ob:Obj}{fd:FuncData}{K:Addr},s.heap.nsMap mainGlobals name=some (.ref A)->s.heap.get? A=some ob->ob.data= .func fd->fd.code= .ref K->
  (∃v,FnAt c n name v)->∃v,FnAt c n name v/\∀a o fd,v= .ref a->c.h₀.get? a=some o->o.data= .func fd->fd.code= .ref K:=λ{n name A ob fd K}m g d k ⟨v,f⟩=>by
  refine⟨v,f,λa o Rg hv ho uO=>?_⟩;have:=f.g;rw[I,m,hv]at this;cases this;rw[S.data g (by rw[d];exact λz=>by cases z)]at ho;obtain rfl:=bg ho;rw[d]at uO;cases uO;exact k
 have J:∀{n:Nat}{name:Str},n∈iL->fnName (aw n)=name->(iz (aw n) name).isSome=true->Binds (aw n) name->∃v,FnAt c n name v:=λh1 h2 h3 h4=>De S I C4 h1 h2 h3 h4
 refine⟨{
  ar:={
   gl:=gl
   t5:=Y Qb Oa _ _
   t6:=Y Qa N' _ _
   ne:=L.ne
   f3:=J (by decide) (by kernel_rfl) (by kernel_rfl) RI
   f5:=OX m5 g5 d5 c5 (J (by decide) (by kernel_rfl) (by kernel_rfl) RH)
   f6:=OX m6 g6 d6 c6 (J (by decide) (by kernel_rfl) (by kernel_rfl) RG)
   f7:=J (by decide) (by kernel_rfl) (by kernel_rfl) RF
   f8:=J (by decide) (by kernel_rfl) (by kernel_rfl) RE}
  ws:=HS S hC I L.wc L.cls L.ns (let⟨mc,n,_⟩:=T.nolimit;⟨mc,n⟩) L.no L.S L.T L.fn QE
  Es:=J (by decide) (by kernel_rfl) (by kernel_rfl) Nv
  Er:=J (by decide) (by kernel_rfl) (by kernel_rfl) Nu
  xV:=J (by decide) (by kernel_rfl) (by kernel_rfl) Nt
  Ep:=J (by decide) (by kernel_rfl) (by kernel_rfl) Nr
  HG:=J (by decide) (by kernel_rfl) (by kernel_rfl) Nq
  oK:=J (by decide) (by kernel_rfl) (by kernel_rfl) Np
  HF:=J (by decide) (by kernel_rfl) (by kernel_rfl) Nn
  HE:=J (by decide) (by kernel_rfl) (by kernel_rfl) Nm
  HD:=J (by decide) (by kernel_rfl) (by kernel_rfl) Nl
  HC:=J (by decide) (by kernel_rfl) (by kernel_rfl) Nk
  Aw:=J (by decide) (by kernel_rfl) (by kernel_rfl) Nj
  HB:=J (by decide) (by kernel_rfl) (by kernel_rfl) Ni},J (by decide) (by kernel_rfl) (by kernel_rfl) Nh⟩
theorem Cz:opening PW=plainProg PW.main.scope.names:=by kernel_rfl
theorem Au:∀s,fenceModules? PW s=some s:=λs=>by kernel_rfl
theorem rest_eq{s U:Shared}(h:U.os=s.os):U.rest=s.rest:=Shared.rest_eq h
theorem behind(w:World):(∃s,AfterRun (opening PW) w s)/\∀s,AfterRun (opening PW) w s->∃af,fenceModules? PW s=some af/\af.gens= #[]/\∃s₁,TopRan PW w af s₁/\s₁.asleep/\0<s₁.toks/\s₁.gens= #[]/\s₁.heap.isNs mainGlobals=true/\
 Ground qV lV [] (λ_ _=>True) w s₁ (s₁.heap.nsMap mainGlobals) (s₁.heap.nsMap builtinsNs) s₁.heap/\
 ∃C P5 C5 P6 C6,s₁.heap.get? P5=some (tabObj #[])/\s₁.heap.get? P6=some (tabObj #[])/\P5≠P6/\
  ∀c:Cx,c.w=w->c.C=C->c.mg=s₁.heap.nsMap mainGlobals->c.mb=s₁.heap.nsMap builtinsNs->jw s₁.heap c->LawC c P5 C5 P6 C6/\∃v,FnAt c 28 "law" v:=by
 have h:=boot_open (p:=PW) (N:=600) Cz rfl Au w;rw[<-table_eq_tree]at h;refine aq (mA h) λaf h2 h3=>?_;obtain⟨s,h4,h5⟩:=bind_eq_some_iff.mp h2;have A:=AfterImport.of_importEnds h4;refine⟨⟨s,A⟩,λU yq=>?_⟩;obtain rfl:U=s:=AfterImport.unique yq A;have z:af.asleep:=Shared.asleep_of_life (fence_lifeW h5) A.life;obtain⟨q1,q2,q3,q4,J⟩:=af;simp only[Prod.mk.injEq]at h3;refine gO h3 λHW rS gD Y=>?_;clear h3;obtain rfl:=HW;obtain rfl:=rS;obtain rfl:=gD;obtain rfl:=Y;refine ru (B1 w J z) λs₁ I m o ts r1 r2 r3 r4 r5 r6 r7 r8=>?_;refine⟨S0 w J,h5,rfl,s₁,?_⟩;have hl:=r6;unfold look i8 at hl;obtain⟨e1,hl⟩:=Prod.mk.inj hl;obtain⟨e2,hl⟩:=Prod.mk.inj hl;obtain⟨e3,hl⟩:=Prod.mk.inj hl;obtain⟨e4,hl⟩:=Prod.mk.inj hl;refine uY (sQ e4) λa C N x5 x6 L=>?_;refine AJ (ground_of_open (w:=w) (XP:=λ_ _=>True) (λ_ _=>trivial) qh e1) λG g0 hg g2 g3 g4 g5=>?_;have D:(S0 w J).heap.isNs mainGlobals=true:=by have:=L.lk;unfold laidKept at this;simp only[and_eq_true]at this;exact this.1.1
 refine⟨⟨⟨m,I,r1,r2⟩,r3,rest_eq r4,λb ob hb hn=>r5 b ob ?_ (λq=>hn (.inl q)) (λq=>hn (.inr (.inl q))) (λq=>hn (.inr (.inr ?_))) hb,g2,statics_of_ok L.st,g3,g4,g5,gens_of_done L.gd,names_of_bound L.nb,laid_of_kept L.lk⟩,
  Shared.asleep_of_life r3 z,L.tk,Array.eq_empty_of_size_eq_zero (beq_iff_eq.mp g0),hg,G,sU r6 r8 r7⟩
 .exact lt_size hb
 .have:(S0 w J).heap.nsMap mainGlobals "__annotations__"=ann:=by kernel_rfl
  exact(Pin.globalOf_eq D _).trans (this.trans q)
theorem nD:∀{xs:List WData},WShape.hasItems [] xs .int=true->∃z:List Int,xs=z.map WData.int
 |[],_=>⟨[],rfl⟩
 |x::xs,h=>by
  have h':WShape.has [] x .int=true/\WShape.hasItems [] xs .int=true:=by simpa[WShape.hasItems]using h
  obtain⟨i,rfl⟩:=hasW_int h'.1;obtain⟨z,rfl⟩:=nD h'.2;exact⟨i::z,rfl⟩
noncomputable abbrev LR:OpenLaw:=PySem.Challenge.rw_wb0103_01
noncomputable abbrev mT:RowW:=LR.row.toRowW
theorem yj{args:List WData}(h:mT.claim.pre args=true):∃z:List Int,args=[.list (z.map WData.int)]/\z.length<=63:=by
 obtain⟨h1,h2⟩:=pre_splitW h;refine bD (hasAllW_cons (e:= .list .int) (es:=[]) h1) λd r D hd hr=>?_;obtain rfl:=D;obtain rfl:=hasAllW_nil hr;refine aq (hasW_list hd) λxs I Y=>?_;obtain rfl:=I;obtain⟨z,rfl⟩:=nD Y;refine⟨z,rfl,?_⟩;have h3:(WTm.and (.not (.lt (.lit (.int 63)) (.len (.arg 0)))) (.lit (.bool true))).holds [] {args:=[.list (z.map WData.int)]}=true:=h2;have J:W.less? (.int 63) (.int ((z.map WData.int).length:Nat))=some (decide ((63:Int)< ((z.map WData.int).length:Nat))):=rfl;by_cases h:(63:Int)< ((z.map WData.int).length:Nat)
 .rw[decide_eq_true h]at J;refine ft (Eq.trans ?_ h3);simp only[WTm.holds,WTm.value,List.getElem?_cons_zero,J,map_some];rfl
 .rw[length_map]at h;exact ao 0x3f22a783f22a0 [_] [] (G9 h)
theorem oU{P:Params}{h:Heap}:∀{I:List Int}{vs:List Value},WellAll P h vs (I.map WData.int)->∀{w:World}{C:Addr}{G:PH},aE w C G (I.map D.int) vs
 |[],vs,x,w,C,G=>by cases x;simp[aE]
 |z::I,vs,x,w,C,G=>by
  cases x with
  |cons a b=>cases a;simp only[map_cons,aE];exact⟨_,_,rfl,⟨_,rfl⟩,oU b⟩
theorem wR{P:Params}{h:Heap}{vs:List Value}{xs:List WData}(W:WellAll P h vs [.list xs]):∃a z,vs=[.ref a]/\h.get? a=some {cls:= .type "list",data:= .seq (toArray z)}/\WellAll P h z xs:=by
 cases W with
 |cons a b=>
  cases b;cases a with
  |list ho D=>exact⟨_,_,rfl,ho,D⟩
def kI:Prop:=∀script:List Int,script.length<=63->∃c0 c1 c2 c3 n n0 n1 n2 z sr bx f0 f1 f2 num M,(rz script).map D.int=[ax c0,ax c1,ax c2,ax c3]/\wO c0 c1 c2 c3 n n0 n1 n2 z sr bx f0 f1 f2 num M
theorem sm:aL callerA 41:=⟨rfl,rfl,by decide,by decide⟩
noncomputable def Oj:List (Str×Expr):=[]
noncomputable def ye:DefRec:=match defOf qV "law" with
 |some x=>x.1
 |none=>⟨"",default,[],default,default⟩
theorem Dy:defOf qV "law"=some (ye,Oj):=by kernel_rfl
theorem AO:PW.theDef "law"=some (ye.params,ye.body,ye.scope):=by kernel_rfl
theorem Dx:kwWritten? ye.params.kwonlyargs ye.params.kw_defaults=some Oj:=by kernel_rfl
theorem zU(PL:kI){w:World}{af s₁:Shared}{C P5 C5 P6 C6:Addr}(g5:af.heap.get? P5=some (tabObj #[]))(g6:af.heap.get? P6=some (tabObj #[]))(OT:P5≠P6)
 (hc:∀c:Cx,c.w=w->c.C=C->c.mg=af.heap.nsMap mainGlobals->c.mb=af.heap.nsMap builtinsNs->jw af.heap c->LawC c P5 C5 P6 C6/\∃v,FnAt c 28 "law" v)
 {args:List WData}{vs:List Value}{as:List Addr}(oJ:mT.claim.pre args=true)(L:Laid [] w af s₁ args vs as)(Hp:0<s₁.toks):
 ∃f,af.heap.nsMap mainGlobals "law"=some f/\wpAny (model PW w) callerA (PySem.call f vs) (λv U=>GoodWG mT.claim (classAt af.heap) (ExcName.means af.heap) args s₁ (.ok (.ret v)) U) (λ_ _=>False) s₁:=by
 refine aq (yj oJ) λzs rS hz=>?_;obtain rfl:=rS;have hS:jw af.heap ⟨w,C,hideAll s₁.heap [P5,P6],af.heap.nsMap mainGlobals,af.heap.nsMap builtinsNs⟩:=λb o e jQ=>by
  refine hideAll_get _ (L.keeps _ _ e) λI=>?_;simp only[mem_cons,not_mem_nil,or_false]at I;rcases I with rfl|rfl
  .rw[g5]at e;obtain rfl:=bg e;exact jQ rfl
  .rw[g6]at e;obtain rfl:=bg e;exact jQ rfl
 obtain⟨lc,f,fa⟩:=hc _ rfl rfl rfl rfl hS;refine⟨f,fa.g,?_⟩;obtain⟨c0,c1,c2,c3,n,n0,n1,n2,Hh,sr,bx,f0,f1,f2,num,M,J,ok⟩:=PL zs hz;have Mb:=Fo lc sm fa (script:=zs) (by exact ao 0x3f22a03e832a0 [_] [] hz) J ok;refine bD (wR L.well) λad vl LK ho hw=>?_;subst LK;have k5:=L.keeps _ _ g5;have k6:=L.keeps _ _ g6;have Q0:ad∉[P5,P6]:=by
  intro I;simp only[mem_cons,not_mem_nil,or_false]at I;rcases I with rfl|rfl
  .rw[k5]at ho;cases ho
  .rw[k6]at ho;cases ho
 have LV:jM [(P5,tabObj #[]),(P6,tabObj #[])] s₁.heap:=λq Y=>by
  simp only[mem_cons,not_mem_nil,or_false]at Y;rcases Y with rfl|rfl
  .exact k5
  .exact k6
 refine wpAny_mono (Mb (λ_ _=>False) s₁ (λa o=>(hideAll s₁.heap [P5,P6]).get? a=some o) _ [(P5,tabObj #[]),(P6,tabObj #[])] ⟨λa o e=>of_hideAll _ e,λ_ _ e=>e,Hp⟩ (λa o e I=>?_) (λb hb=>?_) LV (λt ht=>?_) (λq Y=>?_) ?_) (λv U h=>?_) λ_ _ e=>e
 .rw[hideAll_none _ I]at e;exact ns e
 .simp only[mem_cons,not_mem_nil,or_false]at hb;rcases hb with rfl|rfl
  .exact⟨_,k5⟩
  .exact⟨_,k6⟩
 .simp only[mem_cons,not_mem_nil,or_false]at ht;rcases ht with rfl|rfl
  .exact .inl (.head _)
  .exact .inl (.tail _ (.head _))
 .simp only[mem_cons,not_mem_nil,or_false]at Y;rcases Y with rfl|rfl
  .exact .inl (.head _)
  .exact .inl (.tail _ (.head _))
 .refine Exists.intro _ (Exists.intro _ ⟨rfl,?_,rfl⟩);show ∃_,_;exact⟨ad,vl,0,rfl,hideAll_get _ ho Q0,oU hw⟩
 .obtain⟨_,bL,P⟩:=h;have hv:v= .bool true:=P.rep;subst hv;have D:∀{P K:Addr}{t:Tb},t.P=P->t∈tB P5 C5 P6 C6->∃ps,U.heap.get? P=some (tabObj ps):=λ{P' K t}e ht=>by
   subst e;rcases P.told t ht with q|⟨ps,_,_,q,_⟩
   .exact⟨_,P.pin _ q⟩
   .exact⟨_,P.pin _ q⟩
  have t5:=D (t:=B4 P5 C5) (K:=C5) rfl (.head _);have t6:=D (t:=B3 P6 C6) (K:=C6) rfl (.tail _ (.head _));have z:∀{P K:Addr},CodeHd (hideAll s₁.heap [P5,P6]) K P->isCodeTable s₁.heap P:=λ{P K}hd=>by refine MH hd λo vs file tf flags tg Ot text tt h1 h2 h3 h4 _=>?_;clear hd;exact⟨K,o,vs,of_hideAll _ h1,h2,h3,h4⟩
  have c5:=z lc.ar.t5.head;have c6:=z lc.ar.t6.head;refine⟨.inl ⟨_,.bool true,[],rfl,λ_=>rfl,.bool true,?_,λ_=>⟨List.nodup_nil,λ_ h=>nomatch h⟩⟩,⟨λb o e=>?_,λb o e=>?_⟩,by rw[P.rest],.of_eq (by rw[P.rest];exact L.gens)⟩
  .kernel_rfl
  .by_cases hb:b∈tT P5 P6
   .simp only[mem_cons,not_mem_nil,or_false]at hb;rcases hb with rfl|rfl
    .rw[k5]at e;obtain rfl:=bg e;obtain⟨ps,hp⟩:=t5;exact .inr (.inl ⟨c5,rfl,#[],ps,rfl,by refine Eq.trans hp ?_;simp⟩)
    .rw[k6]at e;obtain rfl:=bg e;obtain⟨ps,hp⟩:=t6;exact .inr (.inl ⟨c6,rfl,#[],ps,rfl,by refine Eq.trans hp ?_;simp⟩)
   .exact .inl (P.old b o hb e)
  .by_cases hb:b∈tT P5 P6
   .exact P.ex b hb
   .exact⟨o,P.old b o hb e⟩
theorem DO:PW.bare:=by refine⟨rfl,rfl,rfl,rfl,rfl,?_⟩;unfold Program.tablesWhole TablesWhole.wProgram TablesWhole.holds;rw[PySem.W.Fast.te6116379765354995101,PySem.W.Fast.te15985051520779696433];kernel_rfl
theorem zw:opensWell PW=true:=by kernel_rfl
theorem An:frees mT=true:=by kernel_rfl
theorem Cr:mT.promised:=⟨[.list []],by kernel_rfl,by kernel_rfl⟩
theorem sX(PL:kI):mT.claim.HoldsOpenBy (callStub "law") ["law"] LR.row.keeps false:=by
 refine ib (frees_parts An) λY hu ha Ky hm=>?_;refine⟨⟨DO,zw,by show mT.makers.map mT.maker=[];rw[hm];rfl⟩,⟨[.list []],by kernel_rfl,by kernel_rfl⟩,λw=>⟨(behind w).1,λs hs=>?_⟩⟩;obtain⟨af,hf,QS,s₁,hT,hz,Hp,hg,Ht,G,C,P5,C5,P6,C6,g5,g6,OT,hc⟩:=(behind w).2 s hs;refine⟨af,hf,QS,s₁,hT,λn hn=>?_,(λx hx=>nomatch hx),(λx hx=>nomatch hx),?_⟩
 .simp only[mem_cons,not_mem_nil,or_false]at hn;subst hn;exact pinned_of_view Ht G Dy AO Dx
 refine ClaimW.callFrom_of_specG (c:=mT.claim) hz hg λargs I Ma ord J=>?_;obtain⟨⟨vs,ay⟩,D⟩:=Option.isSome_iff_exists.mp (layAllW_isSome (P:=w.params) (ord:=ord) G.has args mT.args s₁ (pre_splitW I).1);have keeps:=layAllW_keeps _ _ _ D;have vZ:=layAllW_rest _ _ _ D;refine jU (reads_layAllW J _ _ _ D Ma ay.heap (λ_ _ e=>e)) λas LQ Je hold=>?_;have L:Laid [] w s₁ ay args vs as:=⟨⟨ord,J,D⟩,LQ,Je,hold,keeps,vZ.1.trans hg,vZ.2.2.1⟩;refine aq (zU PL g5 g6 OT hc I L (lt_of_lt_of_le Hp (layAllW_grows _ _ _ D).toks)) λf hf h=>?_;have hi:=ident_freeW hu ha Ky;have Q9:ay.heap.Ns mainGlobals (s₁.heap.nsMap mainGlobals):=G.T.g.keeps keeps;refine⟨vs,ay,D,wpAny_bind (wpAny_nsGet Q9 ?_)⟩;rw[hf];refine wpAny_bind (wpAny_mono h (λv U g=>wpAny_pure ⟨_,rfl,?_⟩) λ_ _ x=>x.elim);have z:=g.laid (c:=mT.claim) Y rfl hi L;exact⟨z.1,z.2.1,z.2.2,λq=>by exact ft q⟩
theorem Cj:noRoadLSs {strict:= !(importedModules PW.main.body).all cThrough.contains,foot:=none,bare:=(["vars","dir","locals"]:List Str).filter (readsOut PW PW.main.body)} PW.main.body=true:=by rw[PySem.W.Fast.te8326940854005059898,PySem.W.Fast.te13343964577679436407];kernel_rfl
theorem DP:namesMeet PW PW.main.body (λ_ n=>attrL n)=true:=by rw[PySem.W.Fast.te17119622794617984870,PySem.W.Fast.te17868728402115742887];kernel_rfl
theorem Fc:namesResolve PW=true:=by rw[PySem.W.Fast.te8377067652309620493];kernel_rfl
theorem zP:looksOpen PW=true:=by unfold looksOpen;rw[Cj,DP,Fc];kernel_rfl
theorem E8:LR.row.wellSaid=true:=by unfold OpenRow.wellSaid OpenRow.partSaid;rw[show looksOpen LR.row.prog=true from zP];kernel_rfl
theorem Cf:LR.wellSaid=true:=by unfold OpenLaw.wellSaid;rw[E8,PySem.W.Fast.te8326940854005059898,PySem.W.Fast.te17119622794617984870];kernel_rfl
theorem holds_of(D:kI):LR.Holds:=holds_law Cf λz=>⟨z,Cr,sX D⟩
noncomputable def vn(f:Nat->Nat->Nat->Bool):Bool:=(range 6).all λa=>(range 6).all λb=>(range 6).all λc=>a+b+c==0||decide (5<a+b+c)||f a b c
theorem ka{f:Nat->Nat->Nat->Bool}(h:vn f=true){a b c:Nat}(D:1<=a+b+c)(z:a+b+c<=5):f a b c=true:=by
 unfold vn at h;have h:=gB h a (mem_range.mpr (by exact ao 0x512cba110612112a10 [_,_,_] [] z));have h:=gB h b (mem_range.mpr (by exact ao 0x512cab110612112a10 [_,_,_] [] z));have h:=gB h c (mem_range.mpr (by exact ao 0x512acb110612112a10 [_,_,_] [] z));simp only[or_eq_true,beq_iff_eq,decide_eq_true_eq]at h;rcases h with(h|h)|h
 .exact absurd ‹_› (ne_of_gt D)
 .exact absurd ‹_› (Nat.not_lt.mpr z)
 .exact h
noncomputable def BA:List Int:=[2,3,4,5,6,7,8,9,-2,-3,-4,-5,-6,-7,-8,-9]
theorem H9(c2:Nat):iA c2∈BA:=by
 unfold iA;have D:c2%8<8:=mod_lt _ (by decide);have z:c2/8%2<2:=mod_lt _ (by decide);generalize c2%8=a at D;generalize c2/8%2=b at z;have ha:a=0\/a=1\/a=2\/a=3\/a=4\/a=5\/a=6\/a=7:=by lia
 have hb:b=0\/b=1:=by lia
 rcases hb with rfl|rfl<;>rcases ha with rfl|rfl|rfl|rfl|rfl|rfl|rfl|rfl<;>decide
noncomputable def fN(q:Int)(a b c:Nat):Int:=(iu q (a+b+c)).fdiv (eZ q [a,b,c])
noncomputable def cy(q:Int)(a b c m:Nat):Int:=(nT (fN q a b c) q m).fdiv (nS q (a+b+c) m)
noncomputable def JP(q:Int)(a b c:Nat):Bool:=
 (iu q (a+b+c)).fmod (eZ q [a,b,c])==0&&decide ((fN q a b c).natAbs<2^60)&&
 [a,b,c].all λm=>(nT (fN q a b c) q m).fmod (nS q (a+b+c) m)==0&&decide ((cy q a b c m).natAbs<2^60)
theorem AY:(BA.all λq=>vn (JP q))=true:=by kernel_rfl
noncomputable def numOf(w a b c:Nat):Int:=(iu (2^w) (a+b+c)).fdiv (eZ (2^w) [a,b,c])
noncomputable def Iq(l:List Int):Int:=l.foldl (λm x=>if m<x then x else m) 0
noncomputable def JN(w a b c:Nat):Bool:=
 let n:=a+b+c
 let num:=numOf w a b c
 let base:Int:=2^w
 let fl:=eI n (rO a b c)
 let M:=(Iq fl).toNat
 (iu base n).fmod (eZ base [a,b,c])==0&&decide (0<=num)&&decide (num.natAbs<2^900)&&
 fl.contains (M:Int)&&(fl.all λx=>decide (x<=M))&&decide (M<=1000)&&
 bX w ((intBits num.toNat+w-1)/w) num.toNat==((range (M+1)).map λ(k:Nat)=>(fl.count (k:Int):Int))&&
 (-num).fmod (base+1)==(-(eY n (rO a b c):Int)).fmod (base+1)&&num.fmod (1-base)==((aT n (rO a b c)).length:Int)+1-base&&
 ([(-num).fdiv (base+1),(-num).fmod (base+1),num.fdiv (1-base),num.fmod (1-base)].all λx=>decide (x.natAbs<2^1000))
theorem AW:(([6,7,8,9]:List Nat).all λw=>vn (JN w))=true:=by kernel_rfl
noncomputable def GG(q:Int)(n:Nat):Bool:=
 ((range n).all λj=>((lg (bQ q j) (j+1)).all λx=>decide (x.natAbs<=2^60))&& !(cj (lg (bQ q j) (j+1))==0))&&(bQ q n).map (·.2)==replicate (n+1) 0
theorem tN:(BA.all λq=>(range 6).all (GG q))=true:=by kernel_rfl
section
open PySem.StrLaws
theorem Dv{l:List Nat}{i c:Nat}(h:l[i]? =some c):l.drop i=c::l.drop (i+1):=by obtain⟨hi,e⟩:=List.getElem?_eq_some_iff.mp h;rw[drop_eq_getElem_cons hi,e]
theorem uD(l:List Nat)(c:Nat):∀(k i:Nat)(st:Array Nat×Nat),i+k=l.length+1->st.2<=i->st.1.size<=i->
 (forIn (range' i k) st (occBody (tx l) (tx [c]) (tx l).length ((tx l).length+1))).run.fst.size=st.1.size+(l.drop i).count c
 |0,i,st,D,_,_=>by rw[List.drop_eq_nil_of_le (by exact ao 47352326982560 [_,_] [] (ju D))];rfl
 |k+1,i,st,D,h2,Y=>by
  have hl:(tx l).length=l.length:=df;have z:=subAt_one (tx l) c i;have J:(tx l).cps.toList=l:=rfl;rw[J]at z;rw[List.range'_succ,forIn_cons];unfold occBody;split
  .rename_i h;have e:=Dv (z.mp ⟨h.1.2,h.2⟩);have:=uD l c k (i+1) (st.1.push i,i+(tx [c]).length) (by exact dG (ao 0x112c1112b1a10112c1b112a110 [_,_,_] [] (dX D)) (ao 0x112c1b1112a10c112b11112a10 [_,_,_] [] (ju D))) (by rw[df];exact le_refl _) (by rw[Array.size_push];exact ao 0xba0112b1112a10 [_,_] [] Y);unfold occBody at this;refine this.trans ?_;rw[Array.size_push,e,List.count_cons_self];exact dG (aI 77319451637358864 [_,_] []) (aI 0xb112a11112b1a10 [_,_] [])
  .rename_i h;have:=uD l c k (i+1) st (by exact dG (ao 0x112c1112b1a10112c1b112a110 [_,_,_] [] (dX D)) (ao 0x112c1b1112a10c112b11112a10 [_,_,_] [] (ju D))) (by exact ao 798881919392 [_,_] [] h2) (by exact ao 798881919392 [_,_] [] Y);unfold occBody at this;refine this.trans ?_;congr 1;rcases lt_or_ge i l.length with hi|hi
   .have I:l[i]? ≠some c:=λe=>h ⟨⟨⟨by rw[hl];exact aM 0xb112c10ca0112b1112a10 [_,_,_] [] Y hi,h2⟩,(z.mpr e).1⟩,(z.mpr e).2⟩;rw[drop_eq_getElem_cons hi,List.count_cons_of_ne];rw[getElem?_eq_getElem hi]at I;exact λe=>I (by rw[e])
   .rw[List.drop_eq_nil_of_le hi,List.drop_eq_nil_of_le (by exact ao 798881919392 [_,_] [] hi)]
theorem AS(l:List Nat)(c:Nat):kA l c=l.count c:=by unfold kA;rw[occ_eq];have:=uD l c ((tx l).length+1) 0 (#[],0) (by rw[df];exact dG (aI 4831327419433488 [_] []) (aI 4831323366697488 [_] [])) (le_refl _) (le_refl _);rw[Array.length_toList,Nat.sub_zero];refine this.trans ?_;simp
theorem i6{x:Nat}(h:x<3):x=0\/x=1\/x=2:=EE h
theorem n8:∀{w:List Nat}{o:Nat},(∀x∈w,x<3)->o<3->(w.map lt).count (lt o)=w.count o
 |[],_,_,_=>rfl
 |x::w,o,z,ho=>by have D:=n8 (w:=w) (o:=o) (λy I=>z y (.tail _ I)) ho;rw[map_cons,count_cons,count_cons,D];congr 1;have J:=z x (.head _);rcases i6 J with rfl|rfl|rfl<;>rcases i6 ho with rfl|rfl|rfl<;>decide
theorem Fh{w:List Nat}{k o:Nat}(D:∀x∈w,x<3)(ho:o<3):j7 (wS w) k o=((w.take k).count o:Nat):=by
 have e:dm (wS w) none (some (k:Int)) none=tx ((w.take k).map lt):=by rw[map_take];exact sC (w:=w.map lt)
 unfold j7;rw[e];have:=AS ((w.take k).map lt) (lt o);unfold kA at this;rw[n8 (λx z=>D x (mem_of_mem_take z)) ho]at this;exact congrArg (λn:Nat=>(n:Int)) this
noncomputable def j9:List (Nat×List Nat):=dC.map (λs=>(s,[s]))++eA.map (λs=>(s,[]))++(fc.map λd=>[102,105,108].map λl=>(d+l-97,[l])).flatten++jC.zip jK
noncomputable def zC(p:Nat×List Nat):Bool:=decide ((qU p.1).length<=100)&&mx p.1==eA.contains p.1&&decide (p.1<=0x10FFFF)&&decide (p.2.length<=3)&&if mx p.1 then p.2==[]else(m3 p.1).cps.toList==p.2
theorem zB:j9.all zC=true:=by kernel_rfl
theorem j8{p:Nat×List Nat}(h:p∈j9):(qU p.1).length<=100/\mx p.1=eA.contains p.1/\p.1<=0x10FFFF/\(mx p.1=false->(m3 p.1).length<=3)/\eP [p.1]=p.2:=by
 have D:=gB zB p h;unfold zC at D;simp only[and_eq_true,decide_eq_true_eq,beq_iff_eq]at D;obtain⟨⟨⟨⟨Y,J⟩,I⟩,h4⟩,z⟩:=D;cases hb:mx p.1 with
 |true=>rw[hb,if_pos rfl]at z;refine⟨Y,hb▸J,I,λq=>by(exact tf q),?_⟩;rw[eq_of_beq z];unfold eP;rw[filter_cons,hb];rfl
 |false=>
  rw[hb,if_neg Bool.false_ne_true]at z;have z:=eq_of_beq z;refine⟨Y,hb▸J,I,λ_=>?_,?_⟩
  .have:(m3 p.1).length=p.2.length:=congrArg length z;exact aM 864975174439584 [_,_] [] (dX this) h4
  .unfold eP;rw[filter_cons,hb];simp[z]
noncomputable def pF:List (List Nat):=[[102],[105],[108]]
noncomputable def Fi:List (List Nat):=pF++(pF.map λa=>pF.map λb=>a++b).flatten++(pF.map λa=>(pF.map λb=>pF.map λc=>a++b++c).flatten).flatten
theorem zl:(Fi.all λu=>(range 24).all λk=>(j9.any λp=>beq p.1 (codeOf u k)&&p.2==u.take (aW u k))&&decide (1<=aW u k))=true:=by kernel_rfl
theorem zO:∀{w:List Nat},(∀x∈w,x=102\/x=105\/x=108)->w≠[]->w.take 3∈Fi
 |[],_,h=>absurd rfl h
 |[a],z,_=>by have ha:=z a (.head _);rcases ha with rfl|rfl|rfl<;>decide
 |[a,b],z,_=>by have ha:=z a (.head _);have hb:=z b (.tail _ (.head _));rcases ha with rfl|rfl|rfl<;>rcases hb with rfl|rfl|rfl<;>decide
 |a::b::c::r,z,_=>by have ha:=z a (.head _);have hb:=z b (.tail _ (.head _));have hc:=z c (.tail _ (.tail _ (.head _)));show [a,b,c]∈Fi;rcases ha with rfl|rfl|rfl<;>rcases hb with rfl|rfl|rfl<;>rcases hc with rfl|rfl|rfl<;>decide
theorem m9(w:List Nat)(k:Nat):aW (w.take 3) k=aW w k:=by unfold aW;rw[take_take,take_take];rfl
theorem sy(w:List Nat)(k:Nat):aW w k<=3:=by
 unfold aW;split
 .exact aI 51523872 [] []
 .split
  .exact by decide
  .exact by decide
theorem yg{w:List Nat}(k:Nat):codeOf (w.take 3) k=codeOf w k:=by unfold codeOf;rw[m9,take_take,min_eq_left (sy w k)];cases w<;>rfl
theorem xe(a b:List Nat):eP (a++b)=eP a++eP b:=by unfold eP;rw[List.filter_append,map_append,map_append,flatten_append]
theorem o7:∀{ps:List (Nat×List Nat)},(∀p∈ps,p∈j9)->eP (ps.map (·.1))=(ps.map (·.2)).flatten
 |[],_=>rfl
 |p::ps,h=>by
  have z:=o7 (ps:=ps) λx D=>h x (.tail _ D);have I:=(j8 (h p (.head _))).2.2.2.2;have e:eP ((p::ps).map (·.1))=eP [p.1]++eP (ps.map (·.1)):=by rw[<-xe];rfl
  rw[e,z,I];rfl
theorem mm:∀L:List Nat,(L.map λs=>(s,([]:List Nat))).map (·.1)=L/\((L.map λs=>(s,([]:List Nat))).map (·.2)).flatten=[]
 |[]=>⟨rfl,rfl⟩
 |a::L=>⟨congrArg (a:: ·) (mm L).1,(mm L).2⟩
theorem Am:∀(f:Nat)(w:List Nat)(num:Nat)(z:List Nat),w.length<=f->(∀x∈w,x=102\/x=105\/x=108)->
 ∃ps:List (Nat×List Nat),(∀p∈ps,p∈j9)/\gp f w num z=z++ps.map (·.1)/\(ps.map (·.2)).flatten=w/\ps.length<=2*w.length
 |0,w,num,z,hf,_=>by have:w=[]:=eq_nil_of_length_eq_zero (by exact dG (ao 44040864 [_] [] hf) (aI 40992 [_] []));subst this;exact⟨[],λ_ h=>(nomatch h),(append_nil _).symm,rfl,zero_le _⟩
 |f+1,[],num,z,_,_=>⟨[],λ_ h=>(nomatch h),(append_nil _).symm,rfl,zero_le _⟩
 |f+1,a::r,num,z,hf,hw=>by
  generalize J:a::r=w at*;have Y:w≠[]:=by rw[<-J];exact List.cons_ne_nil _ _
  have I:=gB (gB zl _ (zO hw Y)) (num/29%24) (mem_range.mpr (mod_lt _ (by decide)));simp only[and_eq_true,decide_eq_true_eq,any_eq_true,beq_iff_eq]at I;rw[m9,yg,take_take,min_eq_left (sy w _)]at I;generalize hm:aW w (num/29%24)=m at I;obtain⟨⟨⟨px,py⟩,BH,BG,rfl⟩,I⟩:=I;obtain rfl:=Nat.eq_of_beq_eq_true BG
  replace I:=And.intro BH I
  have hlen:0<w.length:=List.length_pos_iff.mpr Y;have hd:(w.take m).length=min m w.length:=length_take;refine tA (Am f (w.drop (w.take m).length) (num/696) (z++(eA.drop (num%29)).take 1++[codeOf w (num/29%24)]) (by rw[length_drop,hd];exact(le_total (m) (w.length)).elim (λq0=>G4 0xce0e1120112b1d0dca10ba0 [_,_,_,_,_] [] (dE (ao 12192672 [_,_] [] Bx)) hf I.2 (G6 q0)) λq0=>aM 0xcd0dca10ba0 [_,_,_,_] [] (dE (ao 12192672 [_,_] [] Bx)) (KP q0)) (λx hx=>hw x (mem_of_mem_drop hx))) λps h1 h2 h3 h4=>?_;have hh:∃hs:List (Nat×List Nat),(∀p∈hs,p∈j9)/\hs.map (·.1)=(eA.drop (num%29)).take 1/\(hs.map (·.2)).flatten=[]/\hs.length<=1:=by refine⟨((eA.drop (num%29)).take 1).map λs=>(s,[]),λp D=>?_,(mm _).1,(mm _).2,by rw[length_map,length_take];exact min_le_left _ _⟩;refine aq (et D) λs hs gD=>?_;obtain rfl:=gD;have:s∈eA:=mem_of_mem_drop (mem_of_mem_take hs);exact mem_append_left _ (mem_append_left _ (List.mem_append_right _ (mem_map.mpr ⟨s,this,rfl⟩)))
  refine tA hh λhs i1 i2 i3 i4=>?_;clear hh;refine⟨hs++[(codeOf w (num/29%24),w.take m)]++ps,λp D=>?_,?_,?_,?_⟩
  .rcases de D with D|D
   .rcases de D with D|D
    .exact i1 p D
    .rw[gj D];exact I.1
   .exact h1 p D
  .have e:gp (f+1) w num z=gp f (w.drop (w.take m).length) (num/696) (z++(eA.drop (num%29)).take 1++[codeOf w (num/29%24)]):=by rw[<-hm,<-J];rfl
   rw[e,h2,map_append,map_append,i2];simp
  .rw[map_append,map_append,flatten_append,flatten_append,i3,h3,map_cons,map_nil,flatten_cons,flatten_nil,append_nil,nil_append,hd];rcases le_total m w.length with h|h
   .rw[min_eq_left h,take_append_drop]
   .rw[min_eq_right h,take_of_length_le h,List.drop_length,append_nil]
  .simp only[length_append,length_cons,length_nil];rw[length_drop,hd]at h4;exact Pj h4 i4 (Nat.le_min.mpr ⟨I.2,hlen⟩) hlen
theorem It{x:Nat}:lt x=102\/lt x=105\/lt x=108:=by
 unfold lt;split
 .exact .inl rfl
 .split
  .exact .inr (.inl rfl)
  .exact .inr (.inr rfl)
theorem xT:(dC.all λs=>(s !=102&&s !=105&&s !=108))=true:=by decide
theorem vx:∀{l:List Nat},(∀x∈l,x<=3)->l.sum<=3*l.length
 |[],_=>zero_le _
 |x::l,h=>by have:=vx (l:=l) λy z=>h y (.tail _ z);have:=h x (.head _);rw[sum_cons,length_cons];lia
structure ND(w:List Nat)(c1 s0:Nat)(sr:List Nat):Prop where
 typed:d9 (w.map lt) c1=s0::sr
 chr:∀x∈s0::sr,x<=0x10FFFF
 tl:(s0::sr).length<=1000
 low:∀x∈s0::sr,(qU x).length<=100
 Kh:((((s0::sr).filter λx=> !mx x).map m3).map (·.length)).sum<=16777216
 fl:∀x∈s0::sr,mx x=eA.contains x
 rd:eP (s0::sr)=s0::w.map lt
 cn:∀o,o<3->kA (s0::w.map lt) (lt o)=w.count o
theorem yH{w:List Nat}(c1:Nat)(hw:∀x∈w,x<3)(hl:w.length<=5):∃s0 sr,ND w c1 s0 sr:=by
 have rf:∀x∈w.map lt,x=102\/x=105\/x=108:=λx hx=>by refine aq (et hx) λy _ D=>?_;obtain rfl:=D;exact It
 refine tA (Am (w.map lt).length (w.map lt) (c1/16) [dC.getD (c1%16) 0] (le_refl _) rf) λps h1 h2 h3 h4=>?_;rw[length_map]at h4;have hs:dC.getD (c1%16) 0∈dC:=by have jW:c1%16<dC.length:=mod_lt _ (by decide);rw[getD_eq_getElem?_getD,getElem?_eq_getElem jW];exact getElem_mem jW
 have ht:d9 (w.map lt) c1=gp (w.map lt).length (w.map lt) (c1/16) [dC.getD (c1%16) 0]:=rfl;rw[h2]at ht;generalize dC.getD (c1%16) 0=s0 at hs ht h2;have Qy:(s0,[s0])∈j9:=mem_append_left _ (mem_append_left _ (mem_append_left _ (mem_map.mpr ⟨s0,hs,rfl⟩)));have C4:∀p∈(s0,[s0])::ps,p∈j9:=λp I=>by
  rcases dg I with rfl|I
  .exact Qy
  .exact h1 p I
 have Y:s0::ps.map (·.1)=((s0,[s0])::ps).map (·.1):=rfl;have hx:∀x∈s0::ps.map (·.1),∃p∈j9,p.1=x:=λx hx=>by rw[Y]at hx;refine aq (et hx) λp I D=>?_;obtain rfl:=D;exact⟨p,C4 p I,rfl⟩
 obtain⟨sr,J⟩:∃sr:List Nat,sr=ps.map (·.1):=⟨_,rfl⟩;rw[<-J]at Y hx;refine⟨s0,sr,by rw[J];exact ht,λx h=>?_,?_,λx h=>?_,?_,λx h=>?_,?_,λo ho=>?_⟩
 .refine aq (hx x h) λp I D=>?_;obtain rfl:=D;exact(j8 I).2.2.1
 .rw[J,length_cons,length_map];exact aM 0x512b1b213a03e832112a10 [_,_] [] h4 hl
 .refine aq (hx x h) λp I D=>?_;obtain rfl:=D;exact(j8 I).1
 .have h5:∀y∈(((s0::sr).filter λx=> !mx x).map m3).map (·.length),y<=3:=λy hy=>by refine aq (et hy) λz hz D=>?_;obtain rfl:=D;refine aq (et hz) λx IM D=>?_;obtain rfl:=D;obtain⟨i1,i2⟩:=mem_filter.mp IM;refine aq (hx x i1) λp I D=>?_;obtain rfl:=D;exact(j8 I).2.2.2.1 (by simpa using i2)
  refine le_trans (vx h5) ?_;rw[length_map,length_map];have:=length_filter_le (λx=> !mx x) (s0::sr);rw[J,length_cons,length_map]at this;rw[J];exact cU 0x512c5c213b2112b1a2100000072a3130 [_,_,_] [] this h4 hl
 .refine aq (hx x h) λp I D=>?_;obtain rfl:=D;exact(j8 I).2.1
 .rw[Y,o7 C4,map_cons,flatten_cons,h3];rfl
 .rw[AS,List.count_cons_of_ne,n8 hw ho];have:=gB xT s0 hs;simp only[and_eq_true,bne_iff_ne]at this;rcases i6 ho with rfl|rfl|rfl
  .exact this.1.1
  .exact this.1.2
  .exact this.2
theorem lj:∀{w:List Nat},(∀x∈w,x<3)->w.count 0+w.count 1+w.count 2=w.length
 |[],_=>rfl
 |x::w,h=>by have I:=lj (w:=w) λy z=>h y (.tail _ z);have D:=h x (.head _);simp only[count_cons,length_cons];rcases i6 D with rfl|rfl|rfl<;>simp<;>lia
structure rH(W:Wy):Prop where
 len:W.1.length=W.2.length
 nd:W.1.Nodup
theorem fz{ks:List Int}:∀{k:Int},k∉ks->aO ks k=none:=by
 induction ks with
 |nil=>intro k _;rfl
 |cons a ks z=>intro k h;simp only[mem_cons,not_or]at h;simp only[cW];rw[if_neg (λe=>h.1 e.symm),z h.2];rfl
theorem we{W:Wy}{k:Int}(h:k∉W.1):bR W k=0:=by unfold bR;rw[fz h];rfl
theorem zX{ks:List Int}{k x:Int}(h:x∈ks):aO (ks++[k]) x=aO ks x:=by
 induction ks with
 |nil=>cases h
 |cons a ks z=>
  simp only[cons_append,cW];split
  .rfl
  .rename_i ha;rcases dg h with e|h
   .exact absurd e.symm ha
   .rw[z h]
theorem xE{ks:List Int}{k:Int}(h:k∉ks):aO (ks++[k]) k=some ks.length:=by
 induction ks with
 |nil=>exact if_pos rfl
 |cons a ks z=>simp only[mem_cons,not_or]at h;simp only[cons_append,cW];rw[if_neg (λe=>h.1 e.symm),z h.2];rfl
theorem vQ{ks:List Int}:∀{k:Int}{j:Nat},aO ks k=some j->ks[j]? =some k:=by
 induction ks with
 |nil=>intro k j h;exact ns h
 |cons a ks D=>
  intro k j h;simp only[cW]at h;split at h
  .rename_i e;obtain rfl:=bg h;rw[e];rfl
  .refine aq (mA h) λi hi z=>?_;obtain rfl:=z;exact D hi
theorem zi{W:Wy}(o:rH W)(k v x:Int):bR (l6 W k v) x=if x=k then v else bR W x:=by
 unfold l6;by_cases J:k∈W.1
 .refine aq (g8 J) λj D h2=>?_;rw[D];show bR (W.1,W.2.set j v) x=_;unfold bR;by_cases z:x=k
  .subst z;rw[if_pos rfl,D,Option.bind_some,List.getElem?_set_self (by rw[<-o.len];exact h2)];rfl
  .rw[if_neg z];cases hi:aO W.1 x with
   |none=>rfl
   |some i=>
    have Y:j≠i:=by rintro rfl;have e1:=vQ hi;have e2:=vQ D;rw[e1]at e2;exact z (bg e2)
    simp only[Option.bind_some,List.getElem?_set_ne Y]
 .rw[fz J];show bR (W.1++[k],W.2++[v]) x=_;unfold bR;by_cases z:x=k
  .subst z;rw[if_pos rfl,xE J,Option.bind_some,o.len,List.getElem?_append_right (le_refl _),Nat.sub_self];rfl
  .rw[if_neg z];by_cases I:x∈W.1
   .refine aq (g8 I) λi D h2=>?_;show((aO (W.1++[k]) x).bind _).getD 0=_;rw[zX I,D,Option.bind_some,Option.bind_some,List.getElem?_append_left (by rw[<-o.len];exact h2)]
   .rw[fz I,fz]
    .rfl
    .simp only[mem_append,mem_singleton,not_or];exact⟨I,z⟩
theorem Cp{W:Wy}(o:rH W)(k v:Int):rH (l6 W k v)/\∀x,x∈(l6 W k v).1↔x∈W.1\/x=k:=by
 unfold l6;by_cases z:k∈W.1
 .refine aq (g8 z) λj D I=>?_;rw[D];exact⟨⟨by simp[o.len],o.nd⟩,λx=>⟨.inl,λh=>h.elim id λe=>e▸z⟩⟩
 .rw[fz z];refine⟨⟨by simp[o.len],?_⟩,λx=>by simp⟩;show(W.1++[k]).Nodup;rw[nodup_append];exact⟨o.nd,by simp,λa ha b hb e=>z (by rw[mem_singleton]at hb;rw[<-hb,<-e];exact ha)⟩
theorem th{W:Wy}{wt mv:Int}:∀(l:List Int)(g:Wy),l.Nodup->(∀x∈l,x∈W.1)->rH g->
 rH (l.foldl (dz W wt mv) g)/\(∀x,bR (l.foldl (dz W wt mv) g) x=bR g x+(if x-mv∈l then bR W (x-mv)*wt else 0))/\∀x,x∈(l.foldl (dz W wt mv) g).1↔x∈g.1\/x-mv∈l
 |[],g,_,_,o=>⟨o,λx=>by simp,λx=>by simp⟩
 |k::l,g,hn,hs,o=>by
  rw[nodup_cons]at hn;obtain⟨p1,Y⟩:=Cp o (k+mv) (bR g (k+mv)+bR W k*wt);obtain⟨i1,i2,i3⟩:=th (W:=W) (wt:=wt) (mv:=mv) l (dz W wt mv g k) hn.2 (λx z=>hs x (.tail _ z)) p1;rw[foldl_cons];refine⟨i1,λx=>?_,λx=>?_⟩
  .rw[i2 x];unfold dz;rw[zi o];by_cases z:x=k+mv
   .have I:x-mv=k:=by exact dq (ao 807899282024 [] [_,_,_] (t7 z)) (ao 810164205224 [] [_,_,_] (rQ z))
    rw[if_pos z,I,if_neg hn.1,if_pos (.head _),z];exact dq (aI 799135211800 [] [_,_]) (aI 11711658520 [] [_,_])
   .have J:x-mv≠k:=by exact(Int.lt_or_gt_of_ne z).elim (λD=>Ha (ao 0xbc1112a18c112ba618 [] [_,_,_] D)) λD=>oD (ao 0xb112ca118cb6112a18 [] [_,_,_] D)
    rw[if_neg z];simp only[mem_cons,J,false_or]
  .rw[i3 x];unfold dz;rw[Y x];simp only[mem_cons];constructor
   .rintro((h|h)|h)
    .exact .inl h
    .exact .inr (.inl (by exact dq (ao 807899282024 [] [_,_,_] (t7 h)) (ao 810164205224 [] [_,_,_] (rQ h))))
    .exact .inr (.inr h)
   .rintro(h|h|h)
    .exact .inl (.inl h)
    .exact .inl (.inr (by exact dq (ao 810248090024 [] [_,_,_] (t7 h)) (ao 809241459224 [] [_,_,_] (rQ h))))
    .exact .inr h
noncomputable def SS(wt mv:Int)(f:Int->Int):Int->Int:=λk=>f k+wt*f (k-mv)
theorem step_get{W:Wy}(o:rH W)(wt mv:Int):rH (iP W wt mv)/\bR (iP W wt mv)=SS wt mv (bR W)/\∀x,x∈(iP W wt mv).1↔x∈W.1\/x-mv∈W.1:=by
 obtain⟨J,I,D⟩:=th (W:=W) (wt:=wt) (mv:=mv) W.1 W o.nd (λ_ h=>h) o;refine⟨J,funext λx=>?_,D⟩;refine(I x).trans ?_;unfold SS;by_cases z:x-mv∈W.1
 .rw[if_pos z,mul_comm]
 .rw[if_neg z,we z,Int.mul_zero]
noncomputable def TT(q mv:Int)(e:Nat):Nat->(Int->Int)->Int->Int
 |0,f=>f
 |n+1,f=>SS (-q^(n+e)) mv (TT q mv e n f)
noncomputable def f0(k:Int):Int:=if k=0 then 1 else 0
noncomputable def FF(q:Int)(a b c:Nat):Int->Int:=TT q 63 0 a (TT q (-63) 1 b (TT q 64 0 a (TT q (-64) 1 c (TT q 1 0 b (TT q (-1) 1 c f0)))))
theorem DV(a m b n:Int)(f:Int->Int):SS a m (SS b n f)=SS b n (SS a m f):=by
 funext k
 have e:k-m-n=k-n-m:=by exact dq (aI 0xbca66cba668 [] [_,_,_]) (aI 0xbca66cba668 [] [_,_,_])
 unfold SS;rw[e];grind
theorem cH(a m q mv:Int)(e:Nat):∀(n:Nat)(f:Int->Int),SS a m (TT q mv e n f)=TT q mv e n (SS a m f)
 |0,f=>rfl
 |n+1,f=>by show SS a m (SS _ mv (TT q mv e n f))=SS _ mv (TT q mv e n (SS a m f));rw[DV,cH a m q mv e n f]
theorem NQ(q:Int)(a b c:Nat):SS (-q^a) 64 (SS (-q^a) 63 (FF q a b c))=FF q (a+1) b c:=by unfold FF;have e1:∀f,SS (-q^a) 63 (TT q 63 0 a f)=TT q 63 0 (a+1) f:=λf=>rfl;have e2:∀f,SS (-q^a) 64 (TT q 64 0 a f)=TT q 64 0 (a+1) f:=λf=>rfl;rw[e1,cH,cH,e2]
theorem NP(q:Int)(a b c:Nat):SS (-q^(b+1)) (-63) (SS (-q^b) 1 (FF q a b c))=FF q a (b+1) c:=by unfold FF;have e1:∀f,SS (-q^(b+1)) (-63) (TT q (-63) 1 b f)=TT q (-63) 1 (b+1) f:=λf=>rfl;have e2:∀f,SS (-q^b) 1 (TT q 1 0 b f)=TT q 1 0 (b+1) f:=λf=>rfl;rw[cH (-q^b),cH (-q^b),cH (-q^b),cH (-q^b),e2,cH (-q^(b+1)),e1]
theorem NO(q:Int)(a b c:Nat):SS (-q^(c+1)) (-1) (SS (-q^(c+1)) (-64) (FF q a b c))=FF q a b (c+1):=by unfold FF;have e1:∀f,SS (-q^(c+1)) (-64) (TT q (-64) 1 c f)=TT q (-64) 1 (c+1) f:=λf=>rfl;have e2:∀f,SS (-q^(c+1)) (-1) (TT q (-1) 1 c f)=TT q (-1) 1 (c+1) f:=λf=>rfl;rw[cH _ (-64),cH _ (-64),cH _ (-64),e1,cH _ (-1),cH _ (-1),cH _ (-1),cH _ (-1),cH _ (-1),e2]
def Pt(k:Nat)(z:Int):Prop:=∃x y:Int,z=64*x+y/\ -(k:Int)<=x/\ -(k:Int)<=y/\x+y<=k
structure qw(q:Int)(W:Wy)(a b c:Nat):Prop where
 ok:rH W
 f:bR W=FF q a b c
 pt:∀z∈W.1,Pt (a+b+c) z
theorem K6(q:Int):qw q ([0],[1]) 0 0 0:=by
 refine⟨⟨rfl,by simp⟩,funext λx=>?_,λD h=>?_⟩
 .show bR ([0],[1]) x=f0 x;unfold bR f0;by_cases z:x=0
  .subst z;rfl
  .rw[fz (by simpa using z),if_neg z];rfl
 .rw[gj h];exact⟨0,0,by exact dq (aI 2208689229864 [] []) (aI 2207650947864 [] []),by simp,by simp,by simp⟩
theorem mF{q:Int}{W:Wy}{a b c a' b' c':Nat}(h:qw q W a b c){w1 D w2 z:Int}(hf:SS w2 z (SS w1 D (FF q a b c))=FF q a' b' c')(hn:a'+b'+c'=a+b+c+1)
 (hp:∀x y:Int,-((a+b+c:Nat):Int)<=x-> -((a+b+c:Nat):Int)<=y->x+y<=((a+b+c:Nat):Int)->Pt (a+b+c+1) (64*x+y+D)/\Pt (a+b+c+1) (64*x+y+z)/\Pt (a+b+c+1) (64*x+y+D+z)):
 qw q (iP (iP W w1 D) w2 z) a' b' c':=by
 refine eJ (step_get h.ok w1 D) λo1 g1 k1=>?_;refine eJ (step_get o1 w2 z) λo2 g2 k2=>?_;refine⟨o2,by rw[g2,g1,h.f,hf],λkey hk=>?_⟩;rw[hn];have up:∀key,Pt (a+b+c) key->Pt (a+b+c+1) key:=λkey ⟨x,y,e,J,I,i3⟩=>⟨x,y,e,by exact ao 0xacba11788a112cba111788 [_,_,_] [_] J,by exact ao 0xacba11788a112cba111788 [_,_,_] [_] I,by exact ao 0xcba117ba18112cba1117ba18 [_,_,_] [_,_] i3⟩;rcases(k2 key).mp hk with h2|h2
 .rcases(k1 _).mp h2 with Y|Y
  .exact up _ (h.pt _ Y)
  .refine mf (h.pt _ Y) λx y e J I i3=>?_;have:=(hp x y J I i3).1;rwa[show 64*x+y+D=key by exact dq (ao 0xcd6ba402318dcba4023118 [] [_,_,_,_] (rQ e)) (ao 0xcb40231da68dcb402311a8 [] [_,_,_,_] (t7 e))]at this
 .rcases(k1 _).mp h2 with Y|Y
  .refine mf (h.pt _ Y) λx y e J I i3=>?_;have:=(hp x y J I i3).2.1;rwa[show 64*x+y+z=key by exact dq (ao 0xcd6ba402318dcba4023118 [] [_,_,_,_] (rQ e)) (ao 0xcb40231da68dcb402311a8 [] [_,_,_,_] (t7 e))]at this
  .refine mf (h.pt _ Y) λx y e J I i3=>?_;have:=(hp x y J I i3).2.2;rwa[show 64*x+y+D+z=key by exact dq (ao 0xcde66ba402318edcba40231118 [] [_,_,_,_,_] (rQ e)) (ao 0xcb40231dea668edcb4023111a8 [] [_,_,_,_,_] (t7 e))]at this
theorem xC{q:Int}{w:List Nat}(hw:∀x∈w,x<3){k o:Nat}(ho:o<3){W:Wy}(h:qw q W ((w.take k).count 0) ((w.take k).count 1) ((w.take k).count 2)):
 qw q (kd q (wS w) k o W) ((w.take k).count 0+if o=0 then 1 else 0) ((w.take k).count 1+if o=1 then 1 else 0) ((w.take k).count 2+if o=2 then 1 else 0):=by
 have wg:∀p:Int,gC q (wS w) k o p= -q^((w.take k).count o+if decide (p< (o:Int))=true then 1 else 0):=λp=>by unfold gC;rw[Fh hw ho];congr 2;exact KW
 unfold kd;rw[wg,wg];rcases i6 ho with rfl|rfl|rfl
 .have J:(if decide (me ((0:Nat):Int)< ((0:Nat):Int))=true then 1 else 0)=0:=by decide
  have I:(if decide (t9 ((0:Nat):Int)< ((0:Nat):Int))=true then 1 else 0)=0:=by decide
  have m1:fj ((0:Nat):Int)-fj (me ((0:Nat):Int))=63:=by decide
  have Y:fj ((0:Nat):Int)-fj (t9 ((0:Nat):Int))=64:=by decide
  rw[J,I,m1,Y];exact mF h (NQ q _ _ _) (by simp;exact dG (aI 0x112cba111cb112a1110 [_,_,_] []) (aI 0xcb112a111112cba1110 [_,_,_] [])) λx y D z i3=>⟨⟨x+1,y-1,by exact dq (aI 0x112b6112a1402313f22ba4023118 [] [_,_]) (aI 0x3f22ba402311112b6112a1402318 [] [_,_]),by exact ao 0xacba11788112a1112cba111788 [_,_,_] [_] D,by exact ao 0xacba11788112a6112cba111788 [_,_,_] [_] z,by exact ao 0xcba117ba18112cba1117112b6112a118 [_,_,_] [_,_] i3⟩,⟨x+1,y,by exact dq (aI 0xb112a1402314022ba4023118 [] [_,_]) (aI 0x4022ba402311b112a1402318 [] [_,_]),by exact ao 0xacba11788112a1112cba111788 [_,_,_] [_] D,by exact ao 0xacba11788a112cba111788 [_,_,_] [_] z,by exact ao 0xcba117ba18112cba1117b112a118 [_,_,_] [_,_] i3⟩,⟨x+2,y-1,by exact dq (aI 0x112b6212a14023140223f22ba40231118 [] [_,_]) (aI 0x40223f22ba4023111112b6212a1402318 [] [_,_]),by exact ao 0xacba11788212a1112cba111788 [_,_,_] [_] D,by exact ao 0xacba11788112a6112cba111788 [_,_,_] [_] z,by exact ao 0xcba117ba18112cba1117112b6212a118 [_,_,_] [_,_] i3⟩⟩
 .have J:(if decide (me ((1:Nat):Int)< ((1:Nat):Int))=true then 1 else 0)=0:=by decide
  have I:(if decide (t9 ((1:Nat):Int)< ((1:Nat):Int))=true then 1 else 0)=1:=by decide
  have m1:fj ((1:Nat):Int)-fj (me ((1:Nat):Int))=1:=by decide
  have Y:fj ((1:Nat):Int)-fj (t9 ((1:Nat):Int))= -63:=by decide
  rw[J,I,m1,Y];exact mF h (NP q _ _ _) (by simp;exact dG (aI 0x112cba111c112b1a110 [_,_,_] []) (aI 0xc112b1a11112cba1110 [_,_,_] [])) λx y D z i3=>⟨⟨x,y+1,by exact dq (aI 0x112b1a40231112ba4023118 [] [_,_]) (aI 0x112ba402311112b1a402318 [] [_,_]),by exact ao 0xacba11788a112cba111788 [_,_,_] [_] D,by exact ao 0xacba11788112a1112cba111788 [_,_,_] [_] z,by exact ao 0xcba117ba18112cba1117112b1a18 [_,_,_] [_,_] i3⟩,⟨x-1,y+1,by exact dq (aI 0x112b1112a6402313f228ba4023118 [] [_,_]) (aI 0x3f228ba402311112b1112a6402318 [] [_,_]),by exact ao 0xacba11788112a6112cba111788 [_,_,_] [_] D,by exact ao 0xacba11788112a1112cba111788 [_,_,_] [_] z,by exact ao 0xcba117ba18112cba1117112b1112a618 [_,_,_] [_,_] i3⟩,⟨x-1,y+2,by exact dq (aI 0x212b1112a6402313f228112ba40231118 [] [_,_]) (aI 0x3f228112ba4023111212b1112a6402318 [] [_,_]),by exact ao 0xacba11788112a6112cba111788 [_,_,_] [_] D,by exact ao 0xacba11788212a1112cba111788 [_,_,_] [_] z,by exact ao 0xcba117ba18112cba1117212b1112a618 [_,_,_] [_,_] i3⟩⟩
 .have J:(if decide (me ((2:Nat):Int)< ((2:Nat):Int))=true then 1 else 0)=1:=by decide
  have I:(if decide (t9 ((2:Nat):Int)< ((2:Nat):Int))=true then 1 else 0)=1:=by decide
  have m1:fj ((2:Nat):Int)-fj (me ((2:Nat):Int))= -64:=by decide
  have Y:fj ((2:Nat):Int)-fj (t9 ((2:Nat):Int))= -1:=by decide
  rw[J,I,m1,Y];exact mF h (NO q _ _ _) (by simp;exact dG (aI 0x112cba111112c1ba110 [_,_,_] []) (aI 0x112c1ba11112cba1110 [_,_,_] [])) λx y D z i3=>⟨⟨x-1,y,by exact dq (aI 0xb112a64023140228ba4023118 [] [_,_]) (aI 0x40228ba402311b112a6402318 [] [_,_]),by exact ao 0xacba11788112a6112cba111788 [_,_,_] [_] D,by exact ao 0xacba11788a112cba111788 [_,_,_] [_] z,by exact ao 0xcba117ba18112cba1117b112a618 [_,_,_] [_,_] i3⟩,⟨x,y-1,by exact dq (aI 0x112b6a402311128ba4023118 [] [_,_]) (aI 0x1128ba402311112b6a402318 [] [_,_]),by exact ao 0xacba11788a112cba111788 [_,_,_] [_] D,by exact ao 0xacba11788112a6112cba111788 [_,_,_] [_] z,by exact ao 0xcba117ba18112cba1117112b6a18 [_,_,_] [_,_] i3⟩,⟨x-1,y-1,by exact dq (aI 0x112b6112a640231112840228ba40231118 [] [_,_]) (aI 0x112840228ba4023111112b6112a6402318 [] [_,_]),by exact ao 0xacba11788112a6112cba111788 [_,_,_] [_] D,by exact ao 0xacba11788112a6112cba111788 [_,_,_] [_] z,by exact ao 0xcba117ba18112cba1117112b6112a618 [_,_,_] [_,_] i3⟩⟩
theorem vt{q:Int}{w:List Nat}(D:∀x∈w,x<3):∀k,k<=w.length->qw q (cu q w k) ((w.take k).count 0) ((w.take k).count 1) ((w.take k).count 2)
 |0,_=>K6 q
 |k+1,J=>by
  have z:k<w.length:=J;have ho:w.getD k 0<3:=by rw[getD_eq_getElem?_getD,getElem?_eq_getElem z];exact D _ (getElem_mem z)
  have I:=xC D ho (vt (q:=q) D k (Nat.le_of_lt z));have e:w.take (k+1)=w.take k++[w.getD k 0]:=by rw[take_add_one,getElem?_eq_getElem z,getD_eq_getElem?_getD,getElem?_eq_getElem z];rfl
  have cn:∀o,(w.take (k+1)).count o=(w.take k).count o+if w.getD k 0=o then 1 else 0:=λo=>by rw[e,List.count_append,List.count_singleton];simp
  rw[cn,cn,cn];exact I
noncomputable def eW:List Int->Int->(Int->Int)->Int->Int
 |[],_,_,_=>0
 |c::p,mv,f,k=>Int.add (Int.mul c (f k)) (eW p mv f (Int.sub k mv))
theorem eM(c:Int)(p:List Int)(mv:Int)(f:Int->Int)(k:Int):eW (c::p) mv f k=c*f k+eW p mv f (k-mv):=rfl
noncomputable def zK(w:Int):Int->List Int->List Int
 |prev,[]=>[w*prev]
 |prev,c::p=>(c+w*prev)::zK w c p
noncomputable def zL(w:Int):Int->List Int->List Int
 |prev,[]=>[prev]
 |prev,c::p=>(prev+w*c)::zL w c p
noncomputable def yp(q:Int):Nat->List Int
 |0=>[1]
 |n+1=>zL (-q^(n+1)) 0 (yp q n)
noncomputable def Cu(q:Int)(p:List Int):Nat->List Int
 |0=>p
 |n+1=>zK (-q^n) 0 (Cu q p n)
noncomputable def Hl(p:List Int)(k:Int):Int:=match k with
 | .ofNat n=>p.getD n 0
 | .negSucc _=>0
theorem Oq{p:List Int}{n:Nat}:Hl p (.ofNat n)=p.getD n 0:=rfl
theorem Ez(w mv:Int)(f:Int->Int):∀(p:List Int)(z k:Int),eW (zK w z p) mv f k=eW p mv f k+w*(z*f k+eW p mv f (k-mv))
 |[],z,k=>by
  show w*z*f k+0=0+w*(z*f k+0)
  grind
 |c::p,z,k=>by have D:=Ez w mv f p c (k-mv);show(c+w*z)*f k+eW (zK w c p) mv f (k-mv)=_;rw[D,eM,eM];grind
theorem EA(w mv:Int)(f:Int->Int):∀(p:List Int)(z k:Int),eW (zL w z p) mv f k=w*eW p mv f k+(z*f k+eW p mv f (k-mv))
 |[],z,k=>by
  show z*f k+0=w*0+(z*f k+0)
  grind
 |c::p,z,k=>by have D:=EA w mv f p c (k-mv);show(z+w*c)*f k+eW (zL w c p) mv f (k-mv)=_;rw[D,eM,eM];grind
theorem DU(q mv:Int)(f:Int->Int):∀n:Nat,TT q (-mv) 1 n f=λk=>eW (yp q n) mv f (k+n*mv)
 |0=>by
  funext k
  show f k=1*f (k+((0:Nat):Int)*mv)+0;rw[show k+((0:Nat):Int)*mv=k by simp];exact dq (aI 705769896 [] [_]) (aI 42993783576 [] [_])
 |n+1=>by
  funext k
  show SS (-q^(n+1)) (-mv) (TT q (-mv) 1 n f) k=eW (zL (-q^(n+1)) 0 (yp q n)) mv f (k+((n+1:Nat):Int)*mv);rw[DU q mv f n,EA];unfold SS;have e1:k- -mv+(n:Int)*mv=k+((n+1:Nat):Int)*mv:=by rw[natCast_add];grind
  have e2:k+((n+1:Nat):Int)*mv-mv=k+n*mv:=by rw[natCast_add];grind
  rw[e2];simp only[e1]
  grind
theorem DT(q mv:Int)(f:Int->Int)(p:List Int)(s:Int):∀n:Nat,TT q mv 0 n (λk=>eW p mv f (k+s))=λk=>eW (Cu q p n) mv f (k+s)
 |0=>rfl
 |n+1=>by
  funext k
  show SS (-q^n) mv (TT q mv 0 n (λk=>eW p mv f (k+s))) k=eW (zK (-q^n) 0 (Cu q p n)) mv f (k+s);rw[DT q mv f p s n,Ez];unfold SS;have e2:k+s-mv=k-mv+s:=by exact dq (aI 0xbca61cba168 [] [_,_,_]) (aI 0xbca16cba618 [] [_,_,_])
  rw[e2];grind
theorem wK:∀(p:List Int)(k:Int),eW p 1 f0 k=Hl p k
 |[],k=>by
  cases k with
  |ofNat n=>rfl
  |negSucc n=>rfl
 |c::p,k=>by
  rw[eM,wK p (k-1)];cases k with
  |ofNat n=>
   cases n with
   |zero=>show c*1+0=c;exact dq (aI 42993783832 [] [_]) (aI 705773992 [] [_])
   |succ n=>
    have e:(Int.ofNat (n+1))-1=Int.ofNat n:=by simp
    rw[e];have z:f0 (Int.ofNat (n+1))=0:=by unfold f0;rw[if_neg];simp;exact oD (aI 301983731941912 [_] [])
    rw[z];show c*0+p.getD n 0=p.getD n 0;exact dq (aI 196740120 [] [_,_]) (aI 179323304 [] [_,_])
  |negSucc n=>
   have e:Int.negSucc n-1=Int.negSucc (n+1):=by lia
   rw[e];have z:f0 (Int.negSucc n)=0:=by unfold f0;rw[if_neg];lia
   rw[z];show c*0+0=0;exact dq (aI 539624472 [] [_]) (aI 704909352 [] [_])
theorem qv(mv s:Int)(f:Int->Int):∀(p:List Int)(k:Int),eW p mv (λk=>f (k+s)) k=eW p mv f (k+s)
 |[],k=>rfl
 |c::p,k=>by rw[eM,eM,qv mv s f p (k-mv),show k-mv+s=k+s-mv by exact dq (aI 0xbca16cba618 [] [_,_,_]) (aI 0xbca61cba168 [] [_,_,_])]
noncomputable def KI(q:Int)(a b c:Nat)(k:Int):Int:=eW (Cu q (yp q b) a) 63 (λk=>eW (Cu q (yp q c) a) 64 (Hl (Cu q (yp q c) b)) (Int.add k (c*65))) (k+b*63)
theorem J3(q:Int)(a b c:Nat):FF q a b c=KI q a b c:=by
 have I:TT q 1 0 b (TT q (-1) 1 c f0)=λk=>Hl (Cu q (yp q c) b) (k+c*1):=by
  rw[DU q 1 f0 c,DT q 1 f0 (yp q c) (c*1) b]
  funext k
  exact wK _ _
 have D:∀g,TT q 64 0 a (TT q (-64) 1 c g)=λk=>eW (Cu q (yp q c) a) 64 g (k+c*64):=λg=>by rw[DU q 64 g c,DT q 64 g (yp q c) (c*64) a]
 have z:∀g,TT q 63 0 a (TT q (-63) 1 b g)=λk=>eW (Cu q (yp q b) a) 63 g (k+b*63):=λg=>by rw[DU q 63 g b,DT q 63 g (yp q b) (b*63) a]
 unfold FF;rw[I,D,z]
 funext k
 unfold KI;congr 1
 funext k
 show eW _ 64 (λk=>Hl _ (k+c*1)) (k+c*64)=eW _ 64 (Hl _) (k+c*65);rw[qv,show k+(c:Int)*64+c*1=k+c*65 by exact dq (aI 0xa74124a1a7114a74024a118 [_] [_]) (aI 0xa7114a74024a11a74124a18 [_] [_])]
noncomputable def fg(f:Int->Int):List Int:=[0,f 64,0,f 1,0,f (-63),0,f (-64),0,f (-1),0,f 63]
noncomputable def JO(q:Int)(a b c:Nat):Bool:=
 KI q a b c 0==fN q a b c&&fg (KI q a b c)==cQ q (rO a b c) [cy q a b c a,cy q a b c b,cy q a b c c] 3
theorem uo{f g:Int->Int}(h1:f 64=g 64)(Y:f 1=g 1)(J:f (-63)=g (-63))(I:f (-64)=g (-64))(D:f (-1)=g (-1))(z:f 63=g 63):fg f=fg g:=by unfold fg;rw[h1,Y,J,I,D,z]
theorem Cm{f:Int->Int}{z:Int}{j:Nat}(h:dj z=some j):(fg f).getD j 0=f z/\∀v,(fg f).set j v=fg λk=>if k=z then v else f k:=by
 unfold dj at h;by_cases D:z=64
 .subst D;obtain rfl:=bg h;exact⟨rfl,λ_=>rfl⟩
 rw[if_neg D]at h;by_cases D:z=1
 .subst D;obtain rfl:=bg h;exact⟨rfl,λ_=>rfl⟩
 rw[if_neg D]at h;by_cases D:z= -63
 .subst D;obtain rfl:=bg h;exact⟨rfl,λ_=>rfl⟩
 rw[if_neg D]at h;by_cases D:z= -64
 .subst D;obtain rfl:=bg h;exact⟨rfl,λ_=>rfl⟩
 rw[if_neg D]at h;by_cases D:z= -1
 .subst D;obtain rfl:=bg h;exact⟨rfl,λ_=>rfl⟩
 rw[if_neg D]at h;by_cases D:z=63
 .subst D;obtain rfl:=bg h;exact⟨rfl,λ_=>rfl⟩
 rw[if_neg D]at h;exact ns h
theorem vu{W:Wy}:∀(l:List Int)(g:Int)(f:Int->Int),l.Nodup->l.foldl (cV W) (g,fg f)=(g+(if 0∈l then bR W 0 else 0),fg λk=>f k+if k∈l then bR W k else 0)
 |[],g,f,_=>by simp
 |key::l,g,f,hn=>by
  rw[nodup_cons]at hn;have hs:cV W (g,fg f) key=(g+(if 0=key then bR W 0 else 0),fg λk=>f k+if k=key then bR W k else 0):=by
   refine Prod.ext ?_ ?_
   .show(if key=0 then g+bR W key else g)=g+if 0=key then bR W 0 else 0
    by_cases h:key=0
    .subst h;rw[if_pos rfl,if_pos rfl]
    .rw[if_neg h,if_neg (Ne.symm h),add_zero]
   .cases e:dj key with
    |none=>
     show(match dj key with|some j=>_|none=>_)=_;rw[e];have z:∀p j,dj p=some j->f p=f p+if p=key then bR W p else 0:=λp j h=>by rw[if_neg λq=>by rw[q,e]at h;exact ns h,add_zero]
     exact uo (f:=f) (g:=λk=>f k+if k=key then bR W k else 0) (z 64 1 rfl) (z 1 3 rfl) (z (-63) 5 rfl) (z (-64) 7 rfl) (z (-1) 9 rfl) (z 63 11 rfl)
    |some j=>
     show(match dj key with|some j=>_|none=>_)=_;rw[e];have r:=Cm e (f:=f);refine(r.2 _).trans ?_;show _=fg λk=>f k+if k=key then bR W k else 0
     refine congrArg fg (funext λk=>?_);show(if k=key then(fg f).getD j 0+bR W key else f k)=_;rw[r.1];by_cases h:k=key
     .subst h;rw[if_pos rfl,if_pos rfl]
     .rw[if_neg h,if_neg h,add_zero]
  rw[foldl_cons,hs,vu l _ _ hn.2];have D:∀k:Int,(if k=key then bR W k else 0)+(if k∈l then bR W k else 0)=if k∈key::l then bR W k else 0:=λk=>by
   by_cases I:k=key
   .subst I;simp[hn.1]
   .simp[I]
  congr 1
  .rw[Int.add_assoc,D 0]
  .congr 1
   funext k
   rw[Int.add_assoc,D k]
theorem B2{W:Wy}(o:rH W):dT W W.1=(bR W 0,fg (bR W)):=by
 have e:(replicate 12 0:List Int)=fg λ_=>0:=rfl;have all:∀k:Int,(0:Int)+(if k∈W.1 then bR W k else 0)=bR W k:=λk=>by
  by_cases z:k∈W.1
  .rw[if_pos z];exact dq (aI 11141656 [] [_]) (aI 10494376 [] [_])
  .rw[if_neg z,we z];exact dq (aI 33686040 [] []) (aI 33689640 [] [])
 unfold dT;rw[e,vu W.1 0 _ o.nd,all 0];congr 2
 funext k
 exact all k
theorem AX:(BA.all λq=>vn (JO q))=true:=by kernel_rfl
end
section
open PySem.StrLaws PySem.Flt
noncomputable def Ck(lo:Int)(n:Nat):List Int:=(range n).map λ(i:Nat)=>lo+i
theorem gs{lo a:Int}{n:Nat}(z:lo<=a)(D:a<lo+n):a∈Ck lo n:=
 mem_map.mpr ⟨(a-lo).toNat,mem_range.mpr (by exact aM 0xb7b1112a18ba6a78b112a10 [_,_] [_,_] (rP (ao 46048895016 [] [_,_] z)) D),by exact dq (ao 0xab6a78ba7a18 [_] [_,_] (rP (ao 46048895016 [] [_,_] z))) (ao 0xa7ba68a7b1a8 [_] [_,_] uc)⟩
noncomputable def Ex(a b:Int):Bool:=t8 (bC a) (bC b)==decide (a<b)&&iE (bC a) (bC b)==decide (a=b)&& !isInf (bC a)
theorem DF:((Ck 11 48).all λa=>(Ck 11 48).all (Ex a))=true:=by kernel_rfl
theorem B5:((Ck 11 48).all λa=>(Ck 0 16).all λd=>Float64.sub (bC (a+d)) (bC a)==bC d)=true:=by kernel_rfl
noncomputable abbrev jg(a:Int):Prop:=11<=a/\a<=58
theorem cN{a b:Int}(ha:jg a)(hb:jg b):t8 (bC a) (bC b)=decide (a<b)/\iE (bC a) (bC b)=decide (a=b)/\isInf (bC a)=false:=by have h:=gB (gB DF a (gs ha.1 (by have:=ha.2;exact ao 0x3a22a830227b121112a18 [] [_] this))) b (gs hb.1 (by have:=hb.2;exact ao 0x3a22a830227b121112a18 [] [_] this));unfold Ex at h;simp only[and_eq_true,beq_iff_eq,not_eq_true']at h;exact⟨h.1.1,h.1.2,h.2⟩
theorem gE{g a:Int}(ha:jg a)(D:a<=g)(z:g<=a+15):Float64.sub (bC g) (bC a)=bC (g-a):=by have h:=gB (gB B5 a (gs ha.1 (by have:=ha.2;exact ao 0x3a22a830227b121112a18 [] [_] this))) (g-a) (gs (by exact ao 46048895016 [] [_,_] D) (by exact ao 0xf12b1a810227021112ba618 [] [_,_] z));rw[show a+(g-a)=g by exact dq (aI 195783192 [] [_,_]) (aI 195473832 [] [_,_])]at h;exact eq_of_beq h
theorem Ea{a b c:Int}(ha:jg a)(hb:jg b)(hc:jg c):aH (bC a) (bC b) (bC c)=bC (gZ a b c):=by
 unfold aH gZ;rw[(cN ha hb).1];by_cases h:a<b
 .simp only[h,decide_true,if_true];rw[(cN hb hc).1];by_cases h':b<c<;>simp[h']
 .simp only[h,decide_false,false_eq_true,if_false];rw[(cN ha hc).1];by_cases h':a<c<;>simp[h']
theorem D9{a b c:Int}(ha:jg a)(hb:jg b)(hc:jg c):aY (bC a) (bC b) (bC c)=bC (lZ a b c):=by
 unfold aY lZ;rw[(cN hb ha).1];by_cases h:b<a
 .simp only[h,decide_true,if_true];rw[(cN hc hb).1];by_cases h':c<b<;>simp[h']
 .simp only[h,decide_false,false_eq_true,if_false];rw[(cN hc ha).1];by_cases h':c<a<;>simp[h']
noncomputable def uK(I D Y d:Int):UInt64:=
 let rc:=div (bC I) (bC d)
 let z:=div (bC D) (bC d)
 let J:=div (bC Y) (bC d)
 let h:=if I=0 then Float64.sub J z else if D=0 then Float64.sub (add 0x4000000000000000 rc) J else Float64.sub (add 0x4010000000000000 z) rc
 if d=0 then 0 else(divmod (div h 0x4018000000000000) 0x3FF0000000000000).2
noncomputable def y9(g l:Int):UInt64:=if l=g then 0 else div (bC (g-l)) (bC g)
noncomputable def Ce(g l:Int):UInt64:=if l=g then 0 else
 if FC (div (add (bC g) (bC l)) 0x4000000000000000) 0x3FE0000000000000 then div (bC (g-l)) (add (bC g) (bC l))else div (bC (g-l)) (Float64.sub (Float64.sub 0x4000000000000000 (bC g)) (bC l))
section
variable{a:Int}{b:Int}{c:Int}{g:Int}{l:Int}(ha:jg a)(hb:jg b)(hc:jg c)(hg:gZ a b c=g)(hl:lZ a b c=l)
include ha hb hc hg hl
theorem nL:jg g/\jg l/\l<=a/\l<=b/\l<=c/\a<=g/\b<=g/\c<=g:=by subst hg hl;exact⟨Jv ha hb hc,IA ha hb hc,vO.1,vO.2.1,vO.2.2,wi.1,wi.2.1,wi.2.2⟩
theorem IQ(D:g-l<=15)(I:l≠g):xN (bC a) (bC b) (bC c) (bC g) (Float64.sub (bC g) (bC l))=uK (g-a) (g-b) (g-c) (g-l):=by
 refine yc (nL ha hb hc hg hl) λig il h1 h2 h3 h4 Y J=>?_;unfold xN uK;rw[gE ha h4 (by exact aM 0xf12ca68bc8f12b1a8 [] [_,_,_] h1 D),gE hb Y (by exact aM 0xf12ca68bc8f12b1a8 [] [_,_,_] h2 D),gE hc J (by exact aM 0xf12ca68bc8f12b1a8 [] [_,_,_] h3 D),gE il (by exact aM 54370536360 [] [_,_,_] J h3) (by exact ao 0xf12ba68f12b1a8 [] [_,_] D),(cN ha ig).2.1,(cN hb ig).2.1,if_neg (show ¬g-l=0 by exact oD (ao 0xa112b18ba61120218 [] [_,_] (EG (aM 54370536360 [] [_,_,_] J h3) I)))];have e1:(decide (a=g)=true)↔g-a=0:=by rw[decide_eq_true_eq];exact⟨λz=>dq (ao 50063391336 [] [_,_] (rQ z)) (ao 46048895016 [] [_,_] h4),λz=>dq (ao 12225448 [] [_,_] h4) (ao 732335016 [] [_,_] (t7 z))⟩
 have e2:(decide (b=g)=true)↔g-b=0:=by rw[decide_eq_true_eq];exact⟨λz=>dq (ao 50063391336 [] [_,_] (rQ z)) (ao 46048895016 [] [_,_] Y),λz=>dq (ao 12225448 [] [_,_] Y) (ao 732335016 [] [_,_] (t7 z))⟩
 simp only[e1,e2]
theorem IT(I:g-l<=15):iB (bC a) (bC b) (bC c)=(uK (g-a) (g-b) (g-c) (g-l),y9 g l,bC g)/\jd (bC a) (bC b) (bC c)=(uK (g-a) (g-b) (g-c) (g-l),div (add (bC g) (bC l)) 0x4000000000000000,Ce g l):=by
 refine yc (nL ha hb hc hg hl) λJ z h1 h2 h3 h4 h5 Y=>?_;have D:=Ea ha hb hc;have hn:=D9 ha hb hc;rw[hg]at D;rw[hl]at hn;unfold iB jd;simp only[D,hn,(cN z J).2.1];by_cases he:l=g
 .simp only[he,decide_true,if_true,y9,Ce,Int.sub_self];have:uK (g-a) (g-b) (g-c) 0=0:=by unfold uK;rw[if_pos rfl]
  rw[this];exact⟨rfl,rfl⟩
 .simp only[he,decide_false,false_eq_true,if_false];rw[IQ ha hb hc hg hl I he];unfold y9 Ce oE;simp only[if_neg he,gE z (show l<=g by exact aM 54370536360 [] [_,_,_] Y h3) (show g<=l+15 by exact ao 0xf12ba68f12b1a8 [] [_,_] I),and_self]
end
noncomputable def uz(g l:Int):Bool:=
 let s:=Kg (g+l) (128-g-l)
 let x:=mul (mul (ofInt 64) (y9 g l)) (bC g)
 (decide (l=g)||(!isZero (bC g)&& !isZero (bC (g-l))))&&
 (decide (l=g)||(!isZero (bC (g-l))&&(if FC (div (add (bC g) (bC l)) 0x4000000000000000) 0x3FE0000000000000 then !isZero (add (bC g) (bC l))else !isZero (Float64.sub (Float64.sub 0x4000000000000000 (bC g)) (bC l)))))&&
 !(g==0)&& !(s==0)&& !isInf (dU (g-l) g)&& !isInf (bC g)&& !isInf (dU (g+l) 128)&& !isInf (dU (g-l) s)&&
 iE (y9 g l) (dU (g-l) g)&&iE (bC g) (bC g)&&iE (div (add (bC g) (bC l)) 0x4000000000000000) (dU (g+l) 128)&&iE (Ce g l) (dU (g-l) s)&&Hj x&&toInt nearestOf x==g-l
noncomputable def z8(z J I D d:Int):Bool:=
 let h:=uK J I D d
 let y:=mul (ofInt 12) h
 iE h h&&Hj y&&((cmpInt h 0==some .eq&&d==0)==decide (z=0))&&((d==2)==(dj z).isSome)&&
 (match dj z with|some j=>(toInt nearestOf y).fmod 12==(j:Int)|none=>true)
theorem GD{z a b c g l:Int}(ha:jg a)(hb:jg b)(hc:jg c)(hg:gZ a b c=g)(hl:lZ a b c=l)(hd:g-l<=15)(D:uz g l=true)(I:z8 z (g-a) (g-b) (g-c) (g-l)=true):ly z a b c=true:=by refine yc (nL ha hb hc hg hl) λig J h1 h2 h3 h4 h5 h6=>?_;obtain⟨e1,e2⟩:=IT ha hb hc hg hl hd;have Y:=Ea ha hb hc;have hn:=D9 ha hb hc;rw[hg]at Y;rw[hl]at hn;unfold ly;simp only[z9,Ad,e1,e2,Y,hn,hg,hl,(cN J ig).2.1,(cN ha ha).2.2,(cN hb hb).2.2,(cN hc hc).2.2,gE J (show l<=g by exact aM 54370536360 [] [_,_,_] h6 h3) (show g<=l+15 by exact ao 0xf12ba68f12b1a8 [] [_,_] hd)];unfold uz at D;unfold z8 at I;refine Ny D λp1 p2 p3 p4 p5 p6 p7 p8 p9 pa pb pc pd pe=>?_;clear D;refine GV I λq1 q2 q3 q4 q5=>?_;clear I;rw[eq_of_beq pe,p1,p2,p3,p4,p5,p6,p7,p8,p9,pa,q1,pb,pc,pd,q2,q3,q4];exact q5
theorem zu:((Ck 11 38).all λl=>(Ck 0 16).all λd=>decide (58<l+d)||uz (l+d) l)=true:=by kernel_rfl
noncomputable def Ib(x y:Int):Bool:=decide (5<x+y)||z8 (64*x+y) (gZ x y (-x-y)-x) (gZ x y (-x-y)-y) (gZ x y (-x-y)-(-x-y)) (gZ x y (-x-y)-lZ x y (-x-y))
theorem Fe:((Ck (-5) 16).all λx=>(Ck (-5) 16).all (Ib x))=true:=by kernel_rfl
theorem Gj(w a b c:Int):gZ (w+a) (w+b) (w+c)=w+gZ a b c:=by simp only[gZ,Int.add_lt_add_iff_left];split<;>split<;>rfl
theorem FH(w a b c:Int):lZ (w+a) (w+b) (w+c)=w+lZ a b c:=by simp only[lZ,Int.add_lt_add_iff_left];split<;>split<;>rfl
theorem GC{x y w:Int}(J: -5<=x)(I: -5<=y)(z:x+y<=5)(h1:16<=w)(h2:w<=48):ly (64*x+y) (w+x) (w+y) (w+(-x-y))=true:=by have hp:=gB (gB Fe x (gs J (by exact aM 0xb51288512ba181022751281112a18 [] [_,_] z I))) y (gs I (by exact aM 0xb51288512ab181022751281112a18 [] [_,_] z J));unfold Ib at hp;rw[decide_eq_false (by exact vq (ao 0x512ba18512ba18 [] [_,_] z)),Bool.false_or]at hp;have hM:gZ x y (-x-y)<=10/\x<=gZ x y (-x-y)/\y<=gZ x y (-x-y)/\ -x-y<=gZ x y (-x-y):=⟨Jv (P:=(· <=10)) (HO z I) (HO (Int.add_comm x y▸z) J) (KU J I),wi⟩;have Y: -5<=lZ x y (-x-y)/\lZ x y (-x-y)<=x/\lZ x y (-x-y)<=y/\lZ x y (-x-y)<= -x-y:=⟨IA (P:=(-5<= ·)) J I (KS z),vO⟩;generalize hg:gZ x y (-x-y)=M at*;generalize hl:lZ x y (-x-y)=N at*;have D:=gB (gB zu (w+N) (gs (by exact aM 0xb51288a10228ba1b128 [] [_,_] h1 Y.1) (by lia))) (M-N) (gs (by exact aM 0xcb8ac8ba6028 [] [_,_,_] hM.2.1 Y.2.1) (by exact aM 0xb51288a12a810227021112ba618 [] [_,_] hM.1 Y.1));rw[decide_eq_false (by exact vq (aM 0xa12c83022a83a22bc6ba118 [] [_,_,_] h2 hM.1)),Bool.false_or,show w+N+(M-N)=w+M by exact dq (aI 0xca1bc6ba118 [] [_,_,_]) (aI 0xcb6ca11ba18 [] [_,_,_])]at D;refine GD (g:=w+M) (l:=w+N) ⟨by exact aM 0xb51288a10228ba1b128 [] [_,_] h1 J,by exact cU 0xa12c8cb83022a83a22ba18 [] [_,_,_] h2 hM.2.1 hM.1⟩ ⟨by exact aM 0xb51288a10228ba1b128 [] [_,_] h1 I,by exact cU 0xa12c8cb83022a83a22ba18 [] [_,_,_] h2 hM.2.2.1 hM.1⟩ ⟨by exact aM 0x512cb18a10228cb86a1b128 [] [_,_,_] h1 z,by exact cU 0xa12d8dcb8683022a83a22cb86a18 [] [_,_,_,_] h2 hM.2.2.2 hM.1⟩ (by rw[Gj,hg]) (by rw[FH,hl]) (by exact aM 0xc51288a12b8f12ca1ba168 [] [_,_,_] hM.1 Y.1) D ?_;rw[show w+M-(w+x)=M-x by exact dq (aI 0xcb6ca1ba168 [] [_,_,_]) (aI 0xbc1ac16ba68 [] [_,_,_]),show w+M-(w+y)=M-y by exact dq (aI 0xcb6ca1ba168 [] [_,_,_]) (aI 0xbc1ac16ba68 [] [_,_,_]),show w+M-(w+(-x-y))=M-(-x-y) by exact dq (aI 0xdc86b6dc86a1ba168 [] [_,_,_,_]) (aI 0xcb86d1ad16cb86a68 [] [_,_,_,_]),show w+M-(w+N)=M-N by exact dq (aI 0xcb6ca1ba168 [] [_,_,_]) (aI 0xbc1ac16ba68 [] [_,_,_])];exact hp
theorem ES{q:Int}{w:List Nat}(Y:∀x∈w,x<3)(h1:1<=w.length)(z:w.length<=5)(hq:q∈BA){white:Int}(w1:16<=white)(w2:white<=48):
 Bu q w white (fN q (w.count 0) (w.count 1) (w.count 2)::cQ q (rO (w.count 0) (w.count 1) (w.count 2)) [cy q (w.count 0) (w.count 1) (w.count 2) (w.count 0),cy q (w.count 0) (w.count 1) (w.count 2) (w.count 1),cy q (w.count 0) (w.count 1) (w.count 2) (w.count 2)] 3):=by
 have W:=vt (q:=q) Y w.length (le_refl _);rw[take_of_length_le (le_refl _)]at W;have hs:=lj Y;have ht:=ka (gB AX q hq) (a:=w.count 0) (b:=w.count 1) (c:=w.count 2) (by exact aM 0xd1120cba11d0cba111120 [_,_,_,_] [] (ju hs) h1) (by exact aM 0x512d0dcba110512cba110 [_,_,_,_] [] (dX hs) z);unfold JO at ht;simp only[and_eq_true,beq_iff_eq]at ht;obtain⟨t1,t2⟩:=ht;have q9:q.natAbs<=9:=by
  have:(BA.all λq=>decide (q.natAbs<=9))=true:=by decide
  exact of_decide_eq_true (gB this q hq)
 have Qw:∀key∈(cu q w w.length).1,∃x y:Int,key=64*x+y/\ -5<=x/\ -5<=y/\x+y<=5:=λkey hk=>by refine mf (W.pt key hk) λx y e I D i3=>?_;exact⟨x,y,e,by exact cU 0x512d0dcba110acba11788a51288 [_,_,_,_] [_] I (dX hs) z,by exact cU 0x512d0dcba110acba11788a51288 [_,_,_,_] [_] D (dX hs) z,by exact cU 0x512d0dcba110cba117ba18512ba18 [_,_,_,_] [_,_] i3 (dX hs) z⟩
 have LQ:∀x y:Int,-5<=x-> -5<=y->x+y<=5->ez (64*x+y)=x:=λx y I D i3=>by unfold ez;rw[fdiv_eq_ediv_of_nonneg _ (by decide)];lia
 refine⟨z,Y,q9,W.ok.len,?_,λkey hk=>?_,?_⟩
 .have h2:2^(2*w.length)<=2^10:=pow_le_pow_right (by decide) (by exact ao 0x512a1a12a2130 [_] [] z);exact le_trans (qz q9 z w.length z).cnt (le_trans h2 (by decide))
 .refine mf (Qw key hk) λx y e I D i3=>?_;have hr:=LQ x y I D i3;rw[<-e]at hr;refine⟨?_,?_⟩
  .unfold ra rb rc;rw[hr];have:=GC I D i3 w1 w2;rw[<-e]at this;rw[show white+(key-64*x)=white+y by exact dq (ao 0xdc40231b8da1c4023b6a18 [] [_,_,_,_] (t7 e)) (ao 0xcbd402318d4023c6a1ba18 [] [_,_,_,_] (rQ e)),show white+(63*x-key)=white+(-x-y) by exact dq (ao 0xcdb402318db86a1cb3f236a18 [] [_,_,_,_] (rQ e)) (ao 0xcb40231d8db3f236a1cb86a18 [] [_,_,_,_] (t7 e))];exact this
  .rw[hr];exact lt_of_lt_of_le (show x.natAbs<2^5 by exact(Int.le_total 0 (x)).elim (λJ=>cU 0xb51288512ba18aa7851215112a10 [_] [_,_] (t4 J) i3 D) λJ=>aM 0xa51288a8a7851215112a10 [_] [_] (G7 J) I) (pow_le_pow_right (by decide) (by decide):2^5<=2^4000)
 .rw[B2 W.ok,W.f,J3,t2,t1]
end
noncomputable abbrev NF:=List Int×Nat×Nat×Nat
theorem mu(cs:List Int)(b:Nat):(bump cs b).length=if cs.length<=b then b+1 else cs.length:=by
 unfold bump;rw[length_set];split
 .rw[length_append,length_replicate];exact HP ‹_›
 .rfl
theorem kE(cs:List Int)(b i:Nat):(bump cs b).getD i 0=cs.getD i 0+if i=b then 1 else 0:=by
 unfold bump;have z:∀j,(if cs.length<=b then cs++replicate (b-cs.length+1) 0 else cs).getD j 0=cs.getD j 0:=λj=>by
  split
  .simp only[getD_eq_getElem?_getD,List.getElem?_append];split
   .rfl
   .rename_i h;rw[List.getElem?_eq_none (Nat.le_of_not_lt h)];simp only[List.getElem?_replicate];split<;>rfl
  .rfl
 have hl:b< (if cs.length<=b then cs++replicate (b-cs.length+1) 0 else cs).length:=by
  split
  .rw[length_append,length_replicate,HP ‹_›];exact lt_succ_self b
  .exact Nat.not_le.mp ‹_›
 rw[z b];by_cases h:i=b
 .subst h;rw[getD_eq_getElem?_getD,List.getElem?_set_self hl,if_pos rfl];rfl
 .rw[getD_eq_getElem?_getD,List.getElem?_set_ne (Ne.symm h),<-getD_eq_getElem?_getD,z i,if_neg h];exact dq (aI 172456 [] [_]) (aI 10496536 [] [_])
theorem Ax{l z:List Int}(h:l.length=z.length)(hg:∀i,l.getD i 0=z.getD i 0):l=z:=by refine List.ext_getElem h λi I D=>?_;have:=hg i;rw[getD_eq_getElem?_getD,getD_eq_getElem?_getD,getElem?_eq_getElem I,getElem?_eq_getElem D]at this;exact this
theorem yi(cs:List Int)(a b:Nat):bump (bump cs a) b=bump (bump cs b) a:=by
 refine Ax ?_ λi=>?_
 .rw[mu,mu,mu,mu]
  (repeat' split)<;>lia
 .rw[kE,kE,kE,kE];exact dq (aI 0xbca11cba118 [] [_,_,_]) (aI 0xbca11cba118 [] [_,_,_])
theorem mU(runs:List Nat)(cut:Nat):(fI runs cut).Perm runs:=by unfold fI;exact List.perm_append_comm.trans (List.Perm.of_eq (take_append_drop cut runs))
theorem Ao(cs:List Int)(runs:List Nat)(cut:Nat):(fI runs cut).foldl bump cs=runs.foldl bump cs:=
 (mU runs cut).foldl_eq' (λx _ y _ z=>yi z x y) cs
noncomputable def sgn(runs:List Nat):Nat:=(runs.map (· +1)).sum
theorem Cd(runs:List Nat)(cut:Nat):sgn (fI runs cut)=sgn runs:=((mU runs cut).map _).sum_nat
theorem scan_blank:∀(r:Nat)(l:List Nat)(cs:List Int)(b n z:Nat),scan (replicate r 32++l) cs b n z=scan l cs (b+r) (n+r) z
 |0,_,_,_,_,_=>rfl
 |r+1,l,cs,b,n,z=>by rw[replicate_succ,cons_append];show scan (replicate r 32++l) cs (b+1) (n+1) z=_;rw[scan_blank r l,show b+1+r=b+(r+1) by exact dG (aI 77319451637358864 [_,_] []) (aI 0xb112a11112b1a10 [_,_] []),show n+1+r=n+(r+1) by exact dG (aI 77319451637358864 [_,_] []) (aI 0xb112a11112b1a10 [_,_] [])]
theorem oZ:∀(rs l:List Nat)(cs:List Int)(n z:Nat),scan ((rs.map λr=>replicate r 32++[9]).flatten++l) cs 0 n z=scan l (rs.foldl bump cs) 0 (n+sgn rs) (z+rs.length)
 |[],_,_,_,_=>rfl
 |r::rs,l,cs,n,z=>by
  rw[map_cons,flatten_cons,append_assoc,append_assoc,scan_blank];show scan ((rs.map λr=>replicate r 32++[9]).flatten++l) (bump cs (0+r)) 0 (n+r+1) (z+1)=_;rw[oZ rs l,zero_add,foldl_cons,length_cons];have:sgn (r::rs)=r+1+sgn rs:=by simp[sgn]
  rw[this,show n+r+1+sgn rs=n+(r+1+sgn rs) by exact dG (aI 0xc112b11a1c112ba1110 [_,_,_] []) (aI 0xc112ba111c112b11a10 [_,_,_] []),show z+1+rs.length=z+(rs.length+1) by exact dG (aI 77319451637358864 [_,_] []) (aI 0xb112a11112b1a10 [_,_] [])]
theorem jq(runs:List Nat)(cut behind:Nat)(l:List Nat)(cs:List Int)(n z:Nat):
 scan (aG runs cut behind++l) cs 0 n z=scan l (runs.foldl bump cs) behind (n+sgn runs+behind) (z+runs.length):=by
 unfold aG;rw[append_assoc];have:=oZ (fI runs cut) (replicate behind 32++l) cs n z;unfold fI at this;rw[this,scan_blank];have e1:=Ao cs runs cut;have e2:=Cd runs cut;have D:(fI runs cut).length=runs.length:=mj;unfold fI at e1 e2 D;rw[e1,e2,D,zero_add]
noncomputable def nf(runs:List Nat)(behind:Nat):NF:=(runs.foldl bump [],behind,sgn runs+behind,runs.length)
noncomputable def Lu(runs:List Nat)(behind:Nat):NF:=(runs.foldl bump [],behind+1,sgn runs+behind+1,runs.length)
noncomputable def Lr(runs:List Nat)(behind:Nat):NF:=(runs.foldl bump (bump [] 0),behind,1+sgn runs+behind,1+runs.length)
theorem EH(runs:List Nat)(cut behind:Nat):eD (tx (aG runs cut behind++[120,32,9]))=nf runs behind:=by show scan (aG runs cut behind++[120,32,9]) [] 0 0 0=_;rw[jq,zero_add,zero_add];rfl
theorem HT(runs:List Nat)(cut behind:Nat):eD (tx (aG runs cut behind++[10,32]))=nf runs behind:=by show scan (aG runs cut behind++[10,32]) [] 0 0 0=_;rw[jq,zero_add,zero_add];rfl
theorem HR(runs:List Nat)(cut behind:Nat):eD (tx (aG runs cut behind++[32,120]))=Lu runs behind:=by show scan (aG runs cut behind++[32,120]) [] 0 0 0=_;rw[jq,zero_add,zero_add];rfl
theorem K4(runs:List Nat)(cut behind:Nat):eD (tx (9::aG runs cut behind))=Lr runs behind:=by show scan (aG runs cut behind) (bump [] 0) 0 1 1=_;have:=jq runs cut behind [] (bump [] 0) 1 1;rw[append_nil]at this;rw[this];rfl
noncomputable def rW(runs:List Nat)(size:Nat):Nat:=(runs.map λr=>r/size+1).sum
noncomputable def DC(runs:List Nat)(behind size:Nat):Int:=((behind+size*rW runs size:Nat):Int)
theorem lq(size:Nat):∀(r:Nat)(l:List Nat)(c:Int),(replicate r 32++l).foldl (cG size) c=l.foldl (cG size) (c+r)
 |0,l,c=>by simp
 |r+1,l,c=>by rw[replicate_succ,cons_append,foldl_cons];show(replicate r 32++l).foldl (cG size) (c+1)=_;rw[lq size r l,show c+1+(r:Int)=c+((r+1:Nat):Int) by exact dq (aI 0x112a17a1a7112a118 [_] [_]) (aI 0xa7112a11112a17a18 [_] [_])]
theorem yO{size m r:Nat}(h:0<size):cG size ((size*m:Nat)+(r:Int)) 9=((size*(m+(r/size+1)):Nat):Int):=by
 show(size*m:Nat)+(r:Int)+(size-Int.fmod ((size*m:Nat)+(r:Int)) size)=_;have e:Int.fmod ((size*m:Nat)+(r:Int)) size=((r%size:Nat):Int):=by rw[<-natCast_add,Int.fmod_eq_emod_of_nonneg _ (natCast_nonneg size),<-Int.natCast_emod,Nat.mul_add_mod]
 rw[e];have z:=div_add_mod r size;have D:size*(m+(r/size+1))=size*m+size*(r/size)+size:=by rw[mul_add,mul_add,Nat.mul_one];exact dG (aI 0xcba11cb1a10 [_,_,_] []) (aI 0xcb1a1cba110 [_,_,_] [])
 rw[D];generalize size*(r/size)=x at*;generalize size*m=y at*;have:=mod_lt r h;exact dq (ao 0xde1b0cea117d7c76b7a7118 [_,_,_,_,_] [] (ju z)) (ao 0xdeb10e7c76d7a711cba1178 [_,_,_,_,_] [] (dX z))
theorem tI{size:Nat}(h:0<size):∀(z l:List Nat)(m:Nat),((z.map λr=>replicate r 32++[9]).flatten++l).foldl (cG size) ((size*m:Nat):Int)=l.foldl (cG size) ((size*(m+rW z size):Nat):Int)
 |[],l,m=>rfl
 |r::z,l,m=>by
  rw[map_cons,flatten_cons,append_assoc,append_assoc,lq];show((z.map λr=>replicate r 32++[9]).flatten++l).foldl (cG size) (cG size ((size*m:Nat)+(r:Int)) 9)=_;rw[yO h,tI h z l];have:rW (r::z) size=r/size+1+rW z size:=by simp[rW]
  rw[this,add_assoc]
theorem tJ(runs:List Nat)(cut behind:Nat){size:Nat}(h:0<size):aU (tx (aG runs cut behind)) size=DC runs behind size:=by show(aG runs cut behind).foldl (cG size) 0=_;unfold aG;have:=tI h (fI runs cut) (replicate behind 32) 0;unfold fI at this;rw[mul_zero]at this;refine Eq.trans this ?_;have hb:=lq size behind [] ((size*(0+rW (fI runs cut) size):Nat):Int);rw[append_nil]at hb;unfold fI at hb;rw[hb,foldl_nil];have hs:rW (fI runs cut) size=rW runs size:=((mU runs cut).map _).sum_nat;unfold fI at hs;rw[hs,zero_add];unfold DC;exact dq (aI 734837319448 [_,_] []) (aI 720331579768 [_,_] [])
noncomputable def xI(f:NF)(ts:Nat):Int:=f.2.1+ts*(fh f.1 ts (f.1.length-ts)+f.2.2.2)
noncomputable def runN(f:NF):Int:=if(f.2.1:Int)>f.1.length-1 then f.2.1 else f.1.length-1
noncomputable def yF(f g:NF):Nat:=((if runN g>runN f then runN g else runN f)+1).toNat
noncomputable def yD(f g:NF):Nat->List (List Int)
 |0=>[]
 |i+1=>if xI f (i+1)=xI g (i+1)then yD f g i else yD f g i++[[((i+1:Nat):Int),xI f (i+1),xI g (i+1)]]
noncomputable def qX(f g:NF):Nat->Bool
 |0=>true
 |i+1=>qX f g i&&decide (xI f (i+2)<xI g (i+2))
noncomputable def zR(f g:NF):Bool:=if f.2.2.1>=g.2.2.1 then false else if f.1.length<=1/\g.1.length<=1 then decide (f.2.2.2<=g.2.2.2)else qX f g (yF f g-1)
noncomputable def D8(f g:NF):Bool:=(f.1==g.1)&&((f.2.1:Int)==(g.2.1:Int))
theorem yC(a b:Str):∀i,fD a b i=yD (eD a) (eD b) i
 |0=>rfl
 |i+1=>by show(if aP a (i+1)=aP b (i+1)then fD a b i else fD a b i++[[((i+1:Nat):Int),aP a (i+1),aP b (i+1)]])=_;rw[yC a b i];rfl
theorem sS(a b:Str):∀i,fL a b i=qX (eD a) (eD b) i
 |0=>rfl
 |i+1=>by show(fL a b i&&decide (aP a (i+2)<aP b (i+2)))=_;rw[sS a b i];rfl
theorem zQ(a b:Str):gu a b=zR (eD a) (eD b):=by unfold gu;rw[sS];rfl
noncomputable def vB(over under:List Nat)(behind M:Nat):List (List Int):=(range (M+1)).map λ(i:Nat)=>[1+(i:Int),DC over behind (1+i),DC under behind (1+i)]
noncomputable def uZ(over under:List Nat)(behind M:Nat):List (List Int):=(vB over under behind M).filter λr=>Cy (tupI r)
noncomputable def FG(over under:List Nat)(behind M:Nat):List (List Int):=((vB over under behind M).filter λr=>Cw (tupI r)).map λr=>[(i3 (tupI r)).1,(i3 (tupI r)).2.1,(i3 (tupI r)).2.2+(i3 (tupI r)).1]
theorem zc(over under:List Nat)(cut behind M:Nat):fH (tx (aG over cut behind)) (tx (aG under cut behind)) M=vB over under behind M:=by
 unfold fH vB;refine map_congr_left λi _=>?_;have e:(1+(i:Int))=((1+i:Nat):Int):=by exact dq (aI 0xa11217a711218 [_] []) (aI 0xa71121a112178 [_] [])
 rw[e,tJ over cut behind (by exact aI 0xa11211120210 [_] []),tJ under cut behind (by exact aI 0xa11211120210 [_] [])]
theorem tC(over under:List Nat)(cut behind M:Nat):fS (tx (aG over cut behind)) (tx (aG under cut behind)) M=uZ over under behind M:=by unfold fS uZ;rw[zc]
theorem Iy(over under:List Nat)(cut behind M:Nat):uI (tx (aG over cut behind)) (tx (aG under cut behind)) M=FG over under behind M:=by unfold uI FG;rw[zc]
noncomputable def xB(l:List Nat):Nat:=l.foldl (λm x=>if m<x then x else m) 0
noncomputable def xW(over under:List Nat)(behind M:Nat):List (Nat×Nat):=(uZ over under behind M).map λr=>((i3 (tupI r)).1.toNat,(oL (tupI r)).toNat)
noncomputable def GH(over under:List Nat)(n behind:Nat):Bool:=
 let M:=xB (over++under++[behind])
 let f:=nf over behind
 let g:=nf under behind
 let wz:=uZ over under behind M
 (over++under++[behind]).contains M&&((over++under++[behind]).all λx=>decide (x<=M))&&decide (M<=1000)&&decide (over.length<=50)&&decide (under.length<=50)&&
 [D8 f g,zR f (Lu under behind),zR g (Lu over behind)]==[wz.isEmpty,wz.isEmpty,true]&&yD f g (yF f g)==wz&&yD f (Lr under behind) (yF f (Lr under behind))==FG over under behind M&&
 (wz.all λr=>decide (0<=oL (tupI r))&&decide (oL (tupI r)<=1000)&&decide ((i3 (tupI r)).1.toNat<n+1))&&xW over under behind M==xW over under 0 (xB (over++under++[0]))
noncomputable def pairF(n a b c:Nat):List (List Nat×List Nat×(Int->Int)):=([n,0,0],[a,b,c],λq=>fN q a b c)::([a,b,c].filter λm=>decide (0<m)).map λm=>([n,m,n-m,0,0],[a,b,c]++[m-1,n+1-m],λq=>cy q a b c m)
theorem AZ:vn (λa b c=>(pairF (a+b+c) a b c).all λp=>(range 4).all (GH p.1 p.2.1 (a+b+c)))=true:=by kernel_rfl
noncomputable def Ct(vs:List Int)(p:Nat×Nat):Int:=vs.getD p.1 0^p.2
noncomputable def GF(vs:List Int)(es:List (Nat×Nat))(num:Int):Bool:=(es.all λp=>decide ((vs.getD p.1 0).natAbs<=2^60)&&decide ((Ct vs p).natAbs<=2^60))&&cj (es.map (Ct vs))==num
noncomputable def JQ(n:Nat)(es:List (Nat×Nat))(f:Int->Int):Bool:=decide (es.length<=30)&&BA.all λq=>GF ((bQ q n).map (·.1)) es (f q)
theorem A0:vn (λa b c=>(pairF (a+b+c) a b c).all λp=>JQ (a+b+c) (xW p.1 p.2.1 0 (xB (p.1++p.2.1++[0]))) p.2.2)=true:=by kernel_rfl
theorem lB{x:Int}{k:Nat}(h:x.natAbs<2^k)(z:k<=4000):x.natAbs<big:=lt_of_lt_of_le h (pow_le_pow_right (by decide) z)
theorem zj(vs:List Int)(l:List (List Int)):l.map (λr=>sv vs (tupI r))=(l.map λr=>((i3 (tupI r)).1.toNat,(oL (tupI r)).toNat)).map (Ct vs):=by rw[map_map];rfl
theorem Cv{over under:List Nat}{n cut behind:Nat}{vs:List Int}{num:Int}(hv:vs.length=n+1)(h:GH over under n behind=true)(hl:(xW over under 0 (xB (over++under++[0]))).length<=30)(I:GF vs (xW over under 0 (xB (over++under++[0]))) num=true):
 ∃M,rK over under vs cut behind M/\jo (tx (aG over cut behind)) (tx (aG under cut behind)) M vs=num:=by
 unfold GH at h;refine Bs h λc1 c2 c3 c4 c5 c6 c7 c8 c9 ca=>?_;clear h;generalize xB (over++under++[behind])=M at*;have ca:=eq_of_beq ca;unfold GF at I;rw[<-ca]at I hl;simp only[and_eq_true]at I;obtain⟨x1,x3⟩:=I;have z:(uZ over under behind M).map (λr=>sv vs (tupI r))=(xW over under behind M).map (Ct vs):=zj vs _;have J:∀r∈uZ over under behind M,0<=oL (tupI r)/\oL (tupI r)<=1000/\(i3 (tupI r)).1.toNat<n+1:=λr D=>by have:=gB c9 r D;simp only[and_eq_true,decide_eq_true_eq]at this;exact⟨this.1.1,this.1.2,this.2⟩
 have Y:∀r∈uZ over under behind M,(vs.getD (i3 (tupI r)).1.toNat 0).natAbs<=2^60/\(sv vs (tupI r)).natAbs<=2^60:=λr D=>by have:=gB x1 _ (mem_map.mpr ⟨r,D,rfl⟩);simp only[and_eq_true,decide_eq_true_eq]at this;exact this
 refine⟨M,⟨of_decide_eq_true c4,of_decide_eq_true c5,List.contains_iff_mem.mp c1,λx hm=>of_decide_eq_true (gB c2 x hm),of_decide_eq_true c3,?_,?_,?_,λr D=>?_,λi=>?_⟩,?_⟩
 .have e:kU (tx (aG over cut behind++[120,32,9])) (tx (aG under cut behind++[10,32]))=D8 (eD (tx (aG over cut behind++[120,32,9]))) (eD (tx (aG under cut behind++[10,32]))):=rfl;rw[tC,e,zQ,zQ,EH,HT,HR,HR];exact eq_of_beq c6
 .have e:eX (tx (aG over cut behind++[120,32,9])) (tx (aG under cut behind++[10,32]))=yF (eD (tx (aG over cut behind++[120,32,9]))) (eD (tx (aG under cut behind++[10,32]))):=rfl;rw[tC,e,yC,EH,HT];exact eq_of_beq c7
 .have e:eX (tx (aG over cut behind++[120,32,9])) (tx (9::aG under cut behind))=yF (eD (tx (aG over cut behind++[120,32,9]))) (eD (tx (9::aG under cut behind))):=rfl;rw[Iy,e,yC,EH,K4];exact eq_of_beq c8
 .rw[tC]at D;obtain⟨i1,i2,i3⟩:=J r D;obtain⟨j1,j2⟩:=Y r D;exact⟨i1,i2,by rw[hv];exact i3,lB (k:=61) (lt_of_le_of_lt j1 (by decide)) (by decide),lB (k:=61) (lt_of_le_of_lt j2 (by decide)) (by decide)⟩
 .rw[tC,z];refine lB (iN (λx I=>?_) (by rw[length_map];exact hl) i) (by decide);refine aq (et I) λe he w=>?_;subst w;exact of_decide_eq_true (Bool.and_eq_true_iff.mp (gB x1 e he)).2
 .unfold jo;rw[tC,z];exact eq_of_beq x3
theorem sE{q:Int}{n a b c:Nat}{p:Pr}(h:p∈jN n a b c (fN q a b c) (cy q a b c a) (cy q a b c b) (cy q a b c c)):∃f∈pairF n a b c,p=(f.1,f.2.1,f.2.2 q):=by
 rcases dg h with rfl|h
 .exact⟨_,.head _,rfl⟩
 .refine aq (et h) λx I z=>?_;obtain rfl:=z;obtain⟨D,J⟩:=mem_filter.mp I;simp only[mem_cons,not_mem_nil,or_false]at D;refine⟨_,.tail _ (mem_map.mpr ⟨x.1,mem_filter.mpr ⟨?_,J⟩,rfl⟩),?_⟩<;>rcases D with rfl|rfl|rfl<;>first|rfl|simp
theorem Fg{q:Int}(I:q∈BA){a b c cut behind:Nat}(Y:1<=a+b+c)(z:a+b+c<=5)(hb:behind<4):
 wN (jN (a+b+c) a b c (fN q a b c) (cy q a b c a) (cy q a b c b) (cy q a b c c)) (bQ q (a+b+c)) cut behind (a+b+c):=by
 have hx:=ka A0 Y z;have hn:=ka AZ Y z;have D:=gB (gB tN q I) (a+b+c) (mem_range.mpr (by exact ao 0x512cba110612112cba1110 [_,_,_] [] z));unfold GG at D;rw[and_eq_true]at D;refine⟨λp hp=>?_,?_,eq_of_beq D.2,z⟩
 .refine aq (sE hp) λf J w=>?_;subst w;have hs:=gB hx f J;unfold JQ at hs;rw[and_eq_true]at hs;exact Cv (by rw[length_map,jk]) (gB (gB hn f J) behind (mem_range.mpr hb)) (of_decide_eq_true hs.1) (gB hs.2 q I)
 .unfold jN ng;rw[length_cons,length_map];have:=length_filter_le (λx:Nat×Int=>decide (0<x.1)) [(a,cy q a b c a),(b,cy q a b c b),(c,cy q a b c c)];simp only[length_cons,length_nil]at this;exact ao 0x11211211202111a0a12112a10 [_] [] this
theorem EM{q:Int}(Y:q∈BA){n:Nat}(h:n<=5):wM q n:=by
 have I:=gB (gB tN q Y) n (mem_range.mpr (by exact ao 0x512a0612112a10 [_] [] h));unfold GG at I;rw[and_eq_true]at I;have z:∀j,j<n->(∀x∈lg (bQ q j) (j+1),x.natAbs<=2^60)/\cj (lg (bQ q j) (j+1))≠0:=λj D=>by have:=gB I.1 j (mem_range.mpr D);simp only[and_eq_true,not_eq_true',beq_eq_false_iff_ne]at this;exact⟨λx J=>of_decide_eq_true (gB this.1 x J),this.2⟩
 exact⟨λj D=>(z j D).1,λj D=>(z j D).2⟩
theorem DG{q:Int}(z:q∈BA){a b c:Nat}(J:1<=a+b+c)(I:a+b+c<=5):(iu q (a+b+c)).fmod (eZ q [a,b,c])=0/\(fN q a b c).natAbs<2^60/\
 ∀m∈[a,b,c],fP (fN q a b c) q (a+b+c) m= .tup [.int (cy q a b c m),.int 0]/\(cy q a b c m).natAbs<2^60:=by
 have h:=ka (gB AY q z) J I;unfold JP at h;simp only[and_eq_true,beq_iff_eq,decide_eq_true_eq]at h;obtain⟨⟨e1,e2⟩,Y⟩:=h;refine⟨e1,e2,λm D=>?_⟩;have:=gB Y m D;simp only[and_eq_true,beq_iff_eq,decide_eq_true_eq]at this;refine⟨?_,this.2⟩;unfold fP;rw[this.1];rfl
theorem Hg{x:Nat}{k:Nat}(h:x<2^k)(z:k<=1000):x<2^1000:=lt_of_lt_of_le h (pow_le_pow_right (by decide) z)
theorem FD(c0 c1 c2 c3:Nat):∃n n0 n1 n2 s0 sr bx f0 f1 f2 num M,wO c0 c1 c2 c3 n n0 n1 n2 s0 sr bx f0 f1 f2 num M:=by
 have hw:∀x∈wd c0,x<3:=λx I=>D1 I;have hl:= @qy c0;have hs:=lj hw;refine oM (yH (w:=wd c0) c1 hw hl.2) λs0 sr ty=>?_;have hq:=H9 c2;have z:widthOf c2∈([6,7,8,9]:List Nat):=by unfold widthOf;have:c2/16%4<4:=mod_lt _ (by decide);simp only[mem_cons,not_mem_nil,or_false];exact KN (le_add_right 6 _) (add_le_add_left (Nat.le_of_lt_succ this) 6)
 have ET:=λwhite w1 w2=>ES (q:=iA c2) (white:=white) hw hl.1 hl.2 hq w1 w2;have Rn:kA (s0::(wd c0).map lt) 102=(wd c0).count 0:=ty.cn 0 (by decide);have Rl:kA (s0::(wd c0).map lt) 105=(wd c0).count 1:=ty.cn 1 (by decide);have Rk:kA (s0::(wd c0).map lt) 108=(wd c0).count 2:=ty.cn 2 (by decide);generalize (wd c0).count 0=a at*;generalize (wd c0).count 1=b at*;generalize (wd c0).count 2=c at*;have h1:1<=a+b+c:=by exact aM 0xd1120cba11d0cba111120 [_,_,_,_] [] (ju hs) hl.1
 have h2:a+b+c<=5:=by exact aM 0x512d0dcba110512cba110 [_,_,_,_] [] (dX hs) hl.2
 obtain⟨k1,k2,k3⟩:=DG hq h1 h2;have kW:=ka (gB AW _ z) h1 h2;unfold JN at kW;simp only[and_eq_true,beq_iff_eq,decide_eq_true_eq,List.contains_iff_mem,List.all_eq_true]at kW;obtain⟨⟨⟨⟨⟨⟨⟨⟨⟨w1,w2⟩,w3⟩,w4⟩,w5⟩,w6⟩,w7⟩,w8⟩,w9⟩,wa⟩:=kW;have J:6<=widthOf c2/\widthOf c2<=9:=by simp only[mem_cons,not_mem_nil,or_false]at z;exact KQ z
 obtain⟨num,D⟩:∃num:Nat,numOf (widthOf c2) a b c=num:=⟨(numOf (widthOf c2) a b c).toNat,(toNat_of_nonneg w2).symm⟩;rw[D]at w2 w3 w7 w8 w9 wa;rw[toNat_natCast]at w7;have e0:=k3 a (by simp);have e1:=k3 b (by simp);have e2:=k3 c (by simp);have hdiv:c2/64%33<33:=mod_lt _ (by decide);have L6:num<2^900:=by simpa using w3
 have Y:∀e:Nat,6<=e->e<=9->(2:Int)<=2^e/\(2:Int)^e<=1000:=λe h6 h9=>by have:e=6\/e=7\/e=8\/e=9:=KN h6 h9;rcases this with rfl|rfl|rfl|rfl<;>decide
 obtain⟨p1,p2⟩:=Y _ J.1 J.2;refine⟨a+b+c,a,b,c,s0,sr,fN (iA c2) a b c,cy (iA c2) a b c a,cy (iA c2) a b c b,cy (iA c2) a b c c,num,(Iq (eI (a+b+c) (rO a b c))).toNat,?_⟩
 exact{
  wn:=hs.symm
  ns:=rfl
  typed:=ty.typed
  chr:=ty.chr
  tl:=ty.tl
  low:=ty.low
  Kh:=ty.Kh
  fl:=ty.fl
  rd:=ty.rd
  k0:=Rn
  k1:=Rl
  k2:=Rk
  gr:=rfl
  OV:=k1
  nm:=D
  Of:=w1
  dig:=⟨w4,w5,w6,w7,kG (x:=(num:Int)) (k:=900) L6 (by decide)⟩
  O2:=⟨w8,w9,λx I=>by
   have h:=wa x I;by_cases hz:x.natAbs=0
   .rw[hz];decide
   .have:=(log2_lt hz).mpr h;exact ao 0x3e832112a1077632112a10 [_] [] this,p1,p2,lt_of_lt_of_le L6 (pow_le_pow_right (by decide) (by decide))⟩
  gb:=lt_of_lt_of_le k2 (pow_le_pow_right (by decide) (by decide))
  e0:=e0.1
  e1:=e1.1
  e2:=e2.1
  fb:=λx I=>by
   simp only[mem_cons,not_mem_nil,or_false]at I;rcases I with rfl|rfl|rfl
   .exact lB e0.2 (by decide)
   .exact lB e1.2 (by decide)
   .exact lB e2.2 (by decide)
  ET:=ET _ (by exact aI 0xa71022110228 [_] []) (by exact ao 0x2122112a103022a7102218 [_] [] hdiv)
  val:=EM hq h2
  Ll:=Fg hq h1 h2 (mod_lt _ (by decide))}
theorem xi:kI:=λscript _=>by refine kz (FD (ej script 0 17).toNat (ej script 1 2567090).toNat (ej script 2 529).toNat (ej script 3 7).toNat) λn n0 n1 n2 s0 sr bx f0 f1 f2 num M h=>?_;exact⟨_,_,_,_,n,n0,n1,n2,s0,sr,bx,f0,f1,f2,num,M,Bb,h⟩
theorem xD:LR.Holds:=holds_of xi
end Lw
theorem PySem.Challenge.cw_wb0103_01_holds : PySem.Challenge.rw_wb0103_01.Holds :=
 Lw.xD
